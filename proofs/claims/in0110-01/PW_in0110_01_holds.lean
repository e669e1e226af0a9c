import PyProof.Rows.All
import Wide.All
import OpenK.AllK
import Wide.FinOn
import PySem.Challenge.RW_in0110_01
set_option Elab.async false
set_option maxRecDepth 100000
set_option maxHeartbeats 8000000
set_option linter.unusedVariables false
set_option genSizeOf false
set_option genInjectivity false
open PySem PySem.W PyProof.Rows PySem.Calls
namespace Mine
/-- the text's top, without the statements whose names the law's view leaves loose -/
noncomputable def topView : Program := view PySem.Challenge.pw_in0110_01 [0, 2, 3, 5, 7, 9, 10, 12, 14, 15, 17, 18, 19, 20, 21, 22, 23, 24, 26, 28, 29, 30, 31, 32, 33, 34, 35, 36, 37, 38]
end Mine
section
local macro_rules | `(tactic| o_head $_) => `(tactic| skip)
/-- lays the written part of the heap: Mine.top.heap_1 -/
theorem Mine.top (h : PySem.Challenge.rw_in0110_01.row.Holds) : PySem.Challenge.rw_in0110_01.row.Holds := by
  k_head
  exact h
end
namespace Mine
noncomputable def topAt : List Addr := [2, 3, 15, 17, 18, 20, 21, 22, 24, 25, 27, 28, 29, 31, 32, 34, 35, 36, 38, 39, 41, 42, 43, 50, 52, 53, 55, 56, 57, 58, 59, 62, 69, 71, 72, 74, 75, 76, 78, 79, 81, 82, 83, 85, 86, 88, 89, 90, 91, 92, 95, 97, 98, 100, 101, 102, 104, 105, 107, 108, 109, 111, 112, 114, 115, 116, 118, 119, 121, 122, 123, 125, 126, 128, 129, 130, 132, 133, 135, 136, 137, 139, 140, 142, 143, 144, 146, 147, 149, 150, 151, 153, 154, 156, 157, 158, 160, 161, 163, 164, 165, 167, 168, 170, 171, 172, 174, 175, 177, 178, 179, 180, 182, 183, 185, 186, 187, 190, 191, 192, 195, 196, 197, 199, 200, 202, 203, 204, 206, 207, 209, 210, 211, 213, 214, 216, 217, 218, 220, 221, 223, 224, 225, 227, 228, 230, 231, 232, 234, 235, 237, 238, 239, 241, 242, 244, 245, 246, 248, 249, 251, 252, 253, 256, 257, 258, 261, 262]
theorem topAt_is (P : Params) : topAt = (top.heap_1 P).map (·.1) := by kernel_rfl
noncomputable abbrev topHook : Hook := kmHook top.heap_1 topAt topAt_is [219, 226]
theorem top_names : namesResolve PySem.Challenge.rw_in0110_01.prog = true := by kernel_rfl
theorem top_roads : noRoadLSs { strict := !(importedModules PySem.Challenge.rw_in0110_01.prog.main.body).all cThrough.contains, foot := none, bare := (["vars", "dir", "locals"] : List Str).filter (readsOut PySem.Challenge.rw_in0110_01.prog PySem.Challenge.rw_in0110_01.prog.main.body) } PySem.Challenge.rw_in0110_01.prog.main.body = true := by kernel_rfl
theorem top_looks : looksOpen PySem.Challenge.rw_in0110_01.prog = true := by
  unfold looksOpen
  rw [top_names, top_roads]
  kernel_rfl
theorem top_row : PySem.Challenge.rw_in0110_01.row.wellSaid = true := by
  unfold OpenRow.wellSaid OpenRow.partSaid
  rw [show looksOpen PySem.Challenge.rw_in0110_01.row.prog = true from top_looks]
  kernel_rfl
theorem top_said : PySem.Challenge.rw_in0110_01.wellSaid = true := by
  unfold OpenLaw.wellSaid
  rw [top_row]
  kernel_rfl
theorem top_well : (chainsOk topView && opensWell PySem.Challenge.rw_in0110_01.row.prog && (frees PySem.Challenge.rw_in0110_01.row.toRowW && PySem.Challenge.rw_in0110_01.row.within.isEmpty)) = true := by kernel_rfl
noncomputable abbrev topXt (s : Shared) : Bool := xlAt topView [] s && recOk (RowW.records (OpenRow.toRowW PySem.Challenge.rw_in0110_01.row)) s
theorem top_left : LeftO PySem.Challenge.rw_in0110_01.row.prog topView [Str.ofString "relpath"] topXt topHook.obs topHook.val 3152 := by
  intro w; kernel_rfl
end Mine
namespace Mine
/-- the law holds if its walk behind the text's top does -/
theorem top_holds {d : DefRec} {kwd : List (Str × Expr)} (hdef : defOf topView PySem.Challenge.rw_in0110_01.row.name = some (d, kwd)) (hp : PySem.Challenge.rw_in0110_01.row.prog.theDef PySem.Challenge.rw_in0110_01.row.name = some (d.params, d.body, d.scope)) (hk : kwWritten? d.params.kwonlyargs d.params.kw_defaults = some kwd)
    (hw : (OpenRow.toRowW PySem.Challenge.rw_in0110_01.row).promised)
    (hc : WalkO topView [Str.ofString "relpath"] (XL topView []) (kmHook top.heap_1 topAt topAt_is [219, 226]).says (OpenRow.toRowW PySem.Challenge.rw_in0110_01.row) d kwd fun f vs => PySem.call f vs) : PySem.Challenge.rw_in0110_01.Holds :=
  holds_law top_said fun said => holds_open (Yf := topHook.obs) (Ya := topHook.val) top_left topHook.of topHook.keeps
    (fun s e => xl_of s (Bool.and_eq_true_iff.mp e).1) XL.keeps hdef hp hk (fun s e => recFacts_of (Bool.and_eq_true_iff.mp e).2) (by rfl) said top_well ⟨rfl, rfl, rfl, rfl, rfl, by decide +kernel⟩ hw hc
end Mine

/-- the head leaves the walk set for tops: the parts are walked without -/
theorem Mine.top_off : True := by w_top off; trivial
namespace Mine
open PySem (wpAny)
theorem kind_isn : builtinKind "issubclass.nested" = none := by decide +kernel
theorem plain_isn : plainId "issubclass.nested" = true := by decide +kernel
theorem args_isn (a b c : Value) : argsOk "issubclass.nested" ⟨[a, b, c], []⟩ := by unfold argsOk; kernel_rfl
theorem sub_str_str : isSubtype (.type "str") (.type "str") = pure true := by rw [isSubtype_type]; kernel_rfl
theorem typeOf_typestr : typeOf (.type "str") = pure (.type "type") := by kernel_rfl

section
variable {prog : Program} {w : World} {A : Around} {E : Value → Shared → Prop}
theorem isn_str {k : Value} {dep : Int} {tk : Tok} {s : Shared} {Q : Fin → Shared → Prop} (hk : k = .int dep tk) (hq : Q (.done (.ret (.bool true))) s) :
    wpAny (model prog w) A (Builtin.«issubclass.nested» ⟨[.type "str", .type "str", k], []⟩) Q E s := by
  subst hk
  have hm := typeOf_typestr
  have hs := sub_str_str
  repeat (any_goals (first | assumption | (rw [if_pos hm]) | (rw [hs]) | wp_step))

theorem isn_tuple {tp : Addr} {c2 : List Value} {cs : List Value} (hcs : cs = .type "str" :: c2) {tk : Tok} {s : Shared} {Q : Fin → Shared → Prop} (htp : s.heap.get? tp = some { cls := .type "tuple", data := .seq cs.toArray })
    (hq : ∀ tk', Q (.done (.ret (.bool true))) { s with toks := tk' }) :
    wpAny (model prog w) A (Builtin.«issubclass.nested» ⟨[.type "str", .ref tp, .int 0 tk], []⟩) Q E s := by
  obtain ⟨h, g, d, t, os⟩ := s
  have hT2 : (⟨h, g, d, t, os⟩ : Shared).TypeIs (.ref tp) "tuple" := ⟨_, htp, rfl⟩
  have f1 := F.isi_sub_tuple
  repeat (any_goals (first | assumption | wp_step))
  refine wpAny_arrayLoop ?_
  simp only [Option.getD_some, List.toList_toArray]
  subst hcs
  rw [List.forIn_cons]
  refine wpAny_bind (wpAny_bind (call_function_meets (S := fun _ R s => R (.ok (.ret (.bool true))) s) kind_isn plain_isn F.entry_issubclass_nested (args_isn _ _ _) (fun _ _ _ _ _ hs => isn_str rfl hs) ?_))
  show wpAny _ _ (truthy (.bool true) >>= _) _ _ _
  refine wpAny_bind (m := truthy (.bool true)) (wpAny_pure ?_)
  refine wpAny_bind (wpAny_pure (wpAny_pure (wpAny_pure ?_)))
  repeat (any_goals (first | assumption | wp_step))
  exact hq _
theorem issub_call {tp : Addr} {c2 : Value} {s : Shared} {Q : Value → Shared → Prop} (htp : s.heap.get? tp = some { cls := .type "tuple", data := .seq #[.type "str", c2] })
    (hq : ∀ tk', Q (.bool true) { s with toks := tk' }) : wpAny (model prog w) A (call (.builtin "issubclass") [.type "str", .ref tp]) Q E s :=
  call_issubclass (S := fun _ R s => s.heap.get? tp = some { cls := .type "tuple", data := .seq #[.type "str", c2] } ∧ ∀ tk', R (.ok (.ret (.bool true))) { s with toks := tk' })
    (fun _ _ _ _ _ hs => issubclass_outer (isn_tuple rfl hs.1 hs.2)) ⟨htp, hq⟩
end
end Mine

namespace Mine
noncomputable abbrev Lg := List (Addr × Obj)
/-- in any frame of the K context a call of f with data ds comes back with r, the ledger as it was but for new objects at its end -/
noncomputable def Fn (w : World) (f : Addr) (d : Nat) (G : List Dat → Dat → Prop) : Prop :=
  ∀ (loose : List Str) (mean : ExcName → Option Value) (mg mb : Str → Option Value) (dp un : Nat) (gd : Option (List Code)) (cn : Str) (cs : Scope) (a : Addr) (ccd : Value) (cl : List (Str × Addr)) (outer : List Env) (A₀ : Around) (base h₀ : Heap) (L : Addr) (m : Str → Option Value) (news : Lg) (s : Shared) (Q E : Value → Shared → Prop) (vs : List Value) (ds : List Dat) (r : Dat),
    Below A₀ base outer h₀ → Fr h₀ L s.heap m → (Mine.top.heap_1 w.params).In h₀ → News h₀ L s.heap news → Top topProg loose mean mg mb h₀ → cs.kind = .function → G ds r → DatAll news vs ds → dp + d < recursionLimit → un + 8 * d + 64 < cLine →
    (∀ v tl h' tk', Fr h₀ L h' m → News h₀ L h' (news ++ tl) → (∀ q ∈ news, ∀ p ∈ tl, q.1 < p.1) → DatIn tl v r → Q v { s with heap := h', toks := tk' }) →
    wpAny (model PySem.Challenge.rw_in0110_01.row.prog w) (ktrTop dp un gd cn cs L a ccd cl outer) (call (.ref f) vs) Q E s
theorem fillT (_w : World) : PySem.Challenge.rw_in0110_01 = PySem.Challenge.rw_in0110_01 ∧ Mine.top.heap_1 = Mine.top.heap_1 := ⟨rfl, rfl⟩

theorem viaSub {p : Addr × Obj} {a b : Lg} (h : p ∈ a) (hs : ∀ p ∈ a, p ∈ b) : p ∈ b := hs p h
theorem subA {a b c : Lg} (h1 : ∀ p ∈ a, p ∈ c) (h2 : ∀ p ∈ b, p ∈ c) : ∀ p ∈ a ++ b, p ∈ c := fun p h => (List.mem_append.mp h).elim (h1 p) (h2 p)
theorem subC {q : Addr × Obj} {a c : Lg} (h1 : q ∈ c) (h2 : ∀ p ∈ a, p ∈ c) : ∀ p ∈ q :: a, p ∈ c := List.forall_mem_cons.mpr ⟨h1, h2⟩
theorem subN {c : Lg} : ∀ p ∈ ([] : Lg), p ∈ c := fun _ h => (nomatch h)
theorem subL {a b c : Lg} (h : ∀ p ∈ a, p ∈ b) : ∀ p ∈ a, p ∈ b ++ c := fun p hp => List.mem_append_left _ (h p hp)
theorem subR {a b c : Lg} (h : ∀ p ∈ a, p ∈ c) : ∀ p ∈ a, p ∈ b ++ c := fun p hp => List.mem_append_right _ (h p hp)
theorem subI {a : Lg} : ∀ p ∈ a, p ∈ a := fun _ h => h
theorem subW {q : Addr × Obj} {a c : Lg} (h : ∀ p ∈ a, p ∈ c) : ∀ p ∈ a, p ∈ q :: c := fun p hp => .tail _ (h p hp)
theorem allLt_mem {d : Addr} {l : Lg} (h : AllLt d l) : ∀ q ∈ l, q.1 < d := by
  induction l with
  | nil => intro q hq; cases hq
  | cons x r ih =>
    intro q hq
    cases hq with
    | head => exact h.1
    | tail _ hq => exact ih h.2 q hq
theorem lg_sub0 {h₀ h : Heap} {L : Addr} {news nn : Lg} (N : News h₀ L h nn) (hs : ∀ p ∈ news, p ∈ nn) : News h₀ L h (news ++ []) := by
  rw [List.append_nil]; exact fun p hp => N p (hs p hp)

section
variable {w : World} {f : Addr} {d : Nat} {G : List Dat → Dat → Prop} {loose : List Str} {mean : ExcName → Option Value} {mg mb : Str → Option Value} {dp un : Nat} {gd : Option (List Code)} {cn : Str} {cs : Scope} {a : Addr} {ccd : Value} {cl : List (Str × Addr)} {outer : List Env} {A₀ : Around} {base h₀ : Heap} {L : Addr} {m : Str → Option Value} {news : Lg} {s : Shared} {Q E : Value → Shared → Prop} {vs : List Value} {ds : List Dat}
theorem use_str {y : Str} (C : Fn w f d G) (B : Below A₀ base outer h₀) (F : Fr h₀ L s.heap m) (X : (Mine.top.heap_1 w.params).In h₀) (N : News h₀ L s.heap news) (T : Top topProg loose mean mg mb h₀) (hk : cs.kind = .function) (D : DatAll news vs ds) (g : G ds (.str y)) (hd : dp + d < recursionLimit) (hu : un + 8 * d + 64 < cLine)
    (ret : ∀ t h' tk', Fr h₀ L h' m → News h₀ L h' news → Q (.str y t) { s with heap := h', toks := tk' }) :
    wpAny (model PySem.Challenge.rw_in0110_01.row.prog w) (ktrTop dp un gd cn cs L a ccd cl outer) (call (.ref f) vs) Q E s :=
  C _ _ _ _ _ _ _ _ _ _ _ _ _ _ _ _ _ _ _ _ _ _ _ _ _ B F X N T hk g D hd hu fun v tl h' tk' F' N' _ D' => by
    cases D'; exact ret _ _ _ F' fun p hp => N' p (List.mem_append_left _ hp)
end
end Mine
local macro_rules | `(tactic| walk_at "mMEM") => `(tactic| first | assumption | exact List.Mem.head _ | (refine List.mem_append_left _ ?_; walk_at "mMEM") | (refine List.mem_append_right _ ?_; walk_at "mMEM") | (refine List.Mem.tail _ ?_; walk_at "mMEM"))
local macro_rules | `(tactic| walk_at "mSUB") => `(tactic| first | exact Mine.subI | exact Mine.subN | (refine Mine.subA ?_ ?_ <;> walk_at "mSUB") | (refine Mine.subC ?_ ?_; walk_at "mMEM"; walk_at "mSUB") | (refine Mine.subL ?_; walk_at "mSUB") | (refine Mine.subR ?_; walk_at "mSUB") | (refine Mine.subW ?_; walk_at "mSUB"))
local macro_rules | `(tactic| walk_at "call builtin:issubclass") => `(tactic| (k_here; (with_reducible show wpAny _ _ (call (Value.builtin _) [Value.type _, Value.ref _]) _ _ _); k_dflt (refine' Mine.issub_call ?k1 ?_; (case k1 => exact News.get (by k_asm) (by k_mem)); k_whole); intro tk'))
namespace Mine
theorem fn_fspath (w : World) : Fn w 108 4 (fun ds r => ∃ x, ds = [.str x] ∧ r = .str x) := by
  unfold Mine.Fn
  intro loose mean mg mb dp un gd cn cs a ccd cl outer A₀ base h₀ L m news s Q E vs ds r B F X N T hk hG hD hd hu hret
  have hfill := Mine.fillT w
  revert hfill
  k_fill
  intro hfill
  clear hfill
  obtain ⟨x, rfl, rfl⟩ := hG
  obtain _ | ⟨⟨⟩ , ⟨⟩⟩ := hD
  refine wpAny_call ?_
  k_dflt ktr_enter
  repeat' (first | (k_unfold; (try dsimp only)) | (law_purse 150000 => walk1) | (law_purse 150000 => (dsimp only; walk1)) | fail "no step")
  all_goals (refine' hret _ [] _ _ ?e2 (Mine.lg_sub0 ?e3 ?e4) (fun _ _ _ h => nomatch h) ?e1; (case e2 => k_asm); (case e3 => k_asm); (case e4 => (first | exact fun _ h => h | (intro p hp; simp only [List.mem_cons, List.mem_append, hp, or_true, true_or]))); (case e1 => first | exact DatIn.str _ _ | exact DatIn.bool _ | exact DatIn.int _ _ | exact DatIn.none))
end Mine
namespace Mine
theorem slot_fn_sa : Slot "function" "__setattr__" "object.__setattr__" := .of (owner := "object") (n := "__setattr__") (by rw [typeLookup_type, builtinLookup_eq_fast]; kernel_rfl) (by decide +kernel) (by decide +kernel) (by decide +kernel)
    (by first | exact .inl (by decide +kernel) | exact .inr (by decide +kernel)) (by rw [isSubtype_type]; kernel_rfl)
theorem mro_fn : mroOf (.type "function") = pure [.type "function", .type "object"] := by kernel_rfl
theorem look_fn_span : typeLookup (.type "function") (Str.ofString "span") = pure none := by rw [typeLookup_type, builtinLookup_eq_fast]; kernel_rfl
theorem look_fn_search : typeLookup (.type "function") (Str.ofString "search") = pure none := by rw [typeLookup_type, builtinLookup_eq_fast]; kernel_rfl
theorem own_fn_sa : classOwn (.type "function") (Str.ofString "__setattr__") = pure none := by kernel_rfl
theorem own_ob_sa : classOwn (.type "object") (Str.ofString "__setattr__") = pure (some (.builtin "object.__setattr__")) := by kernel_rfl
theorem args_sa (a b c : Value) : argsOk "object.__setattr__" ⟨[a, b, c], []⟩ := by unfold argsOk; kernel_rfl
section
variable {prog : Program} {w : World} {A : Around} {E : Value → Shared → Prop}
theorem sa_body {name : Str} (hn : typeLookup (.type "function") name = pure none) {s : Shared} {f : Addr} {fd : FuncData} {sl : Array (Option Value)} {v : Value} {tk : Tok} {Q : Fin → Shared → Prop} (hf : s.heap.get? f = some ⟨.type "function", none, .func fd, sl⟩)
    (h : Q (.done (.ret .none)) { s with heap := ((s.heap.push { cls := .type "dict", data := .dict #[] }).update f fun o => { o with dict := some s.heap.objs.size }).update s.heap.objs.size (Obj.putName name (PyData.keyHash w.params name) (.str name s.toks) v), toks := s.toks + 1 }) :
    wpAny (model prog w) A (Builtin.«object.__setattr__» ⟨[.ref f, .str name tk, v], []⟩) Q E s := by
  obtain ⟨hh, g, d, t, os⟩ := s
  have hT : (⟨hh, g, d, t, os⟩ : Shared).TypeIs (.ref f) "function" := ⟨_, hf, rfl⟩
  have f1 := mro_fn
  have f2 := own_fn_sa
  have f3 := own_ob_sa
  have hne : f ≠ hh.objs.size := Nat.ne_of_lt (Heap.lt_size hf)
  have hD : ((hh.push { cls := .type "dict", data := .dict #[] }).update f fun o => { o with dict := some hh.objs.size }).get? hh.objs.size = some { cls := .type "dict", data := .dict #[] } :=
    (Heap.get?_update_ne _ _ _ _ (Ne.symm hne)).trans (Heap.get?_push_size _ rfl)
  repeat (any_goals (first | assumption | wp_step))
  refine wpAny_askSetting (wpAny_pure (wpAny_bind (wpAny_mkText (wpAny_bind (wpAny_loadPart hD ?_)))))
  refine wpAny_updatePart hD ?_
  refine wpAny_bind (wpAny_bind (wpAny_loadPart (Heap.get?_update_self _ hD rfl) ?_))
  exact wpAny_pure (wpAny_pure h)
theorem set_fn {name : Str} (hn : typeLookup (.type "function") name = pure none) {s : Shared} {f : Addr} {fd : FuncData} {sl : Array (Option Value)} {v : Value} {h₀ : Heap} {L : Addr} {m : Str → Option Value} {news : List (Addr × Obj)} {gl : Obj → List (Addr × Obj)} {Q : Unit → Shared → Prop}
    (F : Fr h₀ L s.heap m) (N : News h₀ L s.heap news) (U : UpdF f ⟨.type "function", none, .func fd, sl⟩ news gl)
    (h : ∀ d h' tk tk', Fr h₀ L h' m → News h₀ L h' ((d, { cls := .type "dict", data := .dict #[⟨PyData.keyHash w.params name, .str name tk, v⟩] 1 }) :: gl ⟨.type "function", some d, .func fd, sl⟩) → (∀ p ∈ news, p.1 < d) → Q () { s with heap := h', toks := tk' }) :
    wpAny (model prog w) A (setAttr (.ref f) name v) Q E s := by
  obtain ⟨pre, post, rfl, hg, a, b⟩ := U.split
  have hf : s.heap.get? f = some ⟨.type "function", none, .func fd, sl⟩ := (N _ (List.mem_append_right _ (.head _))).1
  obtain ⟨hh, g, d, t, os⟩ := s
  have hT : (⟨hh, g, d, t, os⟩ : Shared).TypeIs (.ref f) "function" := ⟨_, hf, rfl⟩
  have hT2 : (⟨hh, g, d, t + 1, os⟩ : Shared).TypeIs (.ref f) "function" := ⟨_, hf, rfl⟩
  have hlt : ∀ p ∈ pre ++ (f, ⟨.type "function", none, .func fd, sl⟩) :: post, p.1 < hh.objs.size := fun p hp => Heap.lt_size (N p hp).1
  have hne : f < hh.objs.size := Heap.lt_size hf
  unfold setAttr
  repeat (any_goals (first | assumption | wp_step))
  rw [slot_fn_sa.lookup]
  refine wpAny_pure (wpAny_holding ?_)
  rw [slot_fn_sa.bind]
  refine wpAny_bind (wpAny_pure (wpAny_bind (wpAny_call (codeAny_call_builtin slot_fn_sa.plain PySem.F.entry_object_sa (slot_fn_sa.check _ _ _ _ _ _ _ _ hT2 (args_sa _ _ _) ?_)))))
  refine wpAny_mono (sa_body hn (s := ⟨hh, g, d, t + 1, os⟩) hf (Q := fun fin s' => fin = .done (.ret .none) ∧ Q () s') ⟨rfl, ?_⟩) (fun fin s' z => ?_) fun _ _ x => x
  · have F1 := F.push { cls := .type "dict", data := .dict #[] }
    have N1 := N.push F { cls := .type "dict", data := .dict #[] }
    obtain ⟨F2, N2⟩ := news_upd (pre := (hh.objs.size, { cls := .type "dict", data := .dict #[] }) :: pre) (f := fun o => { o with dict := some hh.objs.size }) (o' := ⟨.type "function", some hh.objs.size, .func fd, sl⟩) F1 N1 (fun p hp => by
      rcases List.mem_cons.mp hp with rfl | hp
      · exact Nat.ne_of_gt hne
      · exact a p hp) b rfl rfl
    obtain ⟨F3, N3⟩ := news_upd (pre := []) (d := hh.objs.size) (f := Obj.putName name (PyData.keyHash w.params name) (.str name (t + 1)) v) (o' := { cls := .type "dict", data := .dict #[⟨PyData.keyHash w.params name, .str name (t + 1), v⟩] 1 }) F2 N2 (fun _ h => nomatch h) (fun p hp => by
      rcases List.mem_append.mp hp with hp | hp
      · exact Nat.ne_of_lt (hlt p (List.mem_append_left _ hp))
      · rcases List.mem_cons.mp hp with rfl | hp
        · exact Nat.ne_of_lt hne
        · exact Nat.ne_of_lt (hlt p (List.mem_append_right _ (.tail _ hp)))) rfl rfl
    exact h _ _ _ _ F3 (by rw [hg]; exact N3) hlt
  · obtain ⟨rfl, hq⟩ := z
    exact wpAny_pure (wpAny_pure hq)
end
end Mine

namespace Mine
theorem ga_fn : typeLookup (.type "function") (Str.ofString "__getattribute__") = pure (some (.builtin "object.__getattribute__")) := by rw [typeLookup_type, builtinLookup_eq_fast]; kernel_rfl
theorem gga_fn : typeLookup (.type "function") (Str.ofString "__getattr__") = pure none := by rw [typeLookup_type, builtinLookup_eq_fast]; kernel_rfl
theorem slot_fn_ga : Slot "function" "__getattribute__" "object.__getattribute__" := .of (owner := "object") (n := "__getattribute__") ga_fn (by decide +kernel) (by decide +kernel) (by decide +kernel)
    (by first | exact .inl (by decide +kernel) | exact .inr (by decide +kernel)) (by rw [isSubtype_type]; kernel_rfl)
theorem entry_ga : entryFor table "object.__getattribute__" = some Builtin.«object.__getattribute__» := entryFor_of_tree (by kernel_rfl)
theorem args_ga (a b : Value) : argsOk "object.__getattribute__" ⟨[a, b], []⟩ := by unfold argsOk; kernel_rfl
section
variable {prog : Program} {w : World} {A : Around} {E : Value → Shared → Prop}
theorem ga_body {name : Str} (hn : typeLookup (.type "function") name = pure none) (hfi : ∀ h1 tk v, ∃ b, nsNameIn name.cps.size name.cps.toList [⟨h1, .str name tk, v⟩] false = (some ⟨h1, .str name tk, v⟩, b)) {s : Shared} {f d : Addr} {fd : FuncData} {sl : Array (Option Value)} {h1 : Int} {tk tk2 : Tok} {v : Value} {Q : Fin → Shared → Prop}
    (hf : s.heap.get? f = some ⟨.type "function", some d, .func fd, sl⟩) (hd : s.heap.get? d = some { cls := .type "dict", data := .dict #[⟨h1, .str name tk, v⟩] 1 })
    (h : Q (.done (.ret v)) s) : wpAny (model prog w) A (Builtin.«object.__getattribute__» ⟨[.ref f, .str name tk2], []⟩) Q E s := by
  obtain ⟨hh, g, dd, t, os⟩ := s
  have hT : (⟨hh, g, dd, t, os⟩ : Shared).TypeIs (.ref f) "function" := ⟨_, hf, rfl⟩
  repeat (any_goals (first | assumption | wp_step))
  obtain ⟨b, hb⟩ := hfi h1 tk v
  show wpAny _ _ (match nsNameIn name.cps.size name.cps.toList [⟨h1, .str name tk, v⟩] false with | (some e, _) => _ | (none, true) => _ | (none, false) => _) _ _ _
  rw [hb]
  exact wpAny_pure (wpAny_bind (wpAny_rule (wpAny_pure (wpAny_pure h))))
theorem getm_fn {name : Str} (hn : typeLookup (.type "function") name = pure none) (hfi : ∀ h1 tk v, ∃ b, nsNameIn name.cps.size name.cps.toList [⟨h1, .str name tk, v⟩] false = (some ⟨h1, .str name tk, v⟩, b)) {s : Shared} {f d : Addr} {fd : FuncData} {sl : Array (Option Value)} {h1 : Int} {tk : Tok} {v : Value} {pl : Sem Bool} {Q : Value × List Value → Shared → Prop}
    (hf : s.heap.get? f = some ⟨.type "function", some d, .func fd, sl⟩) (hd : s.heap.get? d = some { cls := .type "dict", data := .dict #[⟨h1, .str name tk, v⟩] 1 }) (hv : handedIn v = true)
    (h : Q (v, []) { s with toks := s.toks + 1 }) : wpAny (model prog w) A (getMethod (.ref f) name pl) Q E s := by
  obtain ⟨hh, g, dd, t, os⟩ := s
  have hT : (⟨hh, g, dd, t, os⟩ : Shared).TypeIs (.ref f) "function" := ⟨_, hf, rfl⟩
  have hT2 : (⟨hh, g, dd, t + 1, os⟩ : Shared).TypeIs (.ref f) "function" := ⟨_, hf, rfl⟩
  have hcan : (Manifest.canonical "object.__getattribute__" != "object.__getattribute__") = false := by decide +kernel
  unfold getMethod
  refine wpAny_bind (wpAny_specialOf hT ga_fn ?_)
  show wpAny _ A (if (Manifest.canonical "object.__getattribute__" != "object.__getattribute__") = true then _ else _) Q E _
  rw [hcan, if_neg Bool.false_ne_true]
  refine wpAny_bind (wpAny_specialOf hT gga_fn ?_)
  refine wpAny_bind (wpAny_specialOf hT hn ?_)
  refine wpAny_bind ?_
  unfold getAttr
  refine wpAny_bind (wpAny_mkText ?_)
  unfold getAttrBy
  refine wpAny_holding (wpAny_bind (wpAny_typeOf hT2 ?_))
  rw [ga_fn]
  refine wpAny_bind (wpAny_pure ?_)
  show wpAny _ A (if (onTheHeap (Value.type "function") && (Value.builtin "object.__getattribute__") == Value.builtin "object.__getattribute__") = true then _ else _) _ E _
  rw [if_neg (by decide)]
  unfold getAttrByItsOwn
  refine wpAny_bind (m := hookBefore (.type "function")) (wpAny_pure ?_)
  refine wpAny_bind (wpAny_attempt (wpAny_holding ?_))
  show wpAny _ A (boundAndCalled _ _ _) _ _ _
  unfold boundAndCalled
  refine wpAny_bind ?_
  rw [slot_fn_ga.bind]
  refine wpAny_pure ?_
  refine wpAny_call (codeAny_call_builtin slot_fn_ga.plain entry_ga (slot_fn_ga.check _ _ _ _ _ _ _ _ hT2 (args_ga _ _) ?_))
  refine wpAny_mono (ga_body hn hfi (s := ⟨hh, g, dd, t + 1, os⟩) hf hd (Q := fun fin s' => fin = .done (.ret v) ∧ s' = ⟨hh, g, dd, t + 1, os⟩) ⟨rfl, rfl⟩) (fun fin s' z => ?_) fun _ _ x => x
  obtain ⟨rfl, rfl⟩ := z
  show wpAny _ A (handedOut v) _ _ _
  exact handed_on hv (wpAny_pure h)
end
theorem fi_span : ∀ h1 tk v, ∃ b, nsNameIn (Str.ofString "span").cps.size (Str.ofString "span").cps.toList [⟨h1, .str (Str.ofString "span") tk, v⟩] false = (some ⟨h1, .str (Str.ofString "span") tk, v⟩, b) := fun _ _ _ => ⟨_, rfl⟩
theorem fi_search : ∀ h1 tk v, ∃ b, nsNameIn (Str.ofString "search").cps.size (Str.ofString "search").cps.toList [⟨h1, .str (Str.ofString "search") tk, v⟩] false = (some ⟨h1, .str (Str.ofString "search") tk, v⟩, b) := fun _ _ _ => ⟨_, rfl⟩
end Mine

namespace Mine
/-- the context of a running frame -/
structure Cx where
  loose : List Str
  mean : ExcName → Option Value
  mg : Str → Option Value
  mb : Str → Option Value
  dp : Nat
  un : Nat
  gd : Option (List Code)
  cn : Str
  cs : Scope
  a : Addr
  ccd : Value
  cl : List (Str × Addr)
  outer : List Env
  A₀ : Around
  base : Heap
  h₀ : Heap
  L : Addr
  cap : Lg
noncomputable abbrev Cx.A (c : Cx) : Around := ktrTop c.dp c.un c.gd c.cn c.cs c.L c.a c.ccd c.cl c.outer
noncomputable abbrev Cx.env (c : Cx) : Env := envX c.cn c.cs c.L c.a c.ccd c.cl
noncomputable abbrev theK (w : World) : Frag := Mine.top.heap_1 w.params
noncomputable abbrev theM (w : World) : Model := model PySem.Challenge.rw_in0110_01.row.prog w
structure CxOk (w : World) (c : Cx) : Prop where
  B : Below c.A₀ c.base c.outer c.h₀
  X : (theK w).In c.h₀
  T : Top topProg c.loose c.mean c.mg c.mb c.h₀
  k : c.cs.kind = .function
/-- what a name may hold: a datum, one of the law's hits, one of its programs -/
inductive Vl where
  | d (d : Dat)
  | hit (i j : Int)
  | prog (x : Str)
  | rng (a b : Int)
  | raw (v : Value)
  | tup (vs : List Value)
noncomputable def CodeAtL (news : Lg) (c' : Addr) (q : Str) : Prop := ∃ oc vs t, (c', oc) ∈ news ∧ oc.data = .fields vs ∧ vs[1]? = some (.str q t)
noncomputable abbrev Tb := Array Value × Array Value
noncomputable abbrev tabL (t : Tb) : Lg := [(219, tabObj t.1), (226, tabObj t.2)]
noncomputable abbrev hitQ1 : Str := Str.ofString "_law_hit.<locals>.<lambda>"
noncomputable abbrev hitQ2 : Str := Str.ofString "_law_hit.<locals>.<lambda>"
noncomputable abbrev prgQ1 : Str := Str.ofString "_law_program.<locals>.search"
noncomputable abbrev prgQ2 : Str := Str.ofString "_law_program.<locals>.<lambda>"
noncomputable def TabOk (news : Lg) (t : Tb) : Prop :=
  (t.1 = #[] ∨ ∃ a b, t.1 = #[rawInt 278, rawInt 10, .ref a, rawInt 279, rawInt 15, .ref b] ∧ CodeAtL news a hitQ1 ∧ CodeAtL news b hitQ2) ∧
  (t.2 = #[] ∨ ∃ a b, t.2 = #[rawInt 283, rawInt 4, .ref a, rawInt 294, rawInt 11, .ref b] ∧ CodeAtL news a prgQ1 ∧ CodeAtL news b prgQ2)
theorem CodeAtL.mono {n n' : Lg} (hs : ∀ p ∈ n, p ∈ n') {c' : Addr} {q : Str} : CodeAtL n c' q → CodeAtL n' c' q := fun ⟨oc, vs, t, h, r⟩ => ⟨oc, vs, t, hs _ h, r⟩
theorem TabOk.mono {n n' : Lg} (hs : ∀ p ∈ n, p ∈ n') {t : Tb} (h : TabOk n t) : TabOk n' t :=
  ⟨h.1.imp id fun ⟨a, b, e, x, y⟩ => ⟨a, b, e, x.mono hs, y.mono hs⟩, h.2.imp id fun ⟨a, b, e, x, y⟩ => ⟨a, b, e, x.mono hs, y.mono hs⟩⟩
noncomputable abbrev neq (a b : Nat) : Prop := a ≠ b
/-- every new object is another one -/
noncomputable def Up (l tl : Lg) : Prop := (∀ q ∈ l, ∀ p ∈ tl, neq q.1 p.1) ∧ ∀ p ∈ tl, neq p.1 219 ∧ neq p.1 226
noncomputable abbrev Hi (l : Lg) : Prop := ∀ p ∈ l, neq p.1 219 ∧ neq p.1 226
structure Rm (c : Cx) (n : Nat) : Prop where
  d : c.dp + n < recursionLimit
  u : c.un + 8 * n + 64 < cLine
theorem Rm.le {c : Cx} {n k : Nat} (h : Rm c n) (hk : k ≤ n) : Rm c k := ⟨by have := h.d; lia, by have := h.u; lia⟩
/-- in any frame where the ledger holds these objects, a call of g comes back with what R says -/
noncomputable def CallsOk (w : World) (g : Addr) (n : Nat) (vs : List Value) (R : Lg → Value → Prop) (news : Lg) : Prop :=
  ∀ (c : Cx), CxOk w c → Rm c n → ∀ (fx : Lg) (m : Str → Option Value) (news' : Lg) (t : Tb) (s : Shared) (Q E : Value → Shared → Prop), (∀ p ∈ news, p ∈ news') →
    Fr c.h₀ c.L s.heap m → News c.h₀ c.L s.heap (tabL t ++ (fx ++ news')) → TabOk news' t → Hi (fx ++ news') →
    (∀ v h' tk' tl t', Fr c.h₀ c.L h' m → News c.h₀ c.L h' (tabL t' ++ (fx ++ (news' ++ tl))) → TabOk (news' ++ tl) t' → Up (fx ++ news') tl → R (news' ++ tl) v → Q v { s with heap := h', toks := tk' }) →
    wpAny (theM w) c.A (call (.ref g) vs) Q E s
theorem CallsOk.mono {w : World} {g : Addr} {n : Nat} {vs : List Value} {R : Lg → Value → Prop} {l l' : Lg} (h : CallsOk w g n vs R l) (hs : ∀ p ∈ l, p ∈ l') : CallsOk w g n vs R l' :=
  fun c ok rm fx m news' t s Q E hn => h c ok rm fx m news' t s Q E (fun p hp => hn p (hs p hp))
/-- a def's object with one thing of its own -/
noncomputable def OwnFn (news : Lg) (v : Value) (name : Str) (g : Addr) : Prop :=
  ∃ f d fd sl h1 tk, v = .ref f ∧ (f, (⟨.type "function", some d, .func fd, sl⟩ : Obj)) ∈ news ∧ (d, ({ cls := .type "dict", data := .dict #[⟨h1, .str name tk, .ref g⟩] 1 } : Obj)) ∈ news ∧ ∃ oc od fd sl, (g, (⟨oc, od, .func fd, sl⟩ : Obj)) ∈ news
theorem OwnFn.mono {n n' : Lg} (hs : ∀ p ∈ n, p ∈ n') {v : Value} {x : Str} {g : Addr} : OwnFn n v x g → OwnFn n' v x g := fun ⟨f, d, fd, sl, h1, tk, e, a, b, oc, od, fd2, sl2, z⟩ => ⟨f, d, fd, sl, h1, tk, e, hs _ a, hs _ b, oc, od, fd2, sl2, hs _ z⟩
noncomputable def HitIn (w : World) (news : Lg) (v : Value) (i j : Int) : Prop :=
  ∃ g, OwnFn news v (Str.ofString "span") g ∧ CallsOk w g 2 [] (fun l r => DatIn l r (.tuple [.int i, .int j])) news
/-- what a search answers -/
noncomputable def HitOr (w : World) (l : Lg) (v : Value) : Option (Int × Int) → Prop
  | none => v = .none
  | some (i, j) => HitIn w l v i j
/-- how many slashes stand here -/
noncomputable def skipS (x : Str) : Nat → Nat → Nat
  | 0, b => b
  | n + 1, b => if Txt.slice x (some b) (some (b + 1 : Int)) = Str.ofString "/" then skipS x n (b + 1) else b
noncomputable def pSearch (word x : Str) (b : Nat) : Option (Int × Int) :=
  if word.length = 0 then
    let f := skipS x (x.length - b) b
    if x.length ≤ f then none else
      let k := Txt.find3 x (Str.ofString "/") f
      some (f, if k ≥ 0 then k else x.length)
  else
    let f := Txt.find3 (x ++ Str.ofString "/") (Str.ofString "/" ++ word ++ Str.ofString "/") ((b : Int) - 1 |> fun z => if 0 > z then 0 else z) + 1
    if f = 0 then none else some (f, f + word.length)
noncomputable def ProgIn (w : World) (news : Lg) (v : Value) (word : Str) : Prop :=
  ∃ g, OwnFn news v (Str.ofString "search") g ∧ (∀ x t, x.length ≤ 100000 → CallsOk w g 5 [.str x t] (fun l r => HitOr w l r (pSearch word x 0)) news) ∧
    (∀ x t (b : Nat) u, x.length ≤ 100000 → b ≤ 1000000 → CallsOk w g 5 [.str x t, .int b u] (fun l r => HitOr w l r (pSearch word x b)) news)
noncomputable def VIn (w : World) (news : Lg) (v : Value) : Vl → Prop
  | .d d => DatIn news v d
  | .hit i j => HitIn w news v i j
  | .prog x => ProgIn w news v x
  | .rng a b => ∃ r t u k, v = .ref r ∧ (r, ({ cls := .type "range", data := .fields #[.int a t, .int b u, .int 1 k] } : Obj)) ∈ news
  | .raw v' => v = v'
  | .tup vs => ∃ a, v = .ref a ∧ (a, ({ cls := .type "tuple", data := .seq vs.toArray } : Obj)) ∈ news
theorem VIn.mono {w : World} {n n' : Lg} (hs : ∀ p ∈ n, p ∈ n') {v : Value} : ∀ {d : Vl}, VIn w n v d → VIn w n' v d
  | .d _, h => DatIn.mono hs h
  | .hit _ _, ⟨g, a, b⟩ => ⟨g, a.mono hs, b.mono hs⟩
  | .prog _, ⟨g, a, b, z⟩ => ⟨g, a.mono hs, fun x t h => (b x t h).mono hs, fun x t b u h1 h2 => (z x t b u h1 h2).mono hs⟩
  | .rng _ _, ⟨r, t, u, k, e, h⟩ => ⟨r, t, u, k, e, hs _ h⟩
  | .raw _, h => h
  | .tup _, ⟨a, e, h⟩ => ⟨a, e, hs _ h⟩
inductive VAll (w : World) (news : Lg) : List Value → List Vl → Prop
  | nil : VAll w news [] []
  | cons {v : Value} {vs : List Value} {d : Vl} {ds : List Vl} : VIn w news v d → VAll w news vs ds → VAll w news (v :: vs) (d :: ds)
theorem VAll.mono {w : World} {n n' : Lg} (hs : ∀ p ∈ n, p ∈ n') {vs : List Value} {ds : List Vl} (h : VAll w n vs ds) : VAll w n' vs ds := by
  induction h with
  | nil => exact .nil
  | cons h _ ih => exact .cons (h.mono hs) ih
theorem VAll.dat {w : World} {n : Lg} {vs : List Value} {ds : List Dat} (h : VAll w n vs (ds.map Vl.d)) : DatAll n vs ds := by
  induction ds generalizing vs with
  | nil => cases h; exact .nil
  | cons d r ih =>
    cases h with
    | cons h r => exact .cons h (ih r)
theorem VAll.of_dat {w : World} {n : Lg} {vs : List Value} {ds : List Dat} (h : DatAll n vs ds) : VAll w n vs (ds.map Vl.d) := by
  induction ds generalizing vs with
  | nil => cases h; exact .nil
  | cons d r ih =>
    cases h with
    | cons h r => exact .cons h (ih r)
section
variable {news : Lg} {v : Value}
/-! what a value is that bears a datum of a known kind -/
@[elab_as_elim] theorem inN {C : Value → Prop} (D : DatIn news v .none) (k : C .none) : C v := by cases D; exact k
@[elab_as_elim] theorem inB {b : Bool} {C : Value → Prop} (D : DatIn news v (.bool b)) (k : C (.bool b)) : C v := by cases D; exact k
@[elab_as_elim] theorem inI {i : Int} {C : Value → Prop} (D : DatIn news v (.int i)) (k : ∀ t, C (.int i t)) : C v := by cases D; exact k _
@[elab_as_elim] theorem inS {x : Str} {C : Value → Prop} (D : DatIn news v (.str x)) (k : ∀ t, C (.str x t)) : C v := by cases D; exact k _
@[elab_as_elim] theorem inT {ds : List Dat} {C : Value → Prop} (D : DatIn news v (.tuple ds)) (k : ∀ (a : Addr) (vs : List Value) (n : Nat), (a, ({ cls := .type "tuple", data := .seq vs.toArray n } : Obj)) ∈ news → DatAll news vs ds → C (.ref a)) : C v := by
  cases D with | tuple h1 h2 => exact k _ _ _ h1 h2
@[elab_as_elim] theorem inL {ds : List Dat} {C : Value → Prop} (D : DatIn news v (.list ds)) (k : ∀ (a : Addr) (vs : List Value) (n : Nat), (a, listOf vs.toArray n) ∈ news → DatAll news vs ds → C (.ref a)) : C v := by
  cases D with | list h1 h2 => exact k _ _ _ h1 h2
variable {w : World} {vs : List Value} {C : List Value → Prop}
@[elab_as_elim] theorem all1 {d : Vl} (D : VAll w news vs [d]) (k : ∀ v, VIn w news v d → C [v]) : C vs := by
  cases D with | cons h r => cases r; exact k _ h
@[elab_as_elim] theorem all2 {d e : Vl} (D : VAll w news vs [d, e]) (k : ∀ v u, VIn w news v d → VIn w news u e → C [v, u]) : C vs := by
  cases D with | cons h r => exact all1 (C := fun r => C (_ :: r)) r fun _ g => k _ _ h g
@[elab_as_elim] theorem all3 {d e f : Vl} (D : VAll w news vs [d, e, f]) (k : ∀ v u x, VIn w news v d → VIn w news u e → VIn w news x f → C [v, u, x]) : C vs := by
  cases D with | cons h r => exact all2 (C := fun r => C (_ :: r)) r fun _ _ g1 g2 => k _ _ _ h g1 g2
@[elab_as_elim] theorem dall1 {d : Dat} (D : DatAll news vs [d]) (k : ∀ v, DatIn news v d → C [v]) : C vs := by
  cases D with | cons h r => cases r; exact k _ h
@[elab_as_elim] theorem dall2 {d e : Dat} (D : DatAll news vs [d, e]) (k : ∀ v u, DatIn news v d → DatIn news u e → C [v, u]) : C vs := by
  cases D with | cons h r => exact dall1 (C := fun r => C (_ :: r)) r fun _ g => k _ _ h g
@[elab_as_elim] theorem dall3 {d e f : Dat} (D : DatAll news vs [d, e, f]) (k : ∀ v u x, DatIn news v d → DatIn news u e → DatIn news x f → C [v, u, x]) : C vs := by
  cases D with | cons h r => exact dall2 (C := fun r => C (_ :: r)) r fun _ _ g1 g2 => k _ _ _ h g1 g2
end
theorem Up.nil {l : Lg} : Up l [] := ⟨fun _ _ _ h => (nomatch h), fun _ h => (nomatch h)⟩
theorem Up.cat {l a b : Lg} (h1 : Up l a) (h2 : Up l b) : Up l (a ++ b) :=
  ⟨fun q hq p hp => (List.mem_append.mp hp).elim (h1.1 q hq p) (h2.1 q hq p), fun p hp => (List.mem_append.mp hp).elim (h1.2 p) (h2.2 p)⟩
theorem Up.sub {l l' a : Lg} (h : Up l a) (hs : ∀ p ∈ l', p ∈ l) : Up l' a := ⟨fun q hq => h.1 q (hs q hq), h.2⟩
noncomputable def Sees (w : World) (c : Cx) (env : Env) (fx : Lg) (m : Str → Option Value) (x : Str) (v : Value) : Prop :=
  ∀ pos (s : Shared) (Q E : Value → Shared → Prop), Fr c.h₀ c.L s.heap m → News c.h₀ c.L s.heap fx → Q v s → wpAny (theM w) c.A (eval (.Name x pos) env) Q E s
noncomputable abbrev Sg := Str → Option Vl
/-- a captured name lies in a cell -/
noncomputable def CellAt (env : Env) (fx : Lg) (x : Str) (v : Value) : Prop := (env.kindOf x = some .cell ∨ env.kindOf x = some .free) → ∃ a o, env.cells.lookup x = some a ∧ (a, o) ∈ fx ∧ o.data = .cell (some v)
noncomputable def RhoIn (w : World) (c : Cx) (env : Env) (fx : Lg) (m : Str → Option Value) (news : Lg) (σ : Sg) : Prop :=
  ∀ x d, σ x = some d → ∃ v, Sees w c env fx m x v ∧ VIn w news v d ∧ CellAt env fx x v
theorem RhoIn.mono {w : World} {c : Cx} {env : Env} {fx : Lg} {m : Str → Option Value} {n n' : Lg} {σ : Sg} (hs : ∀ p ∈ n, p ∈ n') (h : RhoIn w c env fx m n σ) : RhoIn w c env fx m n' σ :=
  fun x d e => let ⟨v, a, b, z⟩ := h x d e; ⟨v, a, b.mono hs, z⟩
structure Pre (w : World) (c : Cx) (env : Env) (fx : Lg) (m : Str → Option Value) (news : Lg) (t : Tb) (σ : Sg) (h : Heap) : Prop where
  F : Fr c.h₀ c.L h m
  N : News c.h₀ c.L h (tabL t ++ (fx ++ news))
  tab : TabOk news t
  hi : Hi (fx ++ news)
  rho : RhoIn w c env fx m news σ
section
variable {w : World} {c : Cx} {env : Env} {fx news : Lg} {m : Str → Option Value} {t : Tb} {σ : Sg} {h : Heap}
theorem memL {a b : Lg} : ∀ p ∈ a, p ∈ a ++ b := fun _ h => List.mem_append_left _ h
theorem memR {a b : Lg} : ∀ p ∈ b, p ∈ a ++ b := fun _ h => List.mem_append_right _ h
theorem Pre.nfx (P : Pre w c env fx m news t σ h) : News c.h₀ c.L h fx := fun p hp => P.N p (memR p (memL p hp))
theorem Pre.nnw (P : Pre w c env fx m news t σ h) : News c.h₀ c.L h news := fun p hp => P.N p (memR p (memR p hp))
/-- the ledger has grown, the frame stands -/
theorem Pre.grow (P : Pre w c env fx m news t σ h) {h' : Heap} {tl : Lg} {t' : Tb} (F : Fr c.h₀ c.L h' m) (N : News c.h₀ c.L h' (tabL t' ++ (fx ++ (news ++ tl)))) (T : TabOk (news ++ tl) t') (U : Up (fx ++ news) tl) : Pre w c env fx m (news ++ tl) t' σ h' :=
  ⟨F, N, T, fun p hp => by
    rw [← List.append_assoc] at hp
    exact (List.mem_append.mp hp).elim (P.hi p) (U.2 p), P.rho.mono memL⟩
/-- all new objects, the tables as they were -/
theorem Pre.grow0 (P : Pre w c env fx m news t σ h) {h' : Heap} {tl : Lg} (F : Fr c.h₀ c.L h' m) (N : News c.h₀ c.L h' (tl ++ (tabL t ++ (fx ++ news)))) (U : Up (fx ++ news) tl) : Pre w c env fx m (news ++ tl) t σ h' :=
  P.grow F (fun p hp => N p (by exact Mine.viaSub hp (by walk_at "mSUB"))) (P.tab.mono memL) U
theorem Pre.lt (P : Pre w c env fx m news t σ h) : ∀ p ∈ tabL t ++ (fx ++ news), p.1 < h.objs.size := fun p hp => Heap.lt_size (P.N p hp).1
theorem Pre.up (P : Pre w c env fx m news t σ h) {tl : Lg} (hl : ∀ p ∈ tl, h.objs.size ≤ p.1) : Up (fx ++ news) tl :=
  ⟨fun q hq p hp => Nat.ne_of_lt (Nat.lt_of_lt_of_le (P.lt q (memR q hq)) (hl p hp)), fun p hp => ⟨Nat.ne_of_gt (Nat.lt_of_lt_of_le (P.lt (219, tabObj t.1) (memL _ (.head _))) (hl p hp)), Nat.ne_of_gt (Nat.lt_of_lt_of_le (P.lt (226, tabObj t.2) (memL _ (.tail _ (.head _)))) (hl p hp))⟩⟩
theorem Pre.upA (P : Pre w c env fx m news t σ h) {tl : Lg} (hl : ∀ q ∈ tabL t ++ (fx ++ news), ∀ p ∈ tl, q.1 < p.1) : Up (fx ++ news) tl :=
  ⟨fun q hq p hp => Nat.ne_of_lt (hl q (memR q hq) p hp), fun p hp => ⟨Nat.ne_of_gt (hl (219, tabObj t.1) (memL _ (.head _)) p hp), Nat.ne_of_gt (hl (226, tabObj t.2) (memL _ (.tail _ (.head _))) p hp)⟩⟩
theorem Pre.nil (P : Pre w c env fx m news t σ h) : Pre w c env fx m (news ++ []) t σ h := by rw [List.append_nil]; exact P
end
/-- the rest of the run, told a value that bears d -/
noncomputable abbrev Post (w : World) (c : Cx) (env : Env) (fx : Lg) (m : Str → Option Value) (news : Lg) (σ : Sg) (s : Shared) (Q : Value → Shared → Prop) (d : Vl) : Prop :=
  ∀ v h' tk' tl t', Pre w c env fx m (news ++ tl) t' σ h' → Up (fx ++ news) tl → VIn w (news ++ tl) v d → Q v { s with heap := h', toks := tk' }
noncomputable abbrev PostB (w : World) (c : Cx) (env : Env) (fx : Lg) (m : Str → Option Value) (news : Lg) (σ : Sg) (s : Shared) (Q : Bool → Shared → Prop) (b : Bool) : Prop :=
  ∀ h' tk' tl t', Pre w c env fx m (news ++ tl) t' σ h' → Up (fx ++ news) tl → Q b { s with heap := h', toks := tk' }
noncomputable def EvalD (w : World) (c : Cx) (env : Env) (σ : Sg) (e : Expr) (d : Vl) : Prop :=
  ∀ fx m news t s Q E, Pre w c env fx m news t σ s.heap → Post w c env fx m news σ s Q d → wpAny (theM w) c.A (eval e env) Q E s
noncomputable def TestD (w : World) (c : Cx) (env : Env) (σ : Sg) (e : Expr) (b : Bool) : Prop :=
  ∀ fx m news t s Q E, Pre w c env fx m news t σ s.heap → PostB w c env fx m news σ s Q b → wpAny (theM w) c.A (isTrue e env (eval e env)) Q E s
/-- a tree over values that bear ds -/
noncomputable def TreeD (w : World) (c : Cx) (env : Env) (σ : Sg) (f : List Value → Sem Value) (ds : List Vl) (d : Vl) : Prop :=
  ∀ fx m news t s Q E vs, Pre w c env fx m news t σ s.heap → VAll w news vs ds → Post w c env fx m news σ s Q d → wpAny (theM w) c.A (f vs) Q E s
section
variable {w : World} {c : Cx} {env : Env} {fx news : Lg} {m : Str → Option Value} {t : Tb} {σ : Sg} {s : Shared} {Q : Value → Shared → Prop} {d : Vl}
theorem Post.same (k : Post w c env fx m news σ s Q d) (P : Pre w c env fx m news t σ s.heap) {v : Value} (hv : VIn w news v d) (tk : Nat) : Q v { s with toks := tk } :=
  k v s.heap tk [] t P.nil Up.nil (by rw [List.append_nil]; exact hv)
theorem Post.same' (k : Post w c env fx m news σ s Q d) (P : Pre w c env fx m news t σ s.heap) {v : Value} (hv : VIn w news v d) : Q v s := k.same P hv s.toks
theorem Post.heap (k : Post w c env fx m news σ s Q d) {h : Heap} {tk : Nat} (P : Pre w c env fx m news t σ h) {v : Value} (hv : VIn w news v d) : Q v { s with heap := h, toks := tk } :=
  k v h tk [] t P.nil Up.nil (by rw [List.append_nil]; exact hv)
theorem PostB.same {Q : Bool → Shared → Prop} {b : Bool} (k : PostB w c env fx m news σ s Q b) (P : Pre w c env fx m news t σ s.heap) (tk : Nat) : Q b { s with toks := tk } :=
  k s.heap tk [] t P.nil Up.nil
theorem PostB.heap {Q : Bool → Shared → Prop} {b : Bool} (k : PostB w c env fx m news σ s Q b) {h : Heap} {tk : Nat} (P : Pre w c env fx m news t σ h) : Q b { s with heap := h, toks := tk } :=
  k h tk [] t P.nil Up.nil
/-- what comes behind a first part of the run -/
theorem Post.after {tl : Lg} (k : Post w c env fx m news σ s Q d) (U : Up (fx ++ news) tl) : Post w c env fx m (news ++ tl) σ s Q d :=
  fun v h' tk' tl' t' P' U' hv => by
    rw [List.append_assoc] at P' hv
    rw [← List.append_assoc] at U'
    exact k v h' tk' (tl ++ tl') t' P' (U.cat (U'.sub memL)) hv
theorem PostB.after {Q : Bool → Shared → Prop} {b : Bool} {tl : Lg} (k : PostB w c env fx m news σ s Q b) (U : Up (fx ++ news) tl) : PostB w c env fx m (news ++ tl) σ s Q b :=
  fun h' tk' tl' t' P' U' => by
    rw [List.append_assoc] at P'
    rw [← List.append_assoc] at U'
    exact k h' tk' (tl ++ tl') t' P' (U.cat (U'.sub memL))
theorem EvalD.run {e : Expr} {E : Value → Shared → Prop} (h : EvalD w c env σ e d) (P : Pre w c env fx m news t σ s.heap) (k : Post w c env fx m news σ s Q d) : wpAny (theM w) c.A (eval e env) Q E s := h fx m news t s Q E P k
theorem eD_name {x : Str} {pos : Pos} (hx : σ x = some d) : EvalD w c env σ (.Name x pos) d := fun fx m news t s Q E P k => by
  obtain ⟨v, hs, hv, _⟩ := P.rho x d hx
  exact hs pos s Q E P.F P.nfx (k.same' P hv)
theorem eD_int {i : Int} {kd pos} : EvalD w c env σ (.Constant (.int i) kd pos) (.d (.int i)) := fun fx m news t s Q E P k =>
  wpAny_Constant_int (k.same P (.int _ _) _)
theorem eD_str {x : Str} {kd pos} : EvalD w c env σ (.Constant (.str x) kd pos) (.d (.str x)) := fun fx m news t s Q E P k =>
  Calls.Constant_str (k.same P (.str _ _) _)
theorem eD_none {kd pos} : EvalD w c env σ (.Constant .none kd pos) (.d .none) := fun fx m news t s Q E P k =>
  Constant_none (k.same' P .none)
theorem eD_bool {b : Bool} {kd pos} : EvalD w c env σ (.Constant (.bool b) kd pos) (.d (.bool b)) := fun fx m news t s Q E P k =>
  Constant_bool (k.same' P (.bool _))
theorem eD_bin {l r : Expr} {op : Operator} {pos : Pos} {d1 d2 : Vl} (h1 : EvalD w c env σ l d1) (h2 : EvalD w c env σ r d2)
    (h : TreeD w c env σ (fun vs => match vs with | [a, b] => binaryOp op a b | _ => pure .none) [d1, d2] d) : EvalD w c env σ (.BinOp l op r pos) d := fun fx m news t s Q E P k => by
  refine wpAny_BinOp (h1.run P fun v1 hA tkA tlA tA PA UA hv1 => h2.run PA fun v2 hB tkB tlB tB PB UB hv2 => ?_)
  exact h _ _ _ _ _ _ _ [v1, v2] PB (.cons (hv1.mono memL) (.cons hv2 .nil)) ((k.after UA).after UB)
theorem eD_cmp {l r : Expr} {op : CmpOp} {pos : Pos} {d1 d2 : Vl} (h1 : EvalD w c env σ l d1) (h2 : EvalD w c env σ r d2)
    (h : TreeD w c env σ (fun vs => match vs with | [a, b] => compareOp op a b | _ => pure .none) [d1, d2] d) (hm : behindInMarks op r = false := by with_unfolding_all rfl) : EvalD w c env σ (.Compare l [op] [r] pos) d := fun fx m news t s Q E P k => by
  refine wpAny_Compare1 (h1.run P fun v1 hA tkA tlA tA PA UA hv1 => h2.run PA fun v2 hB tkB tlB tB PB UB hv2 => ?_) hm
  exact h _ _ _ _ _ _ _ [v1, v2] PB (.cons (hv1.mono memL) (.cons hv2 .nil)) ((k.after UA).after UB)
end
end Mine

namespace Mine
noncomputable abbrev sl : Str := Str.ofString "/"
noncomputable def pHead0 (x : Str) : Str := Txt.slice x none (some (Txt.rfind x (Str.ofString "/") + 1))
noncomputable def pHead (x : Str) : Str := if ((pHead0 x).length : Int) ≠ 0 ∧ (pHead0 x != Txt.mul (Str.ofString "/") (pHead0 x).length) = true then Txt.rstripChars (pHead0 x) (Str.ofString "/") else pHead0 x
noncomputable def pTail (x : Str) : Str := Txt.slice x (some (Txt.rfind x (Str.ofString "/") + 1)) none
end Mine
namespace Mine
theorem datAll_strs {lg : Lg} (l : List (Str × Tok)) : DatAll lg (strValues l) ((l.map (·.1)).map Dat.str) := by
  induction l with
  | nil => exact .nil
  | cons p r ih => exact .cons (.str _ _) ih
section
variable {prog : Program} {w : World} {A : Around} {E : Value → Shared → Prop} {s : Shared} {h₀ : Heap} {L : Addr} {m : Str → Option Value} {news : Lg} {x y : Str} {t u : Tok} {Q : Value → Shared → Prop}
theorem split_D (hF : Fr h₀ L s.heap m) (hN : News h₀ L s.heap news) (hy : (y.length == 0) = false) (hsz : x.length ≤ 1000000)
    (h : ∀ D vs h' k, DatAll [] vs ((Txt.split x y).map Dat.str) → Fr h₀ L h' m → News h₀ L h' ((D, listOf vs.toArray 0) :: news) → (∀ p ∈ news, p.1 < D) → Q (.ref D) { s with heap := h', toks := k }) :
    wpAny (model prog w) A (call (.builtin "str.split") [.str x t, .str y u]) Q E s :=
  KSpl.split1 hF hN hy (fun D l h' k e _ F N lt => h D _ h' k (e ▸ datAll_strs l) F N lt) (by rw [sizeLine_eq]; lia)
end
end Mine
namespace Mine
theorem strsAre_of {lg : Lg} : ∀ {vs : List Value} {ss : List Str}, DatAll lg vs (ss.map Dat.str) → StrsAre vs ss := by
  intro vs ss
  induction ss generalizing vs with
  | nil => intro h; cases h; exact .nil
  | cons x r ih =>
    intro h
    obtain _ | ⟨h1, h2⟩ := h
    obtain ⟨⟩ | ⟨⟩ := h1
    exact .cons _ _ (ih h2)
noncomputable def wt (ss : List Str) : Nat := (ss.map (·.length)).sum + ss.length
section
variable {prog : Program} {w : World} {A : Around} {E : Value → Shared → Prop} {s : Shared} {h₀ : Heap} {L : Addr} {m : Str → Option Value} {news lg : Lg} {x : Str} {t : Tok} {Q : Value → Shared → Prop}
theorem join_len (x : Str) (ss : List Str) (hx : x.length ≤ 16) : (Txt.join x ss).length ≤ 16 * wt ss := by
  have e : Txt.join x ss = Str.join x ss := StrLaws.glued_eq_join x ss
  have h := StrLaws.join_length_le x ss
  rw [e]
  have h2 : ss.length * x.length ≤ ss.length * 16 := Nat.mul_le_mul_left _ hx
  unfold wt
  lia
theorem join_D {a : Addr} {vs : List Value} {n : Nat} {ss : List Str} (N : News h₀ L s.heap news) (hm : (a, listOf vs.toArray n) ∈ news) (D : DatAll lg vs (ss.map Dat.str)) (hx : x.length ≤ 16) (hw : wt ss ≤ 200000)
    (h : ∀ t' k, (Txt.join x ss).length ≤ 3200000 → Q (.str (Txt.join x ss) t') { s with toks := k }) : wpAny (model prog w) A (call (.builtin "str.join") [.str x t, .ref a]) Q E s :=
  join_listW (News.isList N hm) (by simpa using strsAre_of D) hx (by unfold wt at hw; lia) fun t' k => h t' k (by have := join_len x ss hx; lia)
theorem truthy_D {a : Addr} {vs : List Value} {n : Nat} {ds : List Dat} {Q : Bool → Shared → Prop} (N : News h₀ L s.heap news) (hm : (a, listOf vs.toArray n) ∈ news) (D : DatAll lg vs ds)
    (hf : ds.length ≤ 1000000) (h : ∀ tk, Q (!ds.isEmpty) { s with toks := tk }) : wpAny (model prog w) A (truthy (.ref a)) Q E s :=
  wpAny_truthy_list (News.isList N hm) (by rw [List.size_toArray, D.length]; lia) (by
    have e : vs.toArray.isEmpty = ds.isEmpty := by
      have := D.length
      cases vs <;> cases ds <;> simp_all
    rw [e]; exact h _)
end
theorem take_fold {α β : Type} (f : β → α → β) (b : β) (l : List α) {i : Nat} {a : α} (h : l[i]? = some a) : (l.take (i + 1)).foldl f b = f ((l.take i).foldl f b) a := by
  rw [List.take_add_one, h]; simp
end Mine

namespace Mine
section
variable {prog : Program} {w : World} {A : Around} {E : Value → Shared → Prop} {s : Shared} {h₀ : Heap} {L a : Addr} {m : Str → Option Value} {news lg rest : Lg} {vs : List Value} {n : Nat} {ds : List Dat} {Q : Value → Shared → Prop}
theorem append_D {v : Value} (F : Fr h₀ L s.heap m) (N : News h₀ L s.heap ((a, listOf vs.toArray n) :: rest)) (hne : ∀ p ∈ rest, p.1 ≠ a) (D : DatAll lg vs ds) (hf : ds.length ≤ 1000000)
    (h : ∀ h', Fr h₀ L h' m → News h₀ L h' ((a, listOf (vs ++ [v]).toArray (n + 1)) :: rest) → Q .none { s with heap := h' }) : wpAny (model prog w) A (call (.builtin "list.append") [.ref a, v]) Q E s :=
  append_K F N (.head hne) (fun h' F' N' => h h' F' (by rw [List.push_toArray] at N'; exact N')) (by rw [List.size_toArray, D.length, sizeLine_eq]; lia)
theorem pop_D {d : Dat} (F : Fr h₀ L s.heap m) (N : News h₀ L s.heap ((a, listOf vs.toArray n) :: rest)) (hne : ∀ p ∈ rest, p.1 ≠ a) (D : DatAll lg vs ds) (hl : ds.getLast? = some d) (hf : ds.length ≤ 1000000)
    (h : ∀ h' v us, Fr h₀ L h' m → News h₀ L h' ((a, listOf us.toArray (n + 1)) :: rest) → DatAll lg us ds.dropLast → DatIn lg v d → Q v { s with heap := h' }) : wpAny (model prog w) A (call (.builtin "list.pop") [.ref a]) Q E s := by
  have hlen := D.length
  have hvne : vs ≠ [] := by
    intro e; subst e
    have : ds = [] := List.eq_nil_of_length_eq_zero hlen.symm
    rw [this] at hl; cases hl
  have ev := (List.dropLast_concat_getLast hvne).symm
  rw [ev] at D N
  obtain ⟨es, d', e1, D1, D2⟩ := D.snoc
  subst e1
  have ed : d' = d := by simpa using hl
  subst ed
  refine kl_pop (p := vs.dropLast) (y := vs.getLast hvne) F N ?_ (.head hne) ?_ (fun h' F' N' => h h' _ _ F' N' (by simpa using D1) D2)
  · generalize vs.dropLast = p
    generalize vs.getLast hvne = y
    show kl_last (p ++ [y]) = _
    induction p with
    | nil => rfl
    | cons x r ih =>
      show kl_last (x :: (r ++ [y])) = _
      cases r with
      | nil => rfl
      | cons z r' => simp only [List.cons_append] at ih ⊢; unfold kl_last; rw [ih]
  · rw [← ev]; show vs.length ≤ _; rw [hlen, sizeLine_eq]; lia
theorem last_D {value slice : Expr} {u : Tok} {d : Dat} (N : News h₀ L s.heap news) (hm : (a, listOf vs.toArray n) ∈ news) (D : DatAll lg vs ds) (hl : ds.getLast? = some d) (h : ∀ v, DatIn lg v d → Q v s)
    (hs : subscripted slice false (.ref a) (.int (-1) u) = operate [.ref a, .int (-1) u] (getItem (.ref a) (.int (-1) u)) := by with_unfolding_all rfl) (hg : ∀ r, letTemporaryGo value (.ref a) r = pure () := by intro _; with_unfolding_all rfl) :
    wpAny (model prog w) A (subscriptTail value slice (.ref a) (.int (-1) u)) Q E s := by
  have hL := News.isList N hm
  have hlen := D.length
  have hpos : 0 < ds.length := by
    cases ds with
    | nil => cases hl
    | cons => simp
  obtain ⟨v, hv, hD⟩ := D.get (k := ds.length - 1) (by lia)
  have e : ds[ds.length - 1]'(by lia) = d := by
    rw [List.getLast?_eq_getElem?] at hl
    rw [List.getElem?_eq_getElem (by lia)] at hl
    exact Option.some.inj hl
  rw [e] at hD
  have hk : ((-1 : Int) + vs.toArray.size).toNat = ds.length - 1 := by rw [List.size_toArray, hlen]; lia
  exact subscriptTail_builtin hL.typeIs slot_list_getitem.lookup (wpAny_getItem_list_neg hL (by decide) (by rw [List.size_toArray, hlen]; lia) (by decide) (x := v) (by rw [hk]; simpa using hv) (h v hD)) hs hg
theorem item_D {value slice : Expr} {k : Int} {u : Tok} {d : Dat} (N : News h₀ L s.heap news) (hm : (a, listOf vs.toArray n) ∈ news) (D : DatAll lg vs ds) (h0 : 0 ≤ k) (hf : k < 2 ^ 63) (hl : ds[k.toNat]? = some d) (h : ∀ v, DatIn lg v d → Q v s)
    (hs : subscripted slice false (.ref a) (.int k u) = operate [.ref a, .int k u] (getItem (.ref a) (.int k u)) := by with_unfolding_all rfl) (hg : ∀ r, letTemporaryGo value (.ref a) r = pure () := by intro _; with_unfolding_all rfl) :
    wpAny (model prog w) A (subscriptTail value slice (.ref a) (.int k u)) Q E s := by
  have hL := News.isList N hm
  obtain ⟨hk, e⟩ := List.getElem?_eq_some_iff.mp hl
  obtain ⟨v, hv, hD⟩ := D.get hk
  rw [e] at hD
  exact subscriptTail_builtin hL.typeIs slot_list_getitem.lookup (wpAny_getItem_list hL h0 hf (x := v) (by simpa using hv) (h v hD)) hs hg
end
end Mine
namespace Mine
section
variable {lg : Lg}
theorem DatAll_rev {vs : List Value} {ds : List Dat} (h : DatAll lg vs ds) : DatAll lg vs.reverse ds.reverse := by
  induction ds generalizing vs with
  | nil => cases h; exact .nil
  | cons d r ih =>
    obtain _ | ⟨h1, h2⟩ := h
    rw [List.reverse_cons, List.reverse_cons]
    exact (ih h2).append (.one h1)
theorem DatAll_take {vs : List Value} {ds : List Dat} (h : DatAll lg vs ds) (n : Nat) : DatAll lg (vs.take n) (ds.take n) := by
  induction ds generalizing vs n with
  | nil => cases h; cases n <;> exact .nil
  | cons d r ih =>
    obtain _ | ⟨h1, h2⟩ := h
    cases n with
    | zero => exact .nil
    | succ n => exact .cons h1 (ih h2 n)
theorem DatAll_drop {vs : List Value} {ds : List Dat} (h : DatAll lg vs ds) (n : Nat) : DatAll lg (vs.drop n) (ds.drop n) := by
  induction ds generalizing vs n with
  | nil => cases h; cases n <;> exact .nil
  | cons d r ih =>
    obtain _ | ⟨h1, h2⟩ := h
    cases n with
    | zero => exact .cons h1 h2
    | succ n => exact ih h2 n
end
theorem pick_upto (vs : List Value) {y : Int} (h : 0 ≤ y) : slicePick vs.toArray none (some y) none = (vs.take y.toNat).toArray := by
  have e : sliceBounds none (some y) none vs.toArray.size = (((0 : Nat) : Int), ((min y.toNat vs.toArray.size : Nat) : Int), 1) := by
    simp only [sliceBounds, Option.getD_none, show (1 : Int) > 0 by decide, if_true, if_neg (show ¬ (y < 0) by lia)]
    congr 1
    congr 1
    lia
  rw [kmk_pick_nat _ e]
  show ((vs.drop 0).take (min y.toNat vs.toArray.size - 0)).toArray = _
  rw [List.drop_zero, Nat.sub_zero, List.size_toArray, kmk_take_min]
theorem pick_from (vs : List Value) {x : Int} (h : 0 ≤ x) : slicePick vs.toArray (some x) none none = (vs.drop x.toNat).toArray := by
  have e : sliceBounds (some x) none none vs.toArray.size = (((min x.toNat vs.toArray.size : Nat) : Int), ((vs.toArray.size : Nat) : Int), 1) := by
    simp only [sliceBounds, Option.getD_none, show (1 : Int) > 0 by decide, if_true, if_neg (show ¬ (x < 0) by lia)]
    congr 1
    lia
  rw [kmk_pick_nat _ e]
  show ((vs.drop (min x.toNat vs.toArray.size)).take (vs.toArray.size - min x.toNat vs.toArray.size)).toArray = _
  rw [List.size_toArray, kmk_drop_min, List.take_of_length_le]
  rw [List.length_drop]; lia
section
variable {prog : Program} {w : World} {A : Around} {E : Value → Shared → Prop} {s : Shared} {h₀ : Heap} {L a : Addr} {m : Str → Option Value} {news lg : Lg} {vs : List Value} {n : Nat} {ds : List Dat} {Q : Value → Shared → Prop} {value slice : PySem.Expr} {ops : List Value}
theorem rev_D {vk : Value} (F : Fr h₀ L s.heap m) (N : News h₀ L s.heap news) (hm : (a, listOf vs.toArray n) ∈ news) (D : DatAll lg vs ds) (hf : ds.length ≤ 1000000) (pk : IsPart vk (some (-1)))
    (h : ∀ R us h', Fr h₀ L h' m → News h₀ L h' ((R, listOf us.toArray 0) :: news) → (∀ p ∈ news, p.1 < R) → DatAll lg us ds.reverse → Q (.ref R) { s with heap := h' })
    (hs : subscripted slice false (.ref a) (.ref s.heap.objs.size) = operate ops (getItem (.ref a) (.ref s.heap.objs.size))) (ht : ∀ r, letTemporaryGo value (.ref a) r = pure ()) :
    wpAny (model prog w) A (subscriptTail value slice (.ref a) (.ref s.heap.objs.size)) Q E { s with heap := s.heap.push { cls := .type "slice", data := .fields #[.none, .none, vk] } } :=
  krv_lit (its := vs.toArray) (zs := vs.reverse) F N (News.isList N hm) pk rfl (fun R h' F' N' l1 => h R _ h' F' N' l1 (DatAll_rev D)) hs ht (by rw [List.size_toArray, D.length, sizeLine_eq]; lia)
theorem upto_D {y : Int} {u : Tok} (F : Fr h₀ L s.heap m) (N : News h₀ L s.heap news) (hm : (a, listOf vs.toArray n) ∈ news) (D : DatAll lg vs ds) (hf : ds.length ≤ 1000000) (h0 : 0 ≤ y)
    (h : ∀ R us h', Fr h₀ L h' m → News h₀ L h' ((R, listOf us.toArray 0) :: news) → (∀ p ∈ news, p.1 < R) → DatAll lg us (ds.take y.toNat) → Q (.ref R) { s with heap := h' })
    (hs : subscripted slice false (.ref a) (.ref s.heap.objs.size) = operate [.ref s.heap.objs.size, .ref a] (getItem (.ref a) (.ref s.heap.objs.size))) (ht : ∀ r, letTemporaryGo value (.ref a) r = pure ()) :
    wpAny (model prog w) A (subscriptTail value slice (.ref a) (.ref s.heap.objs.size)) Q E { s with heap := s.heap.push { cls := .type "slice", data := .fields #[.none, .int y u, .none] } } :=
  kmk_slice F N (News.isList N hm) .none (.int _ _) (fun R h' F' N' l1 => h R (vs.take y.toNat) h' F' (by rw [pick_upto vs h0] at N'; exact N') l1 (DatAll_take D _)) hs ht (by rw [List.size_toArray, D.length, sizeLine_eq]; lia)
theorem from_D {y : Int} {u : Tok} (F : Fr h₀ L s.heap m) (N : News h₀ L s.heap news) (hm : (a, listOf vs.toArray n) ∈ news) (D : DatAll lg vs ds) (hf : ds.length ≤ 1000000) (h0 : 0 ≤ y)
    (h : ∀ R us h', Fr h₀ L h' m → News h₀ L h' ((R, listOf us.toArray 0) :: news) → (∀ p ∈ news, p.1 < R) → DatAll lg us (ds.drop y.toNat) → Q (.ref R) { s with heap := h' })
    (hs : subscripted slice false (.ref a) (.ref s.heap.objs.size) = operate [.ref s.heap.objs.size, .ref a] (getItem (.ref a) (.ref s.heap.objs.size))) (ht : ∀ r, letTemporaryGo value (.ref a) r = pure ()) :
    wpAny (model prog w) A (subscriptTail value slice (.ref a) (.ref s.heap.objs.size)) Q E { s with heap := s.heap.push { cls := .type "slice", data := .fields #[.int y u, .none, .none] } } :=
  kmk_slice F N (News.isList N hm) (.int _ _) .none (fun R h' F' N' l1 => h R (vs.drop y.toNat) h' F' (by rw [pick_from vs h0] at N'; exact N') l1 (DatAll_drop D _)) hs ht (by rw [List.size_toArray, D.length, sizeLine_eq]; lia)
end
end Mine
namespace Mine
end Mine
namespace Mine
noncomputable def FnV (w : World) (f : Addr) (n : Nat) (G : List Vl → Vl → Prop) : Prop :=
  ∀ (c : Cx), CxOk w c → Rm c n → ∀ (fx : Lg) (m : Str → Option Value) (news : Lg) (t : Tb) (s : Shared) (Q E : Value → Shared → Prop) (vs : List Value) (ds : List Vl) (r : Vl),
    Fr c.h₀ c.L s.heap m → News c.h₀ c.L s.heap (tabL t ++ (fx ++ news)) → TabOk news t → Hi (fx ++ news) → VAll w news vs ds → G ds r →
    (∀ v h' tk' tl t', Fr c.h₀ c.L h' m → News c.h₀ c.L h' (tabL t' ++ (fx ++ (news ++ tl))) → TabOk (news ++ tl) t' → Up (fx ++ news) tl → VIn w (news ++ tl) v r → Q v { s with heap := h', toks := tk' }) →
    wpAny (theM w) c.A (call (.ref f) vs) Q E s
theorem FnV.of {w : World} {f : Addr} {n : Nat} {G : List Dat → Dat → Prop} (C : Fn w f n G) : FnV w f n (fun ds r => ∃ ds' r', ds = ds'.map Vl.d ∧ r = .d r' ∧ G ds' r') := by
  rintro c ok rm fx m news t s Q E vs _ _ F N T H D ⟨ds, r, rfl, rfl, g⟩ k
  exact C _ _ _ _ _ _ _ _ _ _ _ _ _ _ _ _ _ _ _ _ _ _ vs ds r ok.B F ok.X N ok.T ok.k g (DatAll.mono (fun p hp => memR p (memR p hp)) D.dat) rm.d rm.u fun v tl h' tk' F' N' l D' =>
    k v h' tk' tl t F' (fun p hp => N' p (by exact Mine.viaSub hp (by walk_at "mSUB"))) (T.mono memL) ⟨fun q hq p hp => Nat.ne_of_lt (l q (memR q hq) p hp), fun p hp => ⟨Nat.ne_of_gt (l (219, tabObj t.1) (memL _ (.head _)) p hp), Nat.ne_of_gt (l (226, tabObj t.2) (memL _ (.tail _ (.head _))) p hp)⟩⟩ (D'.mono memR)
noncomputable def ArgsD (w : World) (c : Cx) (env : Env) (σ : Sg) (es : List Expr) (ds : List Vl) : Prop :=
  ∀ pos fx m news t s (Q : List Value → Shared → Prop) E, Pre w c env fx m news t σ s.heap →
    (∀ vs h' tk' tl t', Pre w c env fx m (news ++ tl) t' σ h' → Up (fx ++ news) tl → VAll w (news ++ tl) vs ds → Q vs { s with heap := h', toks := tk' }) → wpAny (theM w) c.A (spliced (backTo pos (starEach es env))) Q E s
section
variable {w : World} {c : Cx} {env : Env} {σ : Sg} {d : Vl}
theorem aD_nil : ArgsD w c env σ [] [] := fun pos fx m news t s Q E P k =>
  args_nil (k [] s.heap s.toks [] t P.nil Up.nil .nil)
theorem aD_cons {e : Expr} {es : List Expr} {ds : List Vl} (h : EvalD w c env σ e d) (hr : ArgsD w c env σ es ds) (he : starEach (e :: es) env = (false, eval e env) :: starEach es env := by rfl) : ArgsD w c env σ (e :: es) (d :: ds) := fun pos fx m news t s Q E P k => by
  refine args_cons (h.run P fun v1 hA tkA tlA tA PA UA hv1 => hr pos _ _ _ _ _ _ _ PA fun vs hB tkB tlB tB PB UB hvs => ?_) he
  rw [List.append_assoc] at PB hvs
  rw [← List.append_assoc] at UB
  exact k (v1 :: vs) hB tkB (tlA ++ tlB) tB PB (UA.cat (UB.sub memL)) (.cons (hv1.mono (fun p hp => by rw [← List.append_assoc]; exact memL p hp)) hvs)
/-- a call with values that bear ds comes back with d -/
noncomputable def CallD (w : World) (c : Cx) (env : Env) (σ : Sg) (f : Value) (ds : List Vl) (d : Vl) : Prop :=
  ∀ fx m news t s Q E vs, Pre w c env fx m news t σ s.heap → VAll w news vs ds → Post w c env fx m news σ s Q d → wpAny (theM w) c.A (call f vs) Q E s
theorem cD_fn {f : Addr} {n : Nat} {G : List Vl → Vl → Prop} {ds : List Vl} (ok : CxOk w c) (C : FnV w f n G) (rm : Rm c n) (g : G ds d) : CallD w c env σ (.ref f) ds d := fun fx m news t s Q E vs P D k =>
  C c ok rm fx m news t s Q E vs ds d P.F P.N P.tab P.hi D g fun v h' tk' tl t' F' N' T' U' D' => k v h' tk' tl t' (P.grow F' N' T' U') U' D'
structure EnvOk (env : Env) : Prop where
  g : env.globals = mainGlobals
  k : env.scope.kind = .function
theorem eD_callG {f : Str} {a : Addr} {np pos : Pos} {e : Expr} {es : List Expr} {ds : List Vl} (ok : CxOk w c) (eo : EnvOk env) (hg : nsIn (Mine.top.heap_1 w.params) mainGlobals f = some (some (.ref a))) (hk : keepIn (Mine.top.heap_1 w.params) (.ref a) = true)
    (C : CallD w c env σ (.ref a) ds d) (ha : ArgsD w c env σ (e :: es) ds) (hx : env.kindOf f = some .globalImplicit := by rfl) (hdb : (f == ("__debug__" : Str)) = false := by decide)
    (he : starEach (e :: es) env = (false, eval e env) :: starEach es env := by rfl) (hpl : (backTo pos (starEach es env)).any (·.1) = false := by rfl) : EvalD w c env σ (.Call (.Name f np) (e :: es) [] pos) d := fun fx m news t s Q E P k => by
  refine Call_ (nameG_K P.F ok.X (topRead_of ok.T) hg ?_ eo.g eo.k hx hdb) rfl
  refine callWith_K ok.X hk (ha pos _ _ _ _ _ _ _ P fun vs hA tkA tlA tA PA UA hvs => ⟨ok.X.keeps PA.F.keep, ?_⟩) he hpl
  exact C _ _ _ _ _ _ _ vs PA hvs (k.after UA)
theorem nameG_B {x : Str} {pos : Pos} {v : Value} {s : Shared} {m : Str → Option Value} {Q E : Value → Shared → Prop} (F : Fr c.h₀ c.L s.heap m) (ok : CxOk w c) (e : nsIn (Mine.top.heap_1 w.params) mainGlobals x = some none) (hv : bootBuiltins x = some v) (hn : x ≠ "__name__") (h : Q v s)
    (eo : EnvOk env) (hb : env.builtins = builtinsNs) (hx : env.kindOf x = some .globalImplicit) (hd : (x == ("__debug__" : Str)) = false) :
    wpAny (theM w) c.A (eval (.Name x pos) env) Q E s :=
  Name_function_global eo.k hx (loadGlobal_builtin (env := env) (by rw [eo.g]; exact ok.T.g.keeps F.keep) (mg_none_of ok.X ok.T.g e) (by rw [hb]; exact ok.T.b.keeps F.keep) ((ok.T.builtins x hn).trans hv) h) hd
theorem eD_callB {f : Str} {id : String} {np pos : Pos} {e : Expr} {es : List Expr} {ds : List Vl} (ok : CxOk w c) (eo : EnvOk env) (hg : nsIn (Mine.top.heap_1 w.params) mainGlobals f = some none) (hv : bootBuiltins f = some (.builtin id))
    (C : CallD w c env σ (.builtin id) ds d) (ha : ArgsD w c env σ (e :: es) ds) (hn : f ≠ "__name__" := by decide) (hb : env.builtins = builtinsNs := by rfl) (hx : env.kindOf f = some .globalImplicit := by rfl) (hdb : (f == ("__debug__" : Str)) = false := by decide)
    (he : starEach (e :: es) env = (false, eval e env) :: starEach es env := by rfl) (hpl : (backTo pos (starEach es env)).any (·.1) = false := by rfl) : EvalD w c env σ (.Call (.Name f np) (e :: es) [] pos) d := fun fx m news t s Q E P k => by
  refine Call_ (nameG_B P.F ok hg hv hn ?_ eo hb hx hdb) rfl
  refine PyProof.Rows.callWith_builtin1 (ha pos _ _ _ _ _ _ _ P fun vs hA tkA tlA tA PA UA hvs => ?_) he hpl
  exact C _ _ _ _ _ _ _ vs PA hvs (k.after UA)
theorem eD_callT {f : Str} {T : String} {np pos : Pos} {e : Expr} {es : List Expr} {ds : List Vl} (ok : CxOk w c) (eo : EnvOk env) (hg : nsIn (Mine.top.heap_1 w.params) mainGlobals f = some none) (hv : bootBuiltins f = some (.type T))
    (C : CallD w c env σ (.type T) ds d) (ha : ArgsD w c env σ (e :: es) ds) (hn : f ≠ "__name__" := by decide) (hb : env.builtins = builtinsNs := by rfl) (hx : env.kindOf f = some .globalImplicit := by rfl) (hdb : (f == ("__debug__" : Str)) = false := by decide)
    (he : starEach (e :: es) env = (false, eval e env) :: starEach es env := by rfl) (hpl : (backTo pos (starEach es env)).any (·.1) = false := by rfl) : EvalD w c env σ (.Call (.Name f np) (e :: es) [] pos) d := fun fx m news t s Q E P k => by
  refine Call_ (nameG_B P.F ok hg hv hn ?_ eo hb hx hdb) rfl
  refine PyProof.Rows.callWith_type1 (ha pos _ _ _ _ _ _ _ P fun vs hA tkA tlA tA PA UA hvs => ?_) he hpl
  exact C _ _ _ _ _ _ _ vs PA hvs (k.after UA)
/-- a text's method -/
theorem eD_meth {o : Expr} {name : Str} {id : String} {ap pos : Pos} {e : Expr} {es : List Expr} {x : Str} {ds : List Vl} (h : EvalD w c env σ o (.d (.str x)))
    (hm : ∀ (t : Tok) (pl : Sem Bool) (s : Shared) (Q : Value × List Value → Shared → Prop) (E : Value → Shared → Prop), Q (.builtin id, [.str x t]) s → wpAny (theM w) c.A (getMethod (.str x t) name pl) Q E s)
    (C : CallD w c env σ (.builtin id) (.d (.str x) :: ds) d) (ha : ArgsD w c env σ (e :: es) ds)
    {pl : Sem Bool} (hev : eval (.Call (.Attribute o name ap) (e :: es) [] pos) env = (do
      let ov ← eval o env
      standAt ap.atName
      let (f, first) ← holding [ov] (getMethod ov name pl)
      callWith pos f first (backTo pos (starEach (e :: es) env)) []) := by rfl)
    (he : starEach (e :: es) env = (false, eval e env) :: starEach es env := by rfl) (hpl : (backTo pos (starEach es env)).any (·.1) = false := by rfl) : EvalD w c env σ (.Call (.Attribute o name ap) (e :: es) [] pos) d := fun fx m news t s Q E P k => by
  refine MethodCall_ (h.run P fun v1 hA tkA tlA tA PA UA hv1 => ?_) hev
  (first | refine Mine.inI (show DatIn _ _ _ from hv1) fun _ => ?_ | refine Mine.inS (show DatIn _ _ _ from hv1) fun _ => ?_ | refine Mine.inB (show DatIn _ _ _ from hv1) ?_ | refine Mine.inN (show DatIn _ _ _ from hv1) ?_)
  refine hm _ _ _ _ _ ?_
  refine callWith_method1 (ha pos _ _ _ _ _ _ _ PA fun vs hB tkB tlB tB PB UB hvs => ?_) he hpl
  exact C _ _ _ _ _ _ _ _ PB (.cons (.str _ _) hvs) ((k.after UA).after UB)
-- built-in calls
theorem cD_strlen {x : Str} (hl : x.length ≤ 16000000) : CallD w c env σ (.builtin "len") [.d (.str x)] (.d (.int x.length)) := fun fx m news t s Q E vs P D k => by
  (first | refine Mine.all1 D fun _ u0z => ?_ | refine Mine.dall1 D fun _ u0z => ?_)
  (first | refine Mine.inI (show DatIn _ _ _ from u0z) fun _ => ?_ | refine Mine.inS (show DatIn _ _ _ from u0z) fun _ => ?_ | refine Mine.inB (show DatIn _ _ _ from u0z) ?_ | refine Mine.inN (show DatIn _ _ _ from u0z) ?_)
  exact PySem.P.len_str (by lia) (k.same P (.int _ _) _)
theorem cD_len {ds : List Dat} (hl : ds.length ≤ 16000000) : CallD w c env σ (.builtin "len") [.d (.list ds)] (.d (.int ds.length)) := fun fx m news t s Q E vs P D k => by
  (first | refine Mine.all1 D fun _ hd => ?_ | refine Mine.dall1 D fun _ hd => ?_)
  refine Mine.inL (show DatIn _ _ _ from hd) fun _ _ _ hml hvl => ?_
  exact kd_len P.nnw hml hvl (by lia) (k.same P (.int _ _) _)
theorem cD_abs {i : Int} : CallD w c env σ (.builtin "abs") [.d (.int i)] (.d (.int (if i < 0 then -i else i))) := fun fx m news t s Q E vs P D k => by
  (first | refine Mine.all1 D fun _ u0z => ?_ | refine Mine.dall1 D fun _ u0z => ?_)
  (first | refine Mine.inI (show DatIn _ _ _ from u0z) fun _ => ?_ | refine Mine.inS (show DatIn _ _ _ from u0z) fun _ => ?_ | refine Mine.inB (show DatIn _ _ _ from u0z) ?_ | refine Mine.inN (show DatIn _ _ _ from u0z) ?_)
  exact call_abs_int fun u tk => k.same P (.int _ _) _
theorem cD_max {i j : Int} : CallD w c env σ (.builtin "max") [.d (.int i), .d (.int j)] (.d (.int (if j > i then j else i))) := fun fx m news t s Q E vs P D k => by
  (first | refine Mine.all2 D fun _ _ u0z u1z => ?_ | refine Mine.dall2 D fun _ _ u0z u1z => ?_)
  (first | refine Mine.inI (show DatIn _ _ _ from u0z) fun _ => ?_ | refine Mine.inS (show DatIn _ _ _ from u0z) fun _ => ?_ | refine Mine.inB (show DatIn _ _ _ from u0z) ?_ | refine Mine.inN (show DatIn _ _ _ from u0z) ?_)
  (first | refine Mine.inI (show DatIn _ _ _ from u1z) fun _ => ?_ | refine Mine.inS (show DatIn _ _ _ from u1z) fun _ => ?_ | refine Mine.inB (show DatIn _ _ _ from u1z) ?_ | refine Mine.inN (show DatIn _ _ _ from u1z) ?_)
  exact max_two_N rfl P.F P.N fun h' tk F' N' => k.heap ⟨F', N', P.tab, P.hi, P.rho⟩ (.int _ _)
theorem cD_find3 {x y : Str} {i : Int} : CallD w c env σ (.builtin "str.find") [.d (.str x), .d (.str y), .d (.int i)] (.d (.int (Txt.find3 x y i))) := fun fx m news t s Q E vs P D k => by
  (first | refine Mine.all3 D fun _ _ _ u0z u1z u2z => ?_ | refine Mine.dall3 D fun _ _ _ u0z u1z u2z => ?_)
  (first | refine Mine.inI (show DatIn _ _ _ from u0z) fun _ => ?_ | refine Mine.inS (show DatIn _ _ _ from u0z) fun _ => ?_ | refine Mine.inB (show DatIn _ _ _ from u0z) ?_ | refine Mine.inN (show DatIn _ _ _ from u0z) ?_)
  (first | refine Mine.inI (show DatIn _ _ _ from u1z) fun _ => ?_ | refine Mine.inS (show DatIn _ _ _ from u1z) fun _ => ?_ | refine Mine.inB (show DatIn _ _ _ from u1z) ?_ | refine Mine.inN (show DatIn _ _ _ from u1z) ?_)
  (first | refine Mine.inI (show DatIn _ _ _ from u2z) fun _ => ?_ | refine Mine.inS (show DatIn _ _ _ from u2z) fun _ => ?_ | refine Mine.inB (show DatIn _ _ _ from u2z) ?_ | refine Mine.inN (show DatIn _ _ _ from u2z) ?_)
  exact SC.find3 (k.same P (.int _ _) _)
theorem cD_join {x : Str} {ss : List Str} (hx : x.length ≤ 16) (hw : wt ss ≤ 200000) : CallD w c env σ (.builtin "str.join") [.d (.str x), .d (.list (ss.map .str))] (.d (.str (Txt.join x ss))) := fun fx m news t s Q E vs P D k => by
  (first | refine Mine.all2 D fun _ _ u0z hd => ?_ | refine Mine.dall2 D fun _ _ u0z hd => ?_)
  (first | refine Mine.inI (show DatIn _ _ _ from u0z) fun _ => ?_ | refine Mine.inS (show DatIn _ _ _ from u0z) fun _ => ?_ | refine Mine.inB (show DatIn _ _ _ from u0z) ?_ | refine Mine.inN (show DatIn _ _ _ from u0z) ?_)
  refine Mine.inL (show DatIn _ _ _ from hd) fun _ _ _ hml hvl => ?_
  exact join_D P.nnw hml hvl hx hw fun t' tk _ => k.same P (.str _ _) _
-- operators
theorem tD_addS {x y : Str} (hl : x.length + y.length ≤ 16000000) : TreeD w c env σ (fun vs => match vs with | [a, b] => binaryOp .Add a b | _ => pure .none) [.d (.str x), .d (.str y)] (.d (.str (x ++ y))) := fun fx m news t s Q E vs P D k => by
  (first | refine Mine.all2 D fun _ _ u0z u1z => ?_ | refine Mine.dall2 D fun _ _ u0z u1z => ?_)
  (first | refine Mine.inI (show DatIn _ _ _ from u0z) fun _ => ?_ | refine Mine.inS (show DatIn _ _ _ from u0z) fun _ => ?_ | refine Mine.inB (show DatIn _ _ _ from u0z) ?_ | refine Mine.inN (show DatIn _ _ _ from u0z) ?_)
  (first | refine Mine.inI (show DatIn _ _ _ from u1z) fun _ => ?_ | refine Mine.inS (show DatIn _ _ _ from u1z) fun _ => ?_ | refine Mine.inB (show DatIn _ _ _ from u1z) ?_ | refine Mine.inN (show DatIn _ _ _ from u1z) ?_)
  exact KOpn.add (by lia) fun t' tk _ => k.same P (.str _ _) _
theorem tD_addI {x y : Int} : TreeD w c env σ (fun vs => match vs with | [a, b] => binaryOp .Add a b | _ => pure .none) [.d (.int x), .d (.int y)] (.d (.int (x + y))) := fun fx m news t s Q E vs P D k => by
  (first | refine Mine.all2 D fun _ _ u0z u1z => ?_ | refine Mine.dall2 D fun _ _ u0z u1z => ?_)
  (first | refine Mine.inI (show DatIn _ _ _ from u0z) fun _ => ?_ | refine Mine.inS (show DatIn _ _ _ from u0z) fun _ => ?_ | refine Mine.inB (show DatIn _ _ _ from u0z) ?_ | refine Mine.inN (show DatIn _ _ _ from u0z) ?_)
  (first | refine Mine.inI (show DatIn _ _ _ from u1z) fun _ => ?_ | refine Mine.inS (show DatIn _ _ _ from u1z) fun _ => ?_ | refine Mine.inB (show DatIn _ _ _ from u1z) ?_ | refine Mine.inN (show DatIn _ _ _ from u1z) ?_)
  exact add_int (k.same P (.int _ _) _)
theorem tD_subI {x y : Int} : TreeD w c env σ (fun vs => match vs with | [a, b] => binaryOp .Sub a b | _ => pure .none) [.d (.int x), .d (.int y)] (.d (.int (x - y))) := fun fx m news t s Q E vs P D k => by
  (first | refine Mine.all2 D fun _ _ u0z u1z => ?_ | refine Mine.dall2 D fun _ _ u0z u1z => ?_)
  (first | refine Mine.inI (show DatIn _ _ _ from u0z) fun _ => ?_ | refine Mine.inS (show DatIn _ _ _ from u0z) fun _ => ?_ | refine Mine.inB (show DatIn _ _ _ from u0z) ?_ | refine Mine.inN (show DatIn _ _ _ from u0z) ?_)
  (first | refine Mine.inI (show DatIn _ _ _ from u1z) fun _ => ?_ | refine Mine.inS (show DatIn _ _ _ from u1z) fun _ => ?_ | refine Mine.inB (show DatIn _ _ _ from u1z) ?_ | refine Mine.inN (show DatIn _ _ _ from u1z) ?_)
  exact sub_int (k.same P (.int _ _) _)
theorem tD_modI {x y : Int} (hy : y ≠ 0) : TreeD w c env σ (fun vs => match vs with | [a, b] => binaryOp .Mod a b | _ => pure .none) [.d (.int x), .d (.int y)] (.d (.int (x.fmod y))) := fun fx m news t s Q E vs P D k => by
  (first | refine Mine.all2 D fun _ _ u0z u1z => ?_ | refine Mine.dall2 D fun _ _ u0z u1z => ?_)
  (first | refine Mine.inI (show DatIn _ _ _ from u0z) fun _ => ?_ | refine Mine.inS (show DatIn _ _ _ from u0z) fun _ => ?_ | refine Mine.inB (show DatIn _ _ _ from u0z) ?_ | refine Mine.inN (show DatIn _ _ _ from u0z) ?_)
  (first | refine Mine.inI (show DatIn _ _ _ from u1z) fun _ => ?_ | refine Mine.inS (show DatIn _ _ _ from u1z) fun _ => ?_ | refine Mine.inB (show DatIn _ _ _ from u1z) ?_ | refine Mine.inN (show DatIn _ _ _ from u1z) ?_)
  exact mod_int' hy (k.same P (.int _ _) _)
theorem tD_powI {x y : Int} (h0 : 0 ≤ y) (h1 : y ≤ 1000000) (h2 : x.natAbs < 2 ^ 64) : TreeD w c env σ (fun vs => match vs with | [a, b] => binaryOp .Pow a b | _ => pure .none) [.d (.int x), .d (.int y)] (.d (.int (x ^ y.toNat))) := fun fx m news t s Q E vs P D k => by
  (first | refine Mine.all2 D fun _ _ u0z u1z => ?_ | refine Mine.dall2 D fun _ _ u0z u1z => ?_)
  (first | refine Mine.inI (show DatIn _ _ _ from u0z) fun _ => ?_ | refine Mine.inS (show DatIn _ _ _ from u0z) fun _ => ?_ | refine Mine.inB (show DatIn _ _ _ from u0z) ?_ | refine Mine.inN (show DatIn _ _ _ from u0z) ?_)
  (first | refine Mine.inI (show DatIn _ _ _ from u1z) fun _ => ?_ | refine Mine.inS (show DatIn _ _ _ from u1z) fun _ => ?_ | refine Mine.inB (show DatIn _ _ _ from u1z) ?_ | refine Mine.inN (show DatIn _ _ _ from u1z) ?_)
  exact pow_int_small h0 h1 h2 (k.same P (.int _ _) _)
noncomputable abbrev cmpT (op : CmpOp) : List Value → Sem Value := fun vs => match vs with | [a, b] => compareOp op a b | _ => pure .none
theorem tD_eqS {x y : Str} : TreeD w c env σ (cmpT .Eq) [.d (.str x), .d (.str y)] (.d (.bool (x == y))) := fun fx m news t s Q E vs P D k => by
  (first | refine Mine.all2 D fun _ _ u0z u1z => ?_ | refine Mine.dall2 D fun _ _ u0z u1z => ?_)
  (first | refine Mine.inI (show DatIn _ _ _ from u0z) fun _ => ?_ | refine Mine.inS (show DatIn _ _ _ from u0z) fun _ => ?_ | refine Mine.inB (show DatIn _ _ _ from u0z) ?_ | refine Mine.inN (show DatIn _ _ _ from u0z) ?_)
  (first | refine Mine.inI (show DatIn _ _ _ from u1z) fun _ => ?_ | refine Mine.inS (show DatIn _ _ _ from u1z) fun _ => ?_ | refine Mine.inB (show DatIn _ _ _ from u1z) ?_ | refine Mine.inN (show DatIn _ _ _ from u1z) ?_)
  exact eq_str (k.same' P (.bool _))
theorem tD_neS {x y : Str} : TreeD w c env σ (cmpT .NotEq) [.d (.str x), .d (.str y)] (.d (.bool (x != y))) := fun fx m news t s Q E vs P D k => by
  (first | refine Mine.all2 D fun _ _ u0z u1z => ?_ | refine Mine.dall2 D fun _ _ u0z u1z => ?_)
  (first | refine Mine.inI (show DatIn _ _ _ from u0z) fun _ => ?_ | refine Mine.inS (show DatIn _ _ _ from u0z) fun _ => ?_ | refine Mine.inB (show DatIn _ _ _ from u0z) ?_ | refine Mine.inN (show DatIn _ _ _ from u0z) ?_)
  (first | refine Mine.inI (show DatIn _ _ _ from u1z) fun _ => ?_ | refine Mine.inS (show DatIn _ _ _ from u1z) fun _ => ?_ | refine Mine.inB (show DatIn _ _ _ from u1z) ?_ | refine Mine.inN (show DatIn _ _ _ from u1z) ?_)
  exact ne_str (k.same' P (.bool _))
theorem tD_eqI {x y : Int} : TreeD w c env σ (cmpT .Eq) [.d (.int x), .d (.int y)] (.d (.bool (x == y))) := fun fx m news t s Q E vs P D k => by
  (first | refine Mine.all2 D fun _ _ u0z u1z => ?_ | refine Mine.dall2 D fun _ _ u0z u1z => ?_)
  (first | refine Mine.inI (show DatIn _ _ _ from u0z) fun _ => ?_ | refine Mine.inS (show DatIn _ _ _ from u0z) fun _ => ?_ | refine Mine.inB (show DatIn _ _ _ from u0z) ?_ | refine Mine.inN (show DatIn _ _ _ from u0z) ?_)
  (first | refine Mine.inI (show DatIn _ _ _ from u1z) fun _ => ?_ | refine Mine.inS (show DatIn _ _ _ from u1z) fun _ => ?_ | refine Mine.inB (show DatIn _ _ _ from u1z) ?_ | refine Mine.inN (show DatIn _ _ _ from u1z) ?_)
  exact eq_int (k.same' P (.bool _))
theorem tD_ltI {x y : Int} : TreeD w c env σ (cmpT .Lt) [.d (.int x), .d (.int y)] (.d (.bool (decide (x < y)))) := fun fx m news t s Q E vs P D k => by
  (first | refine Mine.all2 D fun _ _ u0z u1z => ?_ | refine Mine.dall2 D fun _ _ u0z u1z => ?_)
  (first | refine Mine.inI (show DatIn _ _ _ from u0z) fun _ => ?_ | refine Mine.inS (show DatIn _ _ _ from u0z) fun _ => ?_ | refine Mine.inB (show DatIn _ _ _ from u0z) ?_ | refine Mine.inN (show DatIn _ _ _ from u0z) ?_)
  (first | refine Mine.inI (show DatIn _ _ _ from u1z) fun _ => ?_ | refine Mine.inS (show DatIn _ _ _ from u1z) fun _ => ?_ | refine Mine.inB (show DatIn _ _ _ from u1z) ?_ | refine Mine.inN (show DatIn _ _ _ from u1z) ?_)
  exact lt_int (k.same' P (.bool _))
theorem tD_leI {x y : Int} : TreeD w c env σ (cmpT .LtE) [.d (.int x), .d (.int y)] (.d (.bool (decide (x ≤ y)))) := fun fx m news t s Q E vs P D k => by
  (first | refine Mine.all2 D fun _ _ u0z u1z => ?_ | refine Mine.dall2 D fun _ _ u0z u1z => ?_)
  (first | refine Mine.inI (show DatIn _ _ _ from u0z) fun _ => ?_ | refine Mine.inS (show DatIn _ _ _ from u0z) fun _ => ?_ | refine Mine.inB (show DatIn _ _ _ from u0z) ?_ | refine Mine.inN (show DatIn _ _ _ from u0z) ?_)
  (first | refine Mine.inI (show DatIn _ _ _ from u1z) fun _ => ?_ | refine Mine.inS (show DatIn _ _ _ from u1z) fun _ => ?_ | refine Mine.inB (show DatIn _ _ _ from u1z) ?_ | refine Mine.inN (show DatIn _ _ _ from u1z) ?_)
  exact PySem.P.le_int (k.same' P (.bool _))
theorem tD_gtI {x y : Int} : TreeD w c env σ (cmpT .Gt) [.d (.int x), .d (.int y)] (.d (.bool (decide (x > y)))) := fun fx m news t s Q E vs P D k => by
  (first | refine Mine.all2 D fun _ _ u0z u1z => ?_ | refine Mine.dall2 D fun _ _ u0z u1z => ?_)
  (first | refine Mine.inI (show DatIn _ _ _ from u0z) fun _ => ?_ | refine Mine.inS (show DatIn _ _ _ from u0z) fun _ => ?_ | refine Mine.inB (show DatIn _ _ _ from u0z) ?_ | refine Mine.inN (show DatIn _ _ _ from u0z) ?_)
  (first | refine Mine.inI (show DatIn _ _ _ from u1z) fun _ => ?_ | refine Mine.inS (show DatIn _ _ _ from u1z) fun _ => ?_ | refine Mine.inB (show DatIn _ _ _ from u1z) ?_ | refine Mine.inN (show DatIn _ _ _ from u1z) ?_)
  exact gt_int (k.same' P (.bool _))
theorem tD_geI {x y : Int} : TreeD w c env σ (cmpT .GtE) [.d (.int x), .d (.int y)] (.d (.bool (decide (x ≥ y)))) := fun fx m news t s Q E vs P D k => by
  (first | refine Mine.all2 D fun _ _ u0z u1z => ?_ | refine Mine.dall2 D fun _ _ u0z u1z => ?_)
  (first | refine Mine.inI (show DatIn _ _ _ from u0z) fun _ => ?_ | refine Mine.inS (show DatIn _ _ _ from u0z) fun _ => ?_ | refine Mine.inB (show DatIn _ _ _ from u0z) ?_ | refine Mine.inN (show DatIn _ _ _ from u0z) ?_)
  (first | refine Mine.inI (show DatIn _ _ _ from u1z) fun _ => ?_ | refine Mine.inS (show DatIn _ _ _ from u1z) fun _ => ?_ | refine Mine.inB (show DatIn _ _ _ from u1z) ?_ | refine Mine.inN (show DatIn _ _ _ from u1z) ?_)
  exact ge_int (k.same' P (.bool _))
end
end Mine

namespace Mine
section
variable {prog : Program} {w : World} {A : Around} {E : Value → Shared → Prop}
theorem le_body {s : Shared} {a b : Addr} {i j k l : Int} {ti tj tk tl : Tok} {n1 n2 : Nat} {xs ys : List Value} (hxs : xs = [.int i ti, .int j tj]) (hys : ys = [.int k tk, .int l tl]) {Q : Fin → Shared → Prop}
    (ha : s.heap.get? a = some { cls := .type "tuple", data := .seq xs.toArray n1 }) (hb : s.heap.get? b = some { cls := .type "tuple", data := .seq ys.toArray n2 })
    (h : Q (.done (.ret (.bool (decide (i < k ∨ (i = k ∧ j ≤ l)))))) s) : wpAny (model prog w) A (Builtin.«tuple.__le__» ⟨[.ref a, .ref b], []⟩) Q E s := by
  obtain ⟨hh, g, dd, t, os⟩ := s
  have hTa : (⟨hh, g, dd, t, os⟩ : Shared).TypeIs (.ref a) "tuple" := ⟨_, ha, rfl⟩
  have hTb : (⟨hh, g, dd, t, os⟩ : Shared).TypeIs (.ref b) "tuple" := ⟨_, hb, rfl⟩
  have f1 := F.isi_sub_tuple
  repeat (any_goals (first | assumption | wp_step))
  subst hxs hys
  refine wpAny_bind (wpAny_bind (wpAny_eqBool_int ?_))
  by_cases h1 : (i == k) = true
  · rw [h1]
    refine wpAny_pure ?_
    refine wpAny_bind (wpAny_bind (wpAny_eqBool_int ?_))
    have e1 : i = k := by simpa using h1
    by_cases h2 : (j == l) = true
    · rw [h2]
      refine wpAny_pure ?_
      have e2 : j = l := by simpa using h2
      repeat (any_goals (first | assumption | wp_step))
      subst e1 e2
      have e : decide (i < i ∨ (i = i ∧ j ≤ j)) = true := decide_eq_true (.inr ⟨rfl, Int.le_refl _⟩)
      rw [e] at h
      exact h
    · rw [Bool.eq_false_iff.mpr h2]
      have e : decide (i < k ∨ (i = k ∧ j ≤ l)) = decide (j ≤ l) := by subst e1; simp
      rw [e] at h
      refine wpAny_bind (wpAny_rule (wpAny_bind ?_))
      show wpAny _ _ (compareOp .LtE (.int j tj) (.int l tl)) _ _ _
      refine PySem.P.le_int ?_
      exact wpAny_bind (wpAny_pure (wpAny_pure (wpAny_pure (wpAny_pure h))))
  · rw [Bool.eq_false_iff.mpr h1]
    have e1 : i ≠ k := by simpa using h1
    have e : decide (i < k ∨ (i = k ∧ j ≤ l)) = decide (i ≤ k) := by
      apply decide_eq_decide.mpr
      lia
    rw [e] at h
    refine wpAny_bind (wpAny_rule (wpAny_bind ?_))
    show wpAny _ _ (compareOp .LtE (.int i ti) (.int k tk)) _ _ _
    refine PySem.P.le_int ?_
    exact wpAny_bind (wpAny_pure (wpAny_pure (wpAny_pure (wpAny_pure h))))
theorem tup_le {s : Shared} {a b : Addr} {i j k l : Int} {ti tj tk tl : Tok} {n1 n2 : Nat} {h₀ : Heap} {L : Addr} {news : List (Addr × Obj)} {Q : Value → Shared → Prop} (N : News h₀ L s.heap news)
    (ha : (a, ({ cls := .type "tuple", data := .seq #[.int i ti, .int j tj] n1 } : Obj)) ∈ news) (hb : (b, ({ cls := .type "tuple", data := .seq #[.int k tk, .int l tl] n2 } : Obj)) ∈ news) (hu : A.units < cLine)
    (h : Q (.bool (decide (i < k ∨ (i = k ∧ j ≤ l)))) s) : wpAny (model prog w) A (compareOp .LtE (.ref a) (.ref b)) Q E s := by
  have ga := N.get ha
  have gb := N.get hb
  exact richCompare_meets_room (op := .LtE) (S := fun _ R s => (s.heap.get? a = some { cls := .type "tuple", data := .seq #[.int i ti, .int j tj] n1 } ∧ s.heap.get? b = some { cls := .type "tuple", data := .seq #[.int k tk, .int l tl] n2 }) ∧ R (.ok (.ret (.bool (decide (i < k ∨ (i = k ∧ j ≤ l)))))) s)
    ⟨_, ga, rfl⟩ ⟨_, gb, rfl⟩ F.slot_tuple_le F.entry_tuple_le (F.args_tuple_le_2 _ _) (fun _ _ _ _ _ hs => le_body rfl rfl hs.1.1 hs.1.2 hs.2) ⟨⟨ga, gb⟩, (fun e => nomatch e), h⟩ hu
end
end Mine
namespace Mine
section
variable {prog : Program} {w : World} {A : Around} {E : Value → Shared → Prop} {s : Shared}
theorem sliceApplied_3 {sl : Addr} {u : Tok} {Q : Int × Int × Nat → Shared → Prop} (hs : s.heap.IsSliceOf sl .none (.int 3 u) .none) (h : Q (0, 1, 3) s) :
    wpAny (model prog w) A (Builtin.Slice.sliceApplied (.ref sl) (pure (((4 : Nat) : Int)))) Q E s := by
  obtain ⟨os, hos, hcs, hds⟩ := id hs
  unfold Builtin.Slice.sliceApplied Builtin.Slice.sliceFields
  refine wpAny_bind (wpAny_bind (wpAny_field hos hds (x := .none) rfl (wpAny_bind (wpAny_field hos hds (x := .int 3 u) rfl (wpAny_bind (wpAny_field hos hds (x := .none) rfl (wpAny_pure ?_)))))))
  refine wpAny_bind (slicePart_none ?_)
  show wpAny _ _ (if ((1 : Int) == 0) = true then _ else _) _ _ s
  rw [if_neg (by decide)]
  refine wpAny_bind (slicePart_none (wpAny_bind (slicePart_int (wpAny_bind (wpAny_pure ?_)))))
  show wpAny _ _ (match Builtin.Slice.sliceAdjust none (some (3 : Int)) 1 ((4 : Nat) : Int) with | (lo, hi) => pure (lo, (1 : Int), Builtin.Slice.slicePlaces lo hi 1)) _ _ s
  rw [show Builtin.Slice.sliceAdjust none (some (3 : Int)) 1 ((4 : Nat) : Int) = (0, 3) from by decide]
  show wpAny _ _ (pure ((0 : Int), (1 : Int), Builtin.Slice.slicePlaces (0 : Int) (3 : Int) 1)) _ _ s
  rw [show Builtin.Slice.slicePlaces (0 : Int) (3 : Int) 1 = 3 from by decide]
  exact wpAny_pure h
theorem getItem_tuple_3 {t sl : Addr} {v0 v1 v2 v3 : Value} {u : Tok} {Q : Value → Shared → Prop} (ht : IsTup s.heap t #[v0, v1, v2, v3]) (hs : s.heap.IsSliceOf sl .none (.int 3 u) .none)
    (h : Q (.ref s.heap.objs.size) { s with heap := s.heap.push { cls := .type "tuple", data := .seq #[v0, v1, v2] } }) : wpAny (model prog w) A (getItem (.ref t) (.ref sl)) Q E s := by
  have hdrop : sizeOk (.seq #[v0, v1, v2]) := by
    show (#[v0, v1, v2] : Array Value).size ≤ sizeLine
    rw [sizeLine_eq]; show 3 ≤ 16777216; decide
  obtain ⟨os, hos, hcs, hds⟩ := id hs
  have hTs : s.TypeIs (.ref sl) "slice" := ⟨os, hos, hcs⟩
  unfold getItem
  try with_reducible refine wpAny_holding ?_
  first | refine wpAny_bind (wpAny_pure ?_) | skip
  refine wpAny_bind (wpAny_sequenceKey ht.typeIs (by decide) ?_)
  refine wpAny_bind (wpAny_callSpecial?_slot (name := Str.ofString "__getitem__") ht.typeIs slot_tuple_getitem
    (wpAny_call_entry slot_tuple_getitem ht.typeIs entry_tuple_getitem ?_ (args_tuple_getitem _ _)))
  show wpAny _ _ (Builtin.Tuple.tupleItemsOf (.ref t) >>= _) _ _ s
  refine wpAny_bind (tupleItemsOf_ ht ?_)
  refine wpAny_bind (wpAny_typeOf hTs ?_)
  rw [if_pos (by decide)]
  refine wpAny_bind (sliceApplied_3 hs ?_)
  show wpAny _ _ (if ((0 : Int) == 0 && (1 : Int) == 1 && (3 == 4)) = true then _ else _) _ _ s
  rw [if_neg (by decide)]
  first
    | exact wpAny_bind (m := Builtin.Tuple.tupleExact _) (wpAny_newObj_type (wpAny_pure ⟨_, rfl, wpAny_pure h⟩) hdrop)
    | exact wpAny_bind (m := Builtin.Tuple.tupleExact _) (wpAny_newObj_type (wpAny_bind (wpAny_pure (wpAny_pure ⟨_, rfl, wpAny_pure h⟩))) hdrop)
    | exact wpAny_bind (wpAny_bind (m := Builtin.Tuple.tupleExact _) (wpAny_newObj_type (wpAny_pure (wpAny_pure ⟨_, rfl, wpAny_pure h⟩)) hdrop))
    | exact wpAny_bind (wpAny_bind (m := Builtin.Tuple.tupleExact _) (wpAny_newObj_type (wpAny_pure ⟨_, rfl, wpAny_pure h⟩) hdrop))
theorem slice_tuple_3 {value slice : Expr} {t : Addr} {v0 v1 v2 v3 : Value} {n : Nat} {u : Tok} {h₀ : Heap} {L : Addr} {m : Str → Option Value} {news : List (Addr × Obj)} {Q : Value → Shared → Prop}
    (F : Fr h₀ L s.heap m) (N : News h₀ L s.heap news) (hm : (t, ({ cls := .type "tuple", data := .seq #[v0, v1, v2, v3] n } : Obj)) ∈ news)
    (h : ∀ d h', Fr h₀ L h' m → News h₀ L h' ((d, { cls := .type "tuple", data := .seq #[v0, v1, v2] }) :: news) → (∀ p ∈ news, p.1 < d) → Q (.ref d) { s with heap := h' })
    (hs : subscripted slice false (.ref t) (.ref s.heap.objs.size) = operate [.ref s.heap.objs.size, .ref t] (getItem (.ref t) (.ref s.heap.objs.size)))
    (hg : ∀ r, letTemporaryGo value (.ref t) r = pure ()) :
    wpAny (model prog w) A (subscriptTail value slice (.ref t) (.ref s.heap.objs.size)) Q E { s with heap := s.heap.push { cls := .type "slice", data := .fields #[.none, .int 3 u, .none] } } := by
  have ht : IsTup s.heap t #[v0, v1, v2, v3] := ⟨_, N.get hm, rfl, n, rfl⟩
  have ht' : IsTup (s.heap.push { cls := .type "slice", data := .fields #[.none, .int 3 u, .none] }) t #[v0, v1, v2, v3] := ht.keeps fun _ _ e => Heap.get?_push_of_some _ e
  refine subscriptTail_ops (s := { s with heap := s.heap.push { cls := .type "slice", data := .fields #[.none, .int 3 u, .none] } }) ht'.typeIs slot_tuple_getitem.lookup
    (getItem_tuple_3 ht' (Heap.IsSliceOf.new ..) ?_) hs hg
  have N1 := News.push (F.push { cls := .type "slice", data := .fields #[.none, .int 3 u, .none] }) (N.grown fun _ _ e => Heap.get?_push_of_some _ e) { cls := .type "tuple", data := .seq #[v0, v1, v2] }
  rw [Heap.size_push] at N1
  show Q (.ref (s.heap.push _).objs.size) _
  rw [Heap.size_push]
  exact h _ _ ((F.push _).push _) N1 fun p hp => Nat.lt_succ_of_lt (Heap.lt_size (N p hp).1)
end
end Mine
namespace Mine
section
variable {w : World} {c : Cx} {env : Env} {σ : Sg} {d d1 d2 : Vl}
noncomputable def TruthD (w : World) (c : Cx) (env : Env) (σ : Sg) (d : Vl) (b : Bool) : Prop :=
  ∀ fx m news t s Q E v, Pre w c env fx m news t σ s.heap → VIn w news v d → PostB w c env fx m news σ s Q b → wpAny (theM w) c.A (truthy v) Q E s
theorem trS {x : Str} (hl : x.length ≤ 16000000) : TruthD w c env σ (.d (.str x)) ((x.length : Int) != 0) := fun fx m news t s Q E v P D k => by
  (first | refine Mine.inI (show DatIn _ _ _ from D) fun _ => ?_ | refine Mine.inS (show DatIn _ _ _ from D) fun _ => ?_ | refine Mine.inB (show DatIn _ _ _ from D) ?_ | refine Mine.inN (show DatIn _ _ _ from D) ?_)
  exact SBL.truthy (by lia) (k.same P _)
theorem trI {i : Int} : TruthD w c env σ (.d (.int i)) (i != 0) := fun fx m news t s Q E v P D k => by
  (first | refine Mine.inI (show DatIn _ _ _ from D) fun _ => ?_ | refine Mine.inS (show DatIn _ _ _ from D) fun _ => ?_ | refine Mine.inB (show DatIn _ _ _ from D) ?_ | refine Mine.inN (show DatIn _ _ _ from D) ?_)
  exact truthy_int (k.same P _)
theorem trB {b : Bool} : TruthD w c env σ (.d (.bool b)) b := fun fx m news t s Q E v P D k => by
  (first | refine Mine.inI (show DatIn _ _ _ from D) fun _ => ?_ | refine Mine.inS (show DatIn _ _ _ from D) fun _ => ?_ | refine Mine.inB (show DatIn _ _ _ from D) ?_ | refine Mine.inN (show DatIn _ _ _ from D) ?_)
  exact wpAny_truthy_bool (k.same P s.toks)
theorem trN : TruthD w c env σ (.d .none) false := fun fx m news t s Q E v P D k => by
  (first | refine Mine.inI (show DatIn _ _ _ from D) fun _ => ?_ | refine Mine.inS (show DatIn _ _ _ from D) fun _ => ?_ | refine Mine.inB (show DatIn _ _ _ from D) ?_ | refine Mine.inN (show DatIn _ _ _ from D) ?_)
  exact truthy_none (k.same P s.toks)
theorem trL {ds : List Dat} (hl : ds.length ≤ 1000000) : TruthD w c env σ (.d (.list ds)) (!ds.isEmpty) := fun fx m news t s Q E v P D k => by
  refine Mine.inL (show DatIn _ _ _ from D) fun _ _ _ hml hvl => ?_
  exact truthy_D P.nnw hml hvl hl fun tk => k.same P tk
theorem tT_val {e : Expr} {b : Bool} (h : EvalD w c env σ e d) (ht : TruthD w c env σ d b) (he : ∀ whole, isTrue e env whole = (do let v ← whole; standAt e.pos; holding [v] (truthy v)) := by intro _; rfl) : TestD w c env σ e b := fun fx m news t s Q E P k =>
  isTrue_plain (h.run P fun v1 hA tkA tlA tA PA UA hv1 => ht _ _ _ _ _ _ _ _ PA hv1 (k.after UA)) (he _)
theorem tT_cmp {l r : Expr} {op : CmpOp} {pos : Pos} {b : Bool} (h1 : EvalD w c env σ l d1) (h2 : EvalD w c env σ r d2) (h : TreeD w c env σ (cmpT op) [d1, d2] (.d (.bool b)))
    (hm : behindInMarks op r = false := by with_unfolding_all rfl) : TestD w c env σ (.Compare l [op] [r] pos) b := fun fx m news t s Q E P k => by
  refine wpAny_isTrue_Compare1 (h1.run P fun v1 hA tkA tlA tA PA UA hv1 => h2.run PA fun v2 hB tkB tlB tB PB UB hv2 => ?_) hm
  refine h _ _ _ _ _ _ _ [v1, v2] PB (.cons (hv1.mono memL) (.cons hv2 .nil)) fun v3 hC tkC tlC tC PC UC hv3 => ?_
  (first | refine Mine.inI (show DatIn _ _ _ from hv3) fun _ => ?_ | refine Mine.inS (show DatIn _ _ _ from hv3) fun _ => ?_ | refine Mine.inB (show DatIn _ _ _ from hv3) ?_ | refine Mine.inN (show DatIn _ _ _ from hv3) ?_)
  exact wpAny_truthy_bool ((((k.after UA).after UB).after UC).heap PC)
theorem tT_not {e : Expr} {pos : Pos} {b : Bool} (h : TestD w c env σ e b) : TestD w c env σ (.UnaryOp .Not e pos) (!b) := fun fx m news t s Q E P k =>
  isTrue_not (h _ _ _ _ _ _ _ P k)
theorem tT_and0 {pos : Pos} : TestD w c env σ (.BoolOp .And [] pos) true := fun fx m news t s Q E P k => isTrue_and_nil (k.same P _)
theorem tT_or0 {pos : Pos} : TestD w c env σ (.BoolOp .Or [] pos) false := fun fx m news t s Q E P k => isTrue_or_nil (k.same P _)
theorem tT_and {e : Expr} {es : List Expr} {pos : Pos} {b b' : Bool} (h : TestD w c env σ e b) (h' : b = true → TestD w c env σ (.BoolOp .And es pos) b') : TestD w c env σ (.BoolOp .And (e :: es) pos) (b && b') := fun fx m news t s Q E P k => by
  refine isTrue_and (h _ _ _ _ _ _ _ P fun hA tkA tlA tA PA UA => ?_)
  cases b with
  | false => exact (k.after UA).heap PA
  | true => exact h' rfl _ _ _ _ _ _ _ PA (k.after UA)
theorem tT_or {e : Expr} {es : List Expr} {pos : Pos} {b b' : Bool} (h : TestD w c env σ e b) (h' : b = false → TestD w c env σ (.BoolOp .Or es pos) b') : TestD w c env σ (.BoolOp .Or (e :: es) pos) (b || b') := fun fx m news t s Q E P k => by
  refine isTrue_or (h _ _ _ _ _ _ _ P fun hA tkA tlA tA PA UA => ?_)
  cases b with
  | true => exact (k.after UA).heap PA
  | false => exact h' rfl _ _ _ _ _ _ _ PA (k.after UA)
theorem eD_one {op e pos} (h : EvalD w c env σ e d) : EvalD w c env σ (.BoolOp op [e] pos) d := fun fx m news t s Q E P k => BoolOp_one (h _ _ _ _ _ _ _ P k)
theorem eD_or {e1 e2 : Expr} {es : List Expr} {pos : Pos} {b : Bool} (h : EvalD w c env σ e1 d1) (ht : TruthD w c env σ d1 b) (hb : b = true → d = d1) (h' : b = false → EvalD w c env σ (.BoolOp .Or (e2 :: es) pos) d) : EvalD w c env σ (.BoolOp .Or (e1 :: e2 :: es) pos) d := fun fx m news t s Q E P k => by
  refine BoolOp_or (h.run P fun v1 hA tkA tlA tA PA UA hv1 => ht _ _ _ _ _ _ _ _ PA hv1 fun hB tkB tlB tB PB UB => ?_)
  cases b with
  | true => cases hb rfl; exact ((k.after UA).after UB).heap PB (hv1.mono memL)
  | false => exact h' rfl _ _ _ _ _ _ _ PB ((k.after UA).after UB)
theorem eD_and {e1 e2 : Expr} {es : List Expr} {pos : Pos} {b : Bool} (h : EvalD w c env σ e1 d1) (ht : TruthD w c env σ d1 b) (hb : b = false → d = d1) (h' : b = true → EvalD w c env σ (.BoolOp .And (e2 :: es) pos) d) : EvalD w c env σ (.BoolOp .And (e1 :: e2 :: es) pos) d := fun fx m news t s Q E P k => by
  refine BoolOp_and (h.run P fun v1 hA tkA tlA tA PA UA hv1 => ht _ _ _ _ _ _ _ _ PA hv1 fun hB tkB tlB tB PB UB => ?_)
  cases b with
  | false => cases hb rfl; exact ((k.after UA).after UB).heap PB (hv1.mono memL)
  | true => exact h' rfl _ _ _ _ _ _ _ PB ((k.after UA).after UB)
theorem eD_if {t1 e1 e2 : Expr} {pos : Pos} {b : Bool} (h : TestD w c env σ t1 b) (h1 : b = true → EvalD w c env σ e1 d) (h2 : b = false → EvalD w c env σ e2 d) : EvalD w c env σ (.IfExp t1 e1 e2 pos) d := fun fx m news t s Q E P k => by
  refine IfExp_ (h _ _ _ _ _ _ _ P fun hA tkA tlA tA PA UA => ?_)
  cases b with
  | true => exact h1 rfl _ _ _ _ _ _ _ PA (k.after UA)
  | false => exact h2 rfl _ _ _ _ _ _ _ PA (k.after UA)
theorem eD_neg {e : Expr} {pos : Pos} {i : Int} (h : EvalD w c env σ e (.d (.int i))) : EvalD w c env σ (.UnaryOp .USub e pos) (.d (.int (-i))) := fun fx m news t s Q E P k =>
  UnaryOp_ (h.run P fun v1 hA tkA tlA tA PA UA hv1 => by
    (first | refine Mine.inI (show DatIn _ _ _ from hv1) fun _ => ?_ | refine Mine.inS (show DatIn _ _ _ from hv1) fun _ => ?_ | refine Mine.inB (show DatIn _ _ _ from hv1) ?_ | refine Mine.inN (show DatIn _ _ _ from hv1) ?_)
    exact neg_int ((k.after UA).heap PA (.int _ _)))
-- displays
theorem eD_list {es : List Expr} {pos : Pos} {ds : List Dat} (h : ArgsD w c env σ es (ds.map .d)) (hl : ds.length ≤ 1000000) : EvalD w c env σ (.List es pos) (.d (.list ds)) := fun fx m news t s Q E P k =>
  List_ (h pos _ _ _ _ _ _ _ P fun vs hA tkA tlA tA PA UA hvs => by
    have hlen := hvs.dat.length
    refine newList_N PA.F PA.N (fun h' F' N' => ?_) (by rw [sizeLine_eq]; lia)
    have U2 : Up (fx ++ (news ++ tlA)) [(hA.objs.size, listOf vs.toArray 0)] := PA.up (fun p hp => by rw [List.mem_singleton.mp hp]; exact Nat.le_refl _)
    exact (k.after UA) _ h' tkA _ tA (PA.grow0 (tl := [(hA.objs.size, listOf vs.toArray 0)]) F' N' U2) U2 (.list (memR _ (.head _)) (hvs.dat.mono memL)))
theorem eD_tuple {es : List Expr} {kk : Nat} {pos : Pos} {ds : List Dat} (h : ArgsD w c env σ es (ds.map .d)) (hl : ds.length ≤ 1000000) : EvalD w c env σ (.Tuple es kk pos) (.d (.tuple ds)) := fun fx m news t s Q E P k =>
  Tuple_ (h pos _ _ _ _ _ _ _ P fun vs hA tkA tlA tA PA UA hvs => by
    have hlen := hvs.dat.length
    refine newTuple_N PA.F PA.N (fun h' F' N' => ?_) (by rw [sizeLine_eq]; lia)
    have U2 : Up (fx ++ (news ++ tlA)) [(hA.objs.size, ({ cls := .type "tuple", data := .seq vs.toArray } : Obj))] := PA.up (fun p hp => by rw [List.mem_singleton.mp hp]; exact Nat.le_refl _)
    exact (k.after UA) _ h' tkA _ tA (PA.grow0 (tl := [(hA.objs.size, ({ cls := .type "tuple", data := .seq vs.toArray } : Obj))]) F' N' U2) U2 (.tuple (memR _ (.head _)) (hvs.dat.mono memL)))
-- subscripts
noncomputable abbrev subT (value slice : Expr) : List Value → Sem Value := fun vs => match vs with | [a, b] => subscriptTail value slice a b | _ => pure .none
theorem eD_sub {value slice : Expr} {pos : Pos} (h1 : EvalD w c env σ value d1) (h2 : EvalD w c env σ slice d2) (h : TreeD w c env σ (subT value slice) [d1, d2] d) : EvalD w c env σ (.Subscript value slice pos) d := fun fx m news t s Q E P k => by
  refine Subscript_ (h1.run P fun v1 hA tkA tlA tA PA UA hv1 => h2.run PA fun v2 hB tkB tlB tB PB UB hv2 => ?_)
  exact h _ _ _ _ _ _ _ [v1, v2] PB (.cons (hv1.mono memL) (.cons hv2 .nil)) ((k.after UA).after UB)
theorem sD_item {value slice : Expr} {ds : List Dat} {k : Int} {x : Dat} (h0 : 0 ≤ k) (hl : ds[k.toNat]? = some x) (hf : ds.length ≤ 1000000)
    (hs : ∀ a u, subscripted slice false (.ref a) (.int k u) = operate [.ref a, .int k u] (getItem (.ref a) (.int k u)) := by intro _ _; with_unfolding_all rfl) :
    TreeD w c env σ (subT value slice) [.d (.list ds), .d (.int k)] (.d x) := fun fx m news t s Q E vs P D kk => by
  (first | refine Mine.all2 D fun _ _ hd u1z => ?_ | refine Mine.dall2 D fun _ _ hd u1z => ?_)
  (first | refine Mine.inI (show DatIn _ _ _ from u1z) fun _ => ?_ | refine Mine.inS (show DatIn _ _ _ from u1z) fun _ => ?_ | refine Mine.inB (show DatIn _ _ _ from u1z) ?_ | refine Mine.inN (show DatIn _ _ _ from u1z) ?_)
  refine Mine.inL (show DatIn _ _ _ from hd) fun _ _ _ hml hvl => ?_
  have hlt := (List.getElem?_eq_some_iff.mp hl).1
  exact kba_turn (value' := .Name (Str.ofString "_") ⟨0, 0, 0, 0⟩) (fun _ => rfl) (item_D P.nnw hml hvl h0 (by lia) hl (fun v hv => kk.same' P hv) (hs _ _) fun _ => rfl)
theorem sD_last {value slice : Expr} {ds : List Dat} {x : Dat} (hl : ds.getLast? = some x)
    (hs : ∀ a u, subscripted slice false (.ref a) (.int (-1) u) = operate [.ref a, .int (-1) u] (getItem (.ref a) (.int (-1) u)) := by intro _ _; with_unfolding_all rfl) :
    TreeD w c env σ (subT value slice) [.d (.list ds), .d (.int (-1))] (.d x) := fun fx m news t s Q E vs P D kk => by
  (first | refine Mine.all2 D fun _ _ hd u1z => ?_ | refine Mine.dall2 D fun _ _ hd u1z => ?_)
  (first | refine Mine.inI (show DatIn _ _ _ from u1z) fun _ => ?_ | refine Mine.inS (show DatIn _ _ _ from u1z) fun _ => ?_ | refine Mine.inB (show DatIn _ _ _ from u1z) ?_ | refine Mine.inN (show DatIn _ _ _ from u1z) ?_)
  refine Mine.inL (show DatIn _ _ _ from hd) fun _ _ _ hml hvl => ?_
  exact kba_turn (value' := .Name (Str.ofString "_") ⟨0, 0, 0, 0⟩) (fun _ => rfl) (last_D P.nnw hml hvl hl (fun v hv => kk.same' P hv) (hs _ _) fun _ => rfl)
theorem sD_titem {value slice : Expr} {ds : List Dat} {k : Int} {x : Dat} (h0 : 0 ≤ k) (hl : ds[k.toNat]? = some x) (hf : ds.length ≤ 1000000)
    (hs : ∀ a u, subscripted slice false (.ref a) (.int k u) = operate [.ref a, .int k u] (getItem (.ref a) (.int k u)) := by intro _ _; with_unfolding_all rfl) :
    TreeD w c env σ (subT value slice) [.d (.tuple ds), .d (.int k)] (.d x) := fun fx m news t s Q E vs P D kk => by
  (first | refine Mine.all2 D fun _ _ hd u1z => ?_ | refine Mine.dall2 D fun _ _ hd u1z => ?_)
  (first | refine Mine.inI (show DatIn _ _ _ from u1z) fun _ => ?_ | refine Mine.inS (show DatIn _ _ _ from u1z) fun _ => ?_ | refine Mine.inB (show DatIn _ _ _ from u1z) ?_ | refine Mine.inN (show DatIn _ _ _ from u1z) ?_)
  refine Mine.inT (show DatIn _ _ _ from hd) fun _ _ _ hml hvl => ?_
  obtain ⟨hlt, e⟩ := List.getElem?_eq_some_iff.mp hl
  obtain ⟨v, hv, hD⟩ := hvl.get hlt
  rw [e] at hD
  have hlen := hvl.length
  exact kba_turn (value' := .Name (Str.ofString "_") ⟨0, 0, 0, 0⟩) (fun _ => rfl) (subscriptTail_builtin (News.isTup P.nnw hml).typeIs slot_tuple_getitem.lookup (getItem_tuple (News.isTup P.nnw hml) (by lia) (by lia) (j := k.toNat) (by unfold seqIndex?; simp; lia) (x := v) (by simpa using hv) (kk.same' P hD)) (hs _ _) fun _ => rfl)
end
end Mine

namespace Mine
noncomputable abbrev Mu := Option (Str × List Dat)
noncomputable def upd (σ : Sg) (x : Str) (d : Vl) : Sg := fun y => if y = x then some d else σ y
/-- a name of the frame's own: a local, or a cell of it -/
noncomputable def RhoL (w : World) (c : Cx) (m : Str → Option Value) (fx : Lg) (news : Lg) (σ : Sg) : Prop :=
  ∀ x d, σ x = some d → (x == ("__debug__" : Str)) = false ∧ (x == ("__classdict__" : Str)) = false ∧ ∃ v, VIn w news v d ∧
    ((c.env.kindOf x = some .local ∧ m x = some v) ∨ ∃ a o, (c.env.kindOf x = some .cell ∨ c.env.kindOf x = some .free) ∧ c.cl.lookup x = some a ∧ (a, o) ∈ fx ∧ o.data = .cell (some v))
structure InAt (w : World) (c : Cx) (ex n₀ tl : Lg) (σ : Sg) (mu : Mu) (h : Heap) (m : Str → Option Value) (fx : Lg) (t : Tb) : Prop where
  F : Fr c.h₀ c.L h m
  N : News c.h₀ c.L h (tabL t ++ ((fx ++ ex) ++ (n₀ ++ tl)))
  tab : TabOk (n₀ ++ tl) t
  hi : Hi ((fx ++ ex) ++ (n₀ ++ tl))
  rho : RhoL w c m (fx ++ c.cap) (n₀ ++ tl) σ
  dis : ∀ q ∈ ex ++ n₀, ∀ p ∈ tl, neq q.1 p.1
  dif : ∀ q ∈ n₀ ++ tl, ∀ p ∈ fx, neq q.1 p.1
  dex : ∀ q ∈ fx, ∀ p ∈ ex, neq q.1 p.1
  nd : (fx.map (·.1)).Nodup
  cells : (∀ x a, c.env.kindOf x = some .cell → c.cl.lookup x = some a → ∃ o v, (a, o) ∈ fx ∧ o.data = .cell v) ∧ ∀ p ∈ c.cap, p ∈ ex
  mutl : ∀ x ds, mu = some (x, ds) → ∃ a vs n, (a, listOf vs.toArray n) ∈ fx ∧ m x = some (.ref a) ∧ c.env.kindOf x = some .local ∧ DatAll tl vs ds
noncomputable def InSt (w : World) (c : Cx) (ex n₀ tl : Lg) (σ : Sg) (mu : Mu) (h : Heap) : Prop := ∃ m fx t, InAt w c ex n₀ tl σ mu h m fx t
inductive Out where
  | next (σ : Sg) (mu : Mu)
  | cont (σ : Sg) (mu : Mu)
  | brk (σ : Sg) (mu : Mu)
  | ret (r : Vl)
noncomputable def OutOk (w : World) (c : Cx) (ex n₀ tl : Lg) : Out → Flow → Heap → Prop
  | .next σ mu, f, h => f = .next ∧ InSt w c ex n₀ tl σ mu h
  | .cont σ mu, f, h => f = .cont ∧ InSt w c ex n₀ tl σ mu h
  | .brk σ mu, f, h => f = .brk ∧ InSt w c ex n₀ tl σ mu h
  | .ret r, f, h => ∃ v m t fx, f = .ret v ∧ Fr c.h₀ c.L h m ∧ News c.h₀ c.L h (tabL t ++ (ex ++ (n₀ ++ (fx ++ tl)))) ∧ TabOk (n₀ ++ (fx ++ tl)) t ∧ Up (ex ++ n₀) (fx ++ tl) ∧ VIn w (n₀ ++ (fx ++ tl)) v r
noncomputable def ExecD (w : World) (c : Cx) (σ : Sg) (mu : Mu) (st : Stmt) (o : Out) : Prop :=
  ∀ ex n₀ tl s (Q : Flow → Shared → Prop) E, InSt w c ex n₀ tl σ mu s.heap → (∀ f h tk add, OutOk w c ex n₀ (tl ++ add) o f h → Q f { s with heap := h, toks := tk }) → wpAny (theM w) c.A (exec st c.env) Q E s
noncomputable def ExecsD (w : World) (c : Cx) (σ : Sg) (mu : Mu) (sts : List Stmt) (o : Out) : Prop :=
  ∀ ex n₀ tl s (Q : Flow → Shared → Prop) E, InSt w c ex n₀ tl σ mu s.heap → (∀ f h tk add, OutOk w c ex n₀ (tl ++ add) o f h → Q f { s with heap := h, toks := tk }) → wpAny (theM w) c.A (execs sts c.env) Q E s
section
variable {w : World} {c : Cx} {σ σ' : Sg} {mu mu' : Mu} {o : Out} {ex n₀ tl : Lg} {d : Vl}
theorem upd_self {x : Str} : upd σ x d x = some d := if_pos rfl
theorem InAt.rhoIn {h : Heap} {m : Str → Option Value} {fx : Lg} {t : Tb} (ok : CxOk w c) (I : InAt w c ex n₀ tl σ mu h m fx t) : RhoIn w c c.env (fx ++ ex) m (n₀ ++ tl) σ := fun x d e => by
  obtain ⟨h1, h2, v, hv, hs⟩ := I.rho x d e
  have up : ∀ p ∈ fx ++ c.cap, p ∈ fx ++ ex := fun p hp => (List.mem_append.mp hp).elim (memL p) fun h => memR p (I.cells.2 p h)
  refine ⟨v, fun pos s Q E F N q => ?_, hv, fun hcf => ?_⟩
  rotate_left
  · rcases hs with ⟨hk, _⟩ | ⟨a, o, _, hc, hm, hd⟩
    · rw [hk] at hcf; rcases hcf with h | h <;> cases h
    · exact ⟨a, o, hc, up _ hm, hd⟩
  rcases hs with ⟨hk, hm⟩ | ⟨a, o, hk, hc, hm, hd⟩
  · exact nameX_L F hm q ok.k hk h1
  · rcases hk with hk | hk
    · exact nameX_C N hc (up _ hm) hd q ok.k hk h1
    · exact nameX_F N hc (up _ hm) hd q ok.k hk h1 h2
theorem InAt.pre {h : Heap} {m : Str → Option Value} {fx : Lg} {t : Tb} (ok : CxOk w c) (I : InAt w c ex n₀ tl σ mu h m fx t) : Pre w c c.env (fx ++ ex) m (n₀ ++ tl) t σ h :=
  ⟨I.F, I.N, I.tab, I.hi, I.rhoIn ok⟩
/-- the state behind an expression -/
theorem InAt.after {h h' : Heap} {m : Str → Option Value} {fx add : Lg} {t t' : Tb} {σ₂ : Sg} (I : InAt w c ex n₀ tl σ mu h m fx t) (P : Pre w c c.env (fx ++ ex) m (n₀ ++ tl ++ add) t' σ₂ h') (U : Up ((fx ++ ex) ++ (n₀ ++ tl)) add) : InAt w c ex n₀ (tl ++ add) σ mu h' m fx t' := by
  have e : n₀ ++ tl ++ add = n₀ ++ (tl ++ add) := List.append_assoc ..
  refine ⟨P.F, e ▸ P.N, e ▸ P.tab, e ▸ P.hi, fun x d hx => ?_, fun q hq p hp => ?_, fun q hq p hp => ?_, I.dex, I.nd, I.cells, fun x ds hm => ?_⟩
  · obtain ⟨h1, h2, v, hv, hs⟩ := I.rho x d hx
    exact ⟨h1, h2, v, hv.mono (fun p hp => by rw [← e]; exact memL p hp), hs⟩
  · rcases List.mem_append.mp hp with hp | hp
    · exact I.dis q hq p hp
    · refine U.1 q ?_ p hp
      rcases List.mem_append.mp hq with hq | hq
      · exact memL q (memR q hq)
      · exact memR q (memL q hq)
  · rw [← e] at hq
    rcases List.mem_append.mp hq with hq | hq
    · exact I.dif q hq p hp
    · exact fun x => U.1 p (memL p (memL p hp)) q hq x.symm
  · obtain ⟨a, vs, n, h1, h2, h3, h4⟩ := I.mutl x ds hm
    exact ⟨a, vs, n, h1, h2, h3, h4.mono memL⟩
theorem xD_nil : ExecsD w c σ mu [] (.next σ mu) := fun ex n₀ tl s Q E I k => wpAny_execs_nil (k .next s.heap s.toks [] ⟨rfl, by rw [List.append_nil]; exact I⟩)
theorem xD_cons {st : Stmt} {rest : List Stmt} (h : ExecD w c σ mu st (.next σ' mu')) (hr : ExecsD w c σ' mu' rest o) : ExecsD w c σ mu (st :: rest) o := fun ex n₀ tl s Q E I k => by
  refine wpAny_execs_cons (h ex n₀ tl s _ _ I fun f h' tk' add hO => ?_)
  obtain ⟨rfl, I'⟩ := hO
  exact hr ex n₀ (tl ++ add) _ _ _ I' fun f h'' tk'' add' hO' => k f h'' tk'' (add ++ add') (by rw [← List.append_assoc]; exact hO')
theorem xD_ret {st : Stmt} {rest : List Stmt} {r : Vl} (h : ExecD w c σ mu st (.ret r)) : ExecsD w c σ mu (st :: rest) (.ret r) := fun ex n₀ tl s Q E I k => by
  refine wpAny_execs_cons (h ex n₀ tl s _ _ I fun f h' tk' add hO => ?_)
  have hO' := hO
  obtain ⟨v, m, t, fx, rfl, _⟩ := hO
  exact k _ h' tk' add hO'
theorem xD_brk {st : Stmt} {rest : List Stmt} (h : ExecD w c σ mu st (.brk σ' mu')) : ExecsD w c σ mu (st :: rest) (.brk σ' mu') := fun ex n₀ tl s Q E I k => by
  refine wpAny_execs_cons (h ex n₀ tl s _ _ I fun f h' tk' add hO => ?_)
  have hO' := hO
  obtain ⟨rfl, _⟩ := hO
  exact k _ h' tk' add hO'
theorem xD_cont {st : Stmt} {rest : List Stmt} (h : ExecD w c σ mu st (.cont σ' mu')) : ExecsD w c σ mu (st :: rest) (.cont σ' mu') := fun ex n₀ tl s Q E I k => by
  refine wpAny_execs_cons (h ex n₀ tl s _ _ I fun f h' tk' add hO => ?_)
  have hO' := hO
  obtain ⟨rfl, _⟩ := hO
  exact k _ h' tk' add hO'
theorem xD_if {t1 : Expr} {b e : List Stmt} {pos : Pos} {bb : Bool} (ok : CxOk w c) (h : TestD w c c.env σ t1 bb) (h1 : bb = true → ExecsD w c σ mu b o) (h2 : bb = false → ExecsD w c σ mu e o) : ExecD w c σ mu (.If t1 b e pos) o := fun ex n₀ tl s Q E I k => by
  obtain ⟨m, fx, t, I⟩ := I
  refine wpAny_If (h _ _ _ _ _ _ _ (I.pre ok) fun h' tk' add t' P U => ?_)
  have I' : InSt w c ex n₀ (tl ++ add) σ mu h' := ⟨m, fx, t', I.after P U⟩
  cases bb with
  | true => exact h1 rfl ex n₀ (tl ++ add) _ _ _ I' fun f h'' tk'' add' hO => k f h'' tk'' (add ++ add') (by rw [← List.append_assoc]; exact hO)
  | false => exact h2 rfl ex n₀ (tl ++ add) _ _ _ I' fun f h'' tk'' add' hO => k f h'' tk'' (add ++ add') (by rw [← List.append_assoc]; exact hO)
/-- a local is stored -/
theorem InAt.set {h h' : Heap} {m : Str → Option Value} {fx : Lg} {t : Tb} {x : Str} {v : Value} (I : InAt w c ex n₀ tl σ mu h m fx t) (hv : VIn w (n₀ ++ tl) v d) (hx : c.env.kindOf x = some .local) (hmu : ∀ y ds, mu = some (y, ds) → y ≠ x)
    (hd : (x == ("__debug__" : Str)) = false) (hd2 : (x == ("__classdict__" : Str)) = false)
    (F : Fr c.h₀ c.L h' (fun y => if y = x then some v else m y)) (N : News c.h₀ c.L h' (tabL t ++ ((fx ++ ex) ++ (n₀ ++ tl)))) : InAt w c ex n₀ tl (upd σ x d) mu h' (fun y => if y = x then some v else m y) fx t := by
  refine ⟨F, N, I.tab, I.hi, fun y e hy => ?_, I.dis, I.dif, I.dex, I.nd, I.cells, fun y ds hm => ?_⟩
  · unfold upd at hy
    by_cases hyx : y = x
    · subst hyx
      rw [if_pos rfl] at hy
      cases hy
      exact ⟨hd, hd2, v, hv, .inl ⟨hx, if_pos rfl⟩⟩
    · rw [if_neg hyx] at hy
      obtain ⟨h1, h2, v', hv', hs⟩ := I.rho y e hy
      refine ⟨h1, h2, v', hv', hs.imp (fun ⟨a, b⟩ => ⟨a, ?_⟩) id⟩
      show (if y = x then _ else _) = _
      rw [if_neg hyx]; exact b
  · obtain ⟨a, vs, n, h1, h2, h3, h4⟩ := I.mutl y ds hm
    exact ⟨a, vs, n, h1, by rw [if_neg (hmu y ds hm)]; exact h2, h3, h4⟩
theorem xD_assign {x : Str} {e : Expr} {xp pos : Pos} (ok : CxOk w c) (h : EvalD w c c.env σ e d) (hx : c.env.kindOf x = some .local := by rfl) (hmu : ∀ y ds, mu = some (y, ds) → y ≠ x := by intro _ _ h; cases h)
    (hd : (x == ("__debug__" : Str)) = false := by decide) (hd2 : (x == ("__classdict__" : Str)) = false := by decide) (hs : swapsWith e (some (.Name x xp)) pos.line c.env = pure false := by rfl) : ExecD w c σ mu (.Assign [.Name x xp] e pos) (.next (upd σ x d) mu) := fun ex n₀ tl s Q E I k => by
  obtain ⟨m, fx, t, I⟩ := I
  refine wpAny_Assign_Name (h _ _ _ _ _ _ _ (I.pre ok) fun v h' tk' add t' P U hv => ?_) hs
  have I' := I.after P U
  rw [List.append_assoc] at hv
  exact storeX_L I'.F I'.N (fun h'' F'' N'' => k .next h'' _ add ⟨rfl, _, _, _, I'.set hv hx hmu hd hd2 F'' N''⟩) ok.k hx
/-- a cell is stored -/
theorem xD_assignC {x : Str} {e : Expr} {xp pos : Pos} {a : Addr} (ok : CxOk w c) (h : EvalD w c c.env σ e d) (hx : c.env.kindOf x = some .cell := by rfl) (hc : c.cl.lookup x = some a := by rfl) (hinj : ∀ y, c.cl.lookup y = some a → y = x)
    (hd : (x == ("__debug__" : Str)) = false := by decide) (hd2 : (x == ("__classdict__" : Str)) = false := by decide) (hs : swapsWith e (some (.Name x xp)) pos.line c.env = pure false := by rfl) (hmu : mu = none := by rfl) : ExecD w c σ mu (.Assign [.Name x xp] e pos) (.next (upd σ x d) mu) := fun ex n₀ tl s Q E I k => by
  obtain ⟨m, fx, t, I⟩ := I
  refine wpAny_Assign_Name (h _ _ _ _ _ _ _ (I.pre ok) fun v h' tk' add t' P U hv => ?_) hs
  have I' := I.after P U
  rw [List.append_assoc] at hv
  obtain ⟨o, v₀, hm, hdt⟩ := I'.cells.1 x a hx hc
  obtain ⟨l1, l2, e12⟩ := List.append_of_mem hm
  have hne : ∀ p ∈ l1 ++ l2, p.1 ≠ a := by
    have := I'.nd
    rw [e12, List.map_append, List.map_cons] at this
    have n1 := List.nodup_append.mp this
    have n2 := List.nodup_cons.mp n1.2.1
    intro p hp
    rcases List.mem_append.mp hp with hp | hp
    · exact n1.2.2 _ (List.mem_map_of_mem hp) _ (.head _)
    · exact fun q => n2.1 (by have := List.mem_map_of_mem (f := (·.1)) hp; rw [q] at this; exact this)
  have hmem := I'.N (a, o) (memR _ (memL _ (memL _ hm)))
  have h226 : neq a 219 ∧ neq a 226 := I'.hi (a, o) (memL _ (memL _ hm))
  refine wpAny_storeName_cell ok.k hx hc ⟨o, hmem.1, hdt⟩ fun h'' hv' hs' => ?_
  obtain ⟨o', ho', hd'⟩ := hv'
  have F'' : Fr c.h₀ c.L h'' m := I'.F.change hs' hmem.2.1 hmem.2.2
  have N'' : News c.h₀ c.L h'' (tabL t' ++ (((l1 ++ (a, o') :: l2) ++ ex) ++ (n₀ ++ (tl ++ add)))) := by
    have N := I'.N
    rw [e12] at N
    have e1 : tabL t' ++ (((l1 ++ (a, o) :: l2) ++ ex) ++ (n₀ ++ (tl ++ add))) = (tabL t' ++ l1) ++ (a, o) :: (l2 ++ (ex ++ (n₀ ++ (tl ++ add)))) := by simp
    have e2 : tabL t' ++ (((l1 ++ (a, o') :: l2) ++ ex) ++ (n₀ ++ (tl ++ add))) = (tabL t' ++ l1) ++ (a, o') :: (l2 ++ (ex ++ (n₀ ++ (tl ++ add)))) := by simp
    rw [e1] at N
    rw [e2]
    refine News.setAt N (fun p hp => ?_) (fun p hp => ?_) hs' ho'
    · rcases List.mem_append.mp hp with hp | hp
      · rcases List.mem_cons.mp hp with rfl | hp
        · exact Ne.symm h226.1
        · rw [List.mem_singleton.mp hp]; exact Ne.symm h226.2
      · exact hne p (memL p hp)
    · rcases List.mem_append.mp hp with hp | hp
      · exact hne p (memR p hp)
      · rcases List.mem_append.mp hp with hp | hp
        · exact fun x => I'.dex (a, o) hm p hp x.symm
        · exact I'.dif p hp (a, o) hm
  have hm12 : ∀ p ∈ l1 ++ (a, o') :: l2, p = (a, o') ∨ p ∈ fx := fun p hp => by
    rw [e12]
    rcases List.mem_append.mp hp with hp | hp
    · exact .inr (memL p hp)
    · rcases List.mem_cons.mp hp with rfl | hp
      · exact .inl rfl
      · exact .inr (memR _ (.tail _ hp))
  have hm21 : ∀ p ∈ fx, p.1 ≠ a → p ∈ l1 ++ (a, o') :: l2 := fun p hp hn => by
    rw [e12] at hp
    rcases List.mem_append.mp hp with hp | hp
    · exact memL p hp
    · rcases List.mem_cons.mp hp with rfl | hp
      · exact absurd rfl hn
      · exact memR _ (.tail _ hp)
  subst hmu
  refine k .next h'' _ add ⟨rfl, m, l1 ++ (a, o') :: l2, t', F'', N'', I'.tab, fun p hp => ?_, fun y e hy => ?_, I'.dis, fun q hq p hp => ?_, fun q hq p hp => ?_, ?_, ?_, fun _ _ h => nomatch h⟩
  · rcases List.mem_append.mp hp with hp | hp
    · rcases List.mem_append.mp hp with hp | hp
      · rcases hm12 p hp with rfl | hp
        · exact h226
        · exact I'.hi p (memL p (memL p hp))
      · exact I'.hi p (memL p (memR p hp))
    · exact I'.hi p (memR p hp)
  · unfold upd at hy
    by_cases hyx : y = x
    · subst hyx
      rw [if_pos rfl] at hy
      cases hy
      exact ⟨hd, hd2, v, hv, .inr ⟨a, o', .inl hx, hc, memL _ (memR _ (.head _)), hd'⟩⟩
    · rw [if_neg hyx] at hy
      obtain ⟨h1, h2, v', hv', hs2⟩ := I'.rho y e hy
      refine ⟨h1, h2, v', hv', hs2.imp id fun ⟨b, ob, x1, x2, x3, x4⟩ => ⟨b, ob, x1, x2, (List.mem_append.mp x3).elim (fun h => memL _ (hm21 _ h fun q => hyx (hinj y (by rw [x2, show b = a from q])))) (memR _), x4⟩⟩
  · rcases hm12 p hp with rfl | hp
    · exact I'.dif q hq (a, o) hm
    · exact I'.dif q hq p hp
  · rcases hm12 q hq with rfl | hq
    · exact I'.dex (a, o) hm p hp
    · exact I'.dex q hq p hp
  · have := I'.nd
    rw [e12] at this
    rw [List.map_append, List.map_cons] at this ⊢
    exact this
  · refine ⟨fun y b hyk hb => ?_, I'.cells.2⟩
    by_cases hba : b = a
    · subst hba
      exact ⟨o', _, memR _ (.head _), hd'⟩
    · obtain ⟨ob, vb, x1, x2⟩ := I'.cells.1 y b hyk hb
      exact ⟨ob, vb, hm21 _ x1 hba, x2⟩
end
end Mine

namespace Mine
noncomputable def isAtom : Dat → Bool
  | .tuple _ => false
  | .list _ => false
  | _ => true
theorem atom_any {n n' : Lg} {v : Value} {d : Dat} (ha : isAtom d = true) (h : DatIn n v d) : DatIn n' v d := by
  cases h with
  | none => exact .none
  | bool b => exact .bool b
  | int i t => exact .int i t
  | str x t => exact .str x t
  | bytes b t => exact .bytes b t
  | tuple => cases ha
  | list => cases ha
theorem atoms_any {n n' : Lg} {vs : List Value} {ds : List Dat} (ha : ∀ d ∈ ds, isAtom d = true) (h : DatAll n vs ds) : DatAll n' vs ds := by
  induction ds generalizing vs with
  | nil => cases h; exact .nil
  | cons d r ih =>
    cases h with
    | cons h1 h2 => exact .cons (atom_any (ha d (.head _)) h1) (ih (fun e he => ha e (.tail _ he)) h2)
/-- as EvalD, and what bears the value is new (or an atom) -/
noncomputable def EvalF (w : World) (c : Cx) (env : Env) (σ : Sg) (e : Expr) (d : Vl) : Prop :=
  ∀ fx m news t s Q E, Pre w c env fx m news t σ s.heap → (∀ v h' tk' tl t', Pre w c env fx m (news ++ tl) t' σ h' → Up (fx ++ news) tl → VIn w tl v d → Q v { s with heap := h', toks := tk' }) → wpAny (theM w) c.A (eval e env) Q E s
section
variable {w : World} {c : Cx} {env : Env} {σ σ' : Sg} {mu mu' : Mu} {o : Out} {ex n₀ tl : Lg} {d : Vl}
theorem EvalF.toD {e : Expr} (h : EvalF w c env σ e d) : EvalD w c env σ e d := fun fx m news t s Q E P k =>
  h _ _ _ _ _ _ _ P fun v h' tk' tl t' P' U hv => k v h' tk' tl t' P' U (hv.mono memR)
theorem eF_atom {e : Expr} {a : Dat} (h : EvalD w c env σ e (.d a)) (ha : isAtom a = true) : EvalF w c env σ e (.d a) := fun fx m news t s Q E P k =>
  h _ _ _ _ _ _ _ P fun v h' tk' tl t' P' U hv => k v h' tk' tl t' P' U (atom_any ha hv)
theorem eF_tuple {es : List Expr} {kk : Nat} {pos : Pos} {ds : List Dat} (h : ArgsD w c env σ es (ds.map .d)) (hl : ds.length ≤ 1000000) (ha : ∀ d ∈ ds, isAtom d = true) : EvalF w c env σ (.Tuple es kk pos) (.d (.tuple ds)) := fun fx m news t s Q E P k =>
  Tuple_ (h pos _ _ _ _ _ _ _ P fun vs hA tkA tlA tA PA UA hvs => by
    have hlen := hvs.dat.length
    refine newTuple_N PA.F PA.N (fun h' F' N' => ?_) (by rw [sizeLine_eq]; lia)
    have U2 : Up (fx ++ (news ++ tlA)) [(hA.objs.size, ({ cls := .type "tuple", data := .seq vs.toArray } : Obj))] := PA.up (fun p hp => by rw [List.mem_singleton.mp hp]; exact Nat.le_refl _)
    have PB := PA.grow0 (tl := [(hA.objs.size, ({ cls := .type "tuple", data := .seq vs.toArray } : Obj))]) F' N' U2
    rw [List.append_assoc] at PB
    rw [← List.append_assoc] at U2
    exact k _ h' tkA _ tA PB (UA.cat (U2.sub memL)) (.tuple (memR _ (.head _)) (atoms_any ha hvs.dat)))
-- return
theorem OutOk.ofRet {h : Heap} {m : Str → Option Value} {fx : Lg} {t : Tb} {v : Value} {r : Vl} {σ₂ : Sg} {add : Lg} (I : InAt w c ex n₀ tl σ mu h m fx t) (hv : VIn w (n₀ ++ (fx ++ tl)) v r) : OutOk w c ex n₀ tl (.ret r) (.ret v) h :=
  ⟨v, m, t, fx, rfl, I.F, fun p hp => I.N p (by exact Mine.viaSub hp (by walk_at "mSUB")), I.tab.mono (fun p hp => by exact Mine.viaSub hp (by walk_at "mSUB")),
    ⟨fun q hq p hp => by
      rcases List.mem_append.mp hp with hp | hp
      · rcases List.mem_append.mp hq with hq | hq
        · exact fun x => I.dex p hp q hq x.symm
        · exact I.dif q (memL q hq) p hp
      · exact I.dis q hq p hp, fun p hp => I.hi p (by exact Mine.viaSub hp (by walk_at "mSUB"))⟩, hv⟩
theorem xD_return {e : Expr} {pos : Pos} {r : Vl} (ok : CxOk w c) (h : EvalD w c c.env σ e r) : ExecD w c σ mu (.Return (some e) pos) (.ret r) := fun ex n₀ tl s Q E I k => by
  obtain ⟨m, fx, t, I⟩ := I
  refine wpAny_Return_some (h _ _ _ _ _ _ _ (I.pre ok) fun v h' tk' add t' P U hv => ?_)
  have I' := I.after P U
  exact k _ h' tk' add (OutOk.ofRet (σ₂ := σ) (add := add) I' (hv.mono fun p hp => by exact Mine.viaSub hp (by walk_at "mSUB")))
/-- the list that a name holds is handed back -/
theorem xD_returnM {x : Str} {np pos : Pos} {ds : List Dat} (ok : CxOk w c) (hmu : mu = some (x, ds)) (hd : (x == ("__debug__" : Str)) = false := by decide) : ExecD w c σ mu (.Return (some (.Name x np)) pos) (.ret (.d (.list ds))) := fun ex n₀ tl s Q E I k => by
  obtain ⟨m, fx, t, I⟩ := I
  obtain ⟨a, vs, n, h1, h2, h3, h4⟩ := I.mutl x ds hmu
  refine wpAny_Return_some (nameX_L I.F h2 ?_ ok.k h3 hd)
  have hO := OutOk.ofRet (σ₂ := σ) (add := []) (r := .d (.list ds)) (v := .ref a) I (.list (memR _ (memL _ h1)) (h4.mono fun p hp => memR p (memR p hp)))
  refine k _ s.heap s.toks [] ?_
  rw [List.append_nil]; exact hO
/-- the mutable list, seen as a datum -/
theorem InAt.preM {h : Heap} {m : Str → Option Value} {fx : Lg} {t : Tb} {x : Str} {ds : List Dat} (ok : CxOk w c) (I : InAt w c ex n₀ tl σ mu h m fx t) (hmu : mu = some (x, ds)) (hd : (x == ("__debug__" : Str)) = false) :
    ∃ q, q ∈ fx ∧ (∀ vs, q.2.data ≠ .fields vs) ∧ Pre w c c.env (fx ++ ex) m (n₀ ++ tl ++ [q]) t (upd σ x (.d (.list ds))) h := by
  obtain ⟨a, vs, n, h1, h2, h3, h4⟩ := I.mutl x ds hmu
  refine ⟨(a, listOf vs.toArray n), h1, fun us e => (nomatch e), ⟨I.F, fun p hp => I.N p ?_, I.tab.mono memL, fun p hp => I.hi p ?_, fun y e hy => ?_⟩⟩
  · rcases List.mem_append.mp hp with hp | hp
    · exact memL p hp
    · rcases List.mem_append.mp hp with hp | hp
      · exact memR p (memL p hp)
      · rcases List.mem_append.mp hp with hp | hp
        · exact memR p (memR p hp)
        · rw [List.mem_singleton.mp hp]; exact memR _ (memL _ (memL _ h1))
  · rcases List.mem_append.mp hp with hp | hp
    · exact memL p hp
    · rcases List.mem_append.mp hp with hp | hp
      · exact memR p hp
      · rw [List.mem_singleton.mp hp]; exact memL _ (memL _ h1)
  · unfold upd at hy
    by_cases hyx : y = x
    · subst hyx
      rw [if_pos rfl] at hy
      cases hy
      exact ⟨.ref a, fun pos s Q E F N q => nameX_L F h2 q ok.k h3 hd, .list (memR _ (.head _)) (h4.mono fun p hp => memL p (memR p hp)), fun hcf => by rw [h3] at hcf; rcases hcf with h | h <;> cases h⟩
    · rw [if_neg hyx] at hy
      obtain ⟨v, hs, hv, hz⟩ := I.rhoIn ok y e hy
      exact ⟨v, hs, hv.mono memL, hz⟩
theorem InAt.afterM {h h' : Heap} {m : Str → Option Value} {fx add : Lg} {t t' : Tb} {σ₂ : Sg} {q : Addr × Obj} (I : InAt w c ex n₀ tl σ mu h m fx t) (hq : q ∈ fx) (hqd : ∀ vs, q.2.data ≠ .fields vs)
    (P : Pre w c c.env (fx ++ ex) m (n₀ ++ tl ++ [q] ++ add) t' σ₂ h') (U : Up ((fx ++ ex) ++ (n₀ ++ tl ++ [q])) add) : InAt w c ex n₀ (tl ++ add) σ mu h' m fx t' := by
  have sub : ∀ p, p ∈ n₀ ++ (tl ++ add) → p ∈ n₀ ++ tl ++ [q] ++ add := fun p hp => by
    simp only [List.mem_append] at hp ⊢
    rcases hp with hp | hp | hp <;> simp [hp]
  have code : ∀ {c' : Addr} {qs : Str}, CodeAtL (n₀ ++ tl ++ [q] ++ add) c' qs → CodeAtL (n₀ ++ (tl ++ add)) c' qs := by
    rintro c' qs ⟨oc, vs, tt, hm, hd, hv⟩
    refine ⟨oc, vs, tt, ?_, hd, hv⟩
    simp only [List.mem_append, List.mem_singleton] at hm ⊢
    rcases hm with ((h | h) | h) | h
    · exact .inl h
    · exact .inr (.inl h)
    · exact absurd (by rw [← h]; exact hd) (hqd vs)
    · exact .inr (.inr h)
  refine ⟨P.F, fun p hp => ?_, ⟨P.tab.1.imp id fun ⟨a, b, e, x, y⟩ => ⟨a, b, e, code x, code y⟩, P.tab.2.imp id fun ⟨a, b, e, x, y⟩ => ⟨a, b, e, code x, code y⟩⟩, fun p hp => ?_, fun x d hx => ?_, fun z hz p hp => ?_, fun z hz p hp => ?_, I.dex, I.nd, I.cells, fun x ds hm => ?_⟩
  · rcases List.mem_append.mp hp with hp | hp
    · exact P.N p (memL p hp)
    · rcases List.mem_append.mp hp with hp | hp
      · exact P.N p (memR p (memL p hp))
      · exact P.N p (memR p (memR p (sub p hp)))
  · rcases List.mem_append.mp hp with hp | hp
    · exact P.hi p (memL p hp)
    · exact P.hi p (memR p (sub p hp))
  · obtain ⟨h1, h2, v, hv, hs⟩ := I.rho x d hx
    exact ⟨h1, h2, v, hv.mono (fun p hp => by rw [← List.append_assoc]; exact memL p hp), hs⟩
  · rcases List.mem_append.mp hp with hp | hp
    · exact I.dis z hz p hp
    · refine U.1 z ?_ p hp
      rcases List.mem_append.mp hz with hz | hz
      · exact memL z (memR z hz)
      · exact memR z (memL z (memL z hz))
  · rw [← List.append_assoc] at hz
    rcases List.mem_append.mp hz with hz | hz
    · exact I.dif z hz p hp
    · exact fun x => U.1 p (memL p (memL p hp)) z hz x.symm
  · obtain ⟨a, vs, n, h1, h2, h3, h4⟩ := I.mutl x ds hm
    exact ⟨a, vs, n, h1, h2, h3, h4.mono memL⟩
theorem xD_ifM {t1 : Expr} {b e : List Stmt} {pos : Pos} {bb : Bool} {x : Str} {ds : List Dat} (ok : CxOk w c) (hmu : mu = some (x, ds)) (h : TestD w c c.env (upd σ x (.d (.list ds))) t1 bb) (h1 : bb = true → ExecsD w c σ mu b o) (h2 : bb = false → ExecsD w c σ mu e o) (hd : (x == ("__debug__" : Str)) = false := by decide) : ExecD w c σ mu (.If t1 b e pos) o := fun ex n₀ tl s Q E I k => by
  obtain ⟨m, fx, t, I⟩ := I
  obtain ⟨q, a3, a4, PM⟩ := I.preM ok hmu hd
  refine wpAny_If (h _ _ _ _ _ _ _ PM fun h' tk' add t' P U => ?_)
  have I' : InSt w c ex n₀ (tl ++ add) σ mu h' := ⟨m, fx, t', I.afterM a3 a4 P U⟩
  cases bb with
  | true => exact h1 rfl ex n₀ (tl ++ add) _ _ _ I' fun f h'' tk'' add' hO => k f h'' tk'' (add ++ add') (by rw [← List.append_assoc]; exact hO)
  | false => exact h2 rfl ex n₀ (tl ++ add) _ _ _ I' fun f h'' tk'' add' hO => k f h'' tk'' (add ++ add') (by rw [← List.append_assoc]; exact hO)
/-- a name is made the mutable list -/
theorem xD_newlist {x : Str} {es : List Expr} {lp xp pos : Pos} {ds : List Dat} (ok : CxOk w c) (h : ArgsD w c c.env σ es (ds.map .d)) (hl : ds.length ≤ 1000000) (ha : ∀ d ∈ ds, isAtom d = true) (hmu : mu = none := by rfl) (hx : c.env.kindOf x = some .local := by rfl)
    (hσ : σ x = none := by rfl) (hd : (x == ("__debug__" : Str)) = false := by decide) (hs : swapsWith (.List es lp) (some (.Name x xp)) pos.line c.env = pure false := by rfl) : ExecD w c σ mu (.Assign [.Name x xp] (.List es lp) pos) (.next σ (some (x, ds))) := fun ex n₀ tl s Q E I k => by
  obtain ⟨m, fx, t, I⟩ := I
  refine wpAny_Assign_Name (List_ (h lp _ _ _ _ _ _ _ (I.pre ok) fun vs hA tkA tlA tA PA UA hvs => ?_)) hs
  have hlen := hvs.dat.length
  refine newList_N PA.F PA.N (fun h' F' N' => ?_) (by rw [sizeLine_eq]; lia)
  have I' := I.after PA UA
  have hup : ∀ p ∈ tabL tA ++ ((fx ++ ex) ++ (n₀ ++ tl ++ tlA)), p.1 < hA.objs.size := PA.lt
  refine storeX_L F' N' (fun h'' F'' N'' => k .next h'' _ tlA ⟨rfl, _, (hA.objs.size, listOf vs.toArray 0) :: fx, tA, F'', fun p hp => N'' p ?_, I'.tab, fun p hp => ?_, fun y e hy => ?_, I'.dis, fun q hq p hp => ?_, fun q hq p hp => ?_, ?_, ?_, fun y e he => ?_⟩) ok.k hx
  · rcases List.mem_append.mp hp with hp | hp
    · exact .tail _ (memL p hp)
    · rcases List.mem_append.mp hp with hp | hp
      · rcases List.mem_cons.mp hp with rfl | hp
        · exact .head _
        · exact .tail _ (memR p (memL p hp))
      · exact .tail _ (memR p (memR p (by rw [List.append_assoc]; exact hp)))
  · rcases List.mem_cons.mp hp with rfl | hp
    · exact ⟨Nat.ne_of_gt (hup (219, tabObj tA.1) (memL _ (.head _))), Nat.ne_of_gt (hup (226, tabObj tA.2) (memL _ (.tail _ (.head _))))⟩
    · exact I'.hi p hp
  · obtain ⟨h1, h2, v, hv, hs⟩ := I'.rho y e hy
    have hyx : y ≠ x := fun q => by rw [q, hσ] at hy; cases hy
    refine ⟨h1, h2, v, hv, hs.imp (fun ⟨a, b⟩ => ⟨a, ?_⟩) fun ⟨a, o, z1, z2, z3, z4⟩ => ⟨a, o, z1, z2, .tail _ z3, z4⟩⟩
    show (if y = x then _ else _) = _
    rw [if_neg hyx]; exact b
  · rcases List.mem_cons.mp hp with rfl | hp
    · exact Nat.ne_of_lt (hup q (memR q (memR q (by rw [List.append_assoc]; exact hq))))
    · exact I'.dif q hq p hp
  · rcases List.mem_cons.mp hq with rfl | hq
    · exact Nat.ne_of_gt (hup p (memR p (memL p (memR p hp))))
    · exact I'.dex q hq p hp
  · rw [List.map_cons]
    refine List.nodup_cons.mpr ⟨fun hm => ?_, I'.nd⟩
    obtain ⟨p, hp, e⟩ := List.mem_map.mp hm
    exact Nat.ne_of_lt (hup p (memR p (memL p (memL p hp)))) e
  · refine ⟨fun y b hyk hb => ?_, I'.cells.2⟩
    obtain ⟨ob, vb, x1, x2⟩ := I'.cells.1 y b hyk hb
    exact ⟨ob, vb, .tail _ x1, x2⟩
  · cases he
    exact ⟨_, vs, 0, .head _, if_pos rfl, hx, atoms_any ha hvs.dat⟩
end
end Mine

namespace Mine
/-- what InAt says beside the heap -/
structure InX (w : World) (c : Cx) (ex n₀ tl : Lg) (σ : Sg) (mu : Mu) (m : Str → Option Value) (fx : Lg) (t : Tb) : Prop where
  tab : TabOk (n₀ ++ tl) t
  hi : Hi ((fx ++ ex) ++ (n₀ ++ tl))
  rho : RhoL w c m (fx ++ c.cap) (n₀ ++ tl) σ
  dis : ∀ q ∈ ex ++ n₀, ∀ p ∈ tl, neq q.1 p.1
  dif : ∀ q ∈ n₀ ++ tl, ∀ p ∈ fx, neq q.1 p.1
  dex : ∀ q ∈ fx, ∀ p ∈ ex, neq q.1 p.1
  nd : (fx.map (·.1)).Nodup
  cells : (∀ x a, c.env.kindOf x = some .cell → c.cl.lookup x = some a → ∃ o v, (a, o) ∈ fx ∧ o.data = .cell v) ∧ ∀ p ∈ c.cap, p ∈ ex
  mutl : ∀ x ds, mu = some (x, ds) → ∃ a vs n, (a, listOf vs.toArray n) ∈ fx ∧ m x = some (.ref a) ∧ c.env.kindOf x = some .local ∧ DatAll tl vs ds
section
variable {w : World} {c : Cx} {env : Env} {σ σ' : Sg} {mu mu' : Mu} {o : Out} {ex n₀ tl : Lg} {d : Vl}
theorem InAt.x {h : Heap} {m : Str → Option Value} {fx : Lg} {t : Tb} (I : InAt w c ex n₀ tl σ mu h m fx t) : InX w c ex n₀ tl σ mu m fx t := ⟨I.tab, I.hi, I.rho, I.dis, I.dif, I.dex, I.nd, I.cells, I.mutl⟩
theorem InX.at' {h : Heap} {m : Str → Option Value} {fx : Lg} {t : Tb} (I : InX w c ex n₀ tl σ mu m fx t) (F : Fr c.h₀ c.L h m) (N : News c.h₀ c.L h (tabL t ++ ((fx ++ ex) ++ (n₀ ++ tl)))) : InAt w c ex n₀ tl σ mu h m fx t := ⟨F, N, I.tab, I.hi, I.rho, I.dis, I.dif, I.dex, I.nd, I.cells, I.mutl⟩
noncomputable def MuNe (mu : Mu) (x : Str) : Prop := ∀ y es, mu = some (y, es) → y ≠ x
/-- a loop over written data -/
inductive LoopD (w : World) (c : Cx) (x : Str) (body : List Stmt) : List Vl → Sg → Mu → Out → Prop
  | nil {σ : Sg} {mu : Mu} : LoopD w c x body [] σ mu (.next σ mu)
  | next {d : Vl} {ds : List Vl} {σ σ' : Sg} {mu mu' : Mu} {o : Out} : MuNe mu x → ExecsD w c (upd σ x d) mu body (.next σ' mu') → LoopD w c x body ds σ' mu' o → LoopD w c x body (d :: ds) σ mu o
  | cont {d : Vl} {ds : List Vl} {σ σ' : Sg} {mu mu' : Mu} {o : Out} : MuNe mu x → ExecsD w c (upd σ x d) mu body (.cont σ' mu') → LoopD w c x body ds σ' mu' o → LoopD w c x body (d :: ds) σ mu o
  | brk {d : Vl} {ds : List Vl} {σ σ' : Sg} {mu mu' : Mu} : MuNe mu x → ExecsD w c (upd σ x d) mu body (.brk σ' mu') → LoopD w c x body (d :: ds) σ mu (.next σ' mu')
  | ret {d : Vl} {ds : List Vl} {σ : Sg} {mu : Mu} {r : Vl} : MuNe mu x → ExecsD w c (upd σ x d) mu body (.ret r) → LoopD w c x body (d :: ds) σ mu (.ret r)
/-- between two turns -/
noncomputable def LJd (w : World) (c : Cx) (x : Str) (body : List Stmt) (ds : List Vl) (o : Out) (ex n₀ tl : Lg) (i : Nat) (m : Str → Option Value) (nx : Lg) : Prop :=
  ∃ σ mu z fx t, nx = tabL t ++ ((fx ++ ex) ++ (n₀ ++ (tl ++ z))) ∧ InX w c ex n₀ (tl ++ z) σ mu m fx t ∧ LoopD w c x body (ds.drop i) σ mu o
theorem off_of {own l : Lg} (h : OwnOff own (l.map (·.1))) : ∀ p ∈ own, ∀ q ∈ l, neq q.1 p.1 := fun p hp q hq x => h p hp q.1 (List.mem_map_of_mem hq) x.symm
theorem turn_core {x : Str} {body : List Stmt} {ds : List Vl} {i : Nat} {m₁ : Str → Option Value} {nx own : Lg} {h : Heap} {tk : Nat} {s : Shared} {Q : Flow → Shared → Prop} {E : Value → Shared → Prop} {v : Value} {d : Vl}
    (hx : c.env.kindOf x = some .local) (hd1 : (x == ("__debug__" : Str)) = false) (hd2 : (x == ("__classdict__" : Str)) = false) 
    (hdi : ds[i]? = some d) (hv : VIn w (n₀ ++ tl) v d) (hoff : OwnOff own (nx.map (·.1))) (J : LJd w c x body ds o ex n₀ tl i m₁ nx) (F : Fr c.h₀ c.L h (fun y => if y = x then some v else m₁ y)) (N : News c.h₀ c.L h (nx ++ own))
    (k : ∀ f h tk add, OutOk w c ex n₀ (tl ++ add) o f h → Q f { s with heap := h, toks := tk }) :
    wpAny (theM w) c.A (execs body c.env) (InvPostG c.h₀ c.L (LJd w c x body ds o ex n₀ tl (i + 1)) own { s with heap := h, toks := tk } Q) E { s with heap := h, toks := tk } := by
  obtain ⟨σ, mu, z, fx, t, rfl, X, L⟩ := J
  have hi := (List.getElem?_eq_some_iff.mp hdi).1
  have hdr : ds.drop i = d :: ds.drop (i + 1) := by
    rw [List.drop_eq_getElem_cons hi, (List.getElem?_eq_some_iff.mp hdi).2]
  rw [hdr] at L
  have hmu' : MuNe mu x := by cases L <;> assumption
  have ho := off_of hoff
  have I : InAt w c (ex ++ own) n₀ (tl ++ z) (upd σ x d) mu h (fun y => if y = x then some v else m₁ y) fx t := by
    have N' : News c.h₀ c.L h (tabL t ++ ((fx ++ (ex ++ own)) ++ (n₀ ++ (tl ++ z)))) := fun p hp => N p (by
      exact Mine.viaSub hp (by walk_at "mSUB"))
    have X' : InX w c (ex ++ own) n₀ (tl ++ z) σ mu m₁ fx t := ⟨X.tab, fun p hp => by
        simp only [List.mem_append] at hp
        have : p ∈ (fx ++ ex) ++ (n₀ ++ (tl ++ z)) ∨ p ∈ own := by
          simp only [List.mem_append]
          rcases hp with (h | h | h) | h | h | h <;> simp [h]
        rcases this with hp | hp
        · exact X.hi p hp
        · exact ⟨Ne.symm (ho p hp (219, tabObj t.1) (memL _ (.head _))), Ne.symm (ho p hp (226, tabObj t.2) (memL _ (.tail _ (.head _))))⟩, X.rho, fun q hq p hp => by
        have : q ∈ ex ++ n₀ ∨ q ∈ own := List.mem_append.mp (by
          exact Mine.viaSub hq (by walk_at "mSUB"))
        rcases this with hq | hq
        · exact X.dis q hq p hp
        · exact fun x => ho q hq p (memR p (memR p (memR p hp))) x.symm, X.dif, fun q hq p hp => by
        rcases List.mem_append.mp hp with hp | hp
        · exact X.dex q hq p hp
        · exact ho p hp q (memR q (memL q (memL q hq))), X.nd, ⟨X.cells.1, fun p hp => memL p (X.cells.2 p hp)⟩, X.mutl⟩
    have hv' : VIn w (n₀ ++ (tl ++ z)) v d := hv.mono fun p hp => by rw [← List.append_assoc]; exact memL p hp
    refine ⟨F, N', X'.tab, X'.hi, fun y e hy => ?_, X'.dis, X'.dif, X'.dex, X'.nd, X'.cells, fun y ds hm => ?_⟩
    · unfold upd at hy
      by_cases hyx : y = x
      · subst hyx
        rw [if_pos rfl] at hy
        cases hy
        exact ⟨hd1, hd2, v, hv', .inl ⟨hx, if_pos rfl⟩⟩
      · rw [if_neg hyx] at hy
        obtain ⟨h1, h2, v', hv', hs⟩ := X'.rho y e hy
        refine ⟨h1, h2, v', hv', hs.imp (fun ⟨a, b⟩ => ⟨a, ?_⟩) id⟩
        show (if y = x then _ else _) = _
        rw [if_neg hyx]; exact b
    · obtain ⟨a, vs, n, h1, h2, h3, h4⟩ := X'.mutl y ds hm
      exact ⟨a, vs, n, h1, by rw [if_neg (hmu' y ds hm)]; exact h2, h3, h4⟩
  have back : ∀ {h' : Heap} {tk' : Nat} {add : Lg} {σ' : Sg} {mu' : Mu}, InSt w c (ex ++ own) n₀ (tl ++ z ++ add) σ' mu' h' → LoopD w c x body (ds.drop (i + 1)) σ' mu' o →
      InvEndG c.h₀ c.L (LJd w c x body ds o ex n₀ tl (i + 1)) own { s with heap := h, toks := tk } { s with heap := h', toks := tk' } := by
    rintro h' tk' add σ' mu' ⟨m', fx', t', I'⟩ L'
    have sub : ∀ p ∈ tabL t' ++ ((fx' ++ ex) ++ (n₀ ++ (tl ++ (z ++ add)))), p ∈ tabL t' ++ ((fx' ++ (ex ++ own)) ++ (n₀ ++ (tl ++ z ++ add))) := fun p hp => by
      exact Mine.viaSub hp (by walk_at "mSUB")
    refine ⟨h', tk', m', _, tabL t' ++ ((fx' ++ ex) ++ (n₀ ++ (tl ++ (z ++ add)))), rfl, I'.F, I'.N, sub, fun p hp => memR p (memL p (memR p (memR p hp))), fun p hp b hb => ?_, ⟨σ', mu', z ++ add, fx', t', rfl, ?_, L'⟩⟩
    · obtain ⟨q, hq, rfl⟩ := List.mem_map.mp hb
      rcases List.mem_append.mp hq with hq | hq
      · have e := I'.hi p (memL p (memR p (memR p hp)))
        rcases List.mem_cons.mp hq with rfl | hq
        · exact e.1
        · rw [List.mem_singleton.mp hq]; exact e.2
      · rcases List.mem_append.mp hq with hq | hq
        · rcases List.mem_append.mp hq with hq | hq
          · exact fun x => I'.dex q hq p (memR p hp) x.symm
          · exact fun x => ho p hp q (memR q (memL q (memR q hq))) x.symm
        · have hq' : q ∈ n₀ ∨ q ∈ tl ++ z ++ add := List.mem_append.mp (by
            exact Mine.viaSub hq (by walk_at "mSUB"))
          rcases hq' with hq | hq
          · exact fun x => ho p hp q (memR q (memR q (memL q hq))) x.symm
          · exact fun x => I'.dis p (memL p (memR p hp)) q hq x
    · have e : tl ++ z ++ add = tl ++ (z ++ add) := List.append_assoc ..
      rw [e] at I'
      exact ⟨I'.tab, fun p hp => I'.hi p (by exact Mine.viaSub hp (by walk_at "mSUB")), I'.rho, fun q hq p hp => I'.dis q (by exact Mine.viaSub hq (by walk_at "mSUB")) p hp, I'.dif, fun q hq p hp => I'.dex q hq p (memL p hp), I'.nd, ⟨I'.cells.1, X.cells.2⟩, I'.mutl⟩
  cases L with
  | next _ hb hr =>
    refine hb _ _ _ _ _ _ ⟨_, _, _, I⟩ fun f h' tk' add hO => ?_
    obtain ⟨rfl, I'⟩ := hO
    exact back I' hr
  | cont _ hb hr =>
    refine hb _ _ _ _ _ _ ⟨_, _, _, I⟩ fun f h' tk' add hO => ?_
    obtain ⟨rfl, I'⟩ := hO
    exact back I' hr
  | brk _ hb =>
    refine hb _ _ _ _ _ _ ⟨_, _, _, I⟩ fun f h' tk' add hO => ?_
    obtain ⟨rfl, I'⟩ := hO
    obtain ⟨m', fx', t', I'⟩ := I'
    refine k .next h' tk' (z ++ add) ⟨rfl, m', fx', t', ?_⟩
    have e : tl ++ z ++ add = tl ++ (z ++ add) := List.append_assoc ..
    rw [e] at I'
    exact ⟨I'.F, fun p hp => I'.N p (by exact Mine.viaSub hp (by walk_at "mSUB")), I'.tab, fun p hp => I'.hi p (by exact Mine.viaSub hp (by walk_at "mSUB")), I'.rho, fun q hq p hp => I'.dis q (by exact Mine.viaSub hq (by walk_at "mSUB")) p hp, I'.dif, fun q hq p hp => I'.dex q hq p (memL p hp), I'.nd, ⟨I'.cells.1, X.cells.2⟩, I'.mutl⟩
  | ret _ hb =>
    refine hb _ _ _ _ _ _ ⟨_, _, _, I⟩ fun f h' tk' add hO => ?_
    obtain ⟨v', m', t', fx', rfl, F', N', T', U', V'⟩ := hO
    have e : tl ++ z ++ add = tl ++ (z ++ add) := List.append_assoc ..
    rw [e] at N' T' U' V'
    exact k _ h' tk' (z ++ add) ⟨v', m', t', fx', rfl, F', fun p hp => N' p (by exact Mine.viaSub hp (by walk_at "mSUB")), T', U'.sub (fun p hp => by exact Mine.viaSub hp (by walk_at "mSUB")), V'⟩
theorem xD_for {x : Str} {iter : Expr} {body : List Stmt} {xp pos : Pos} {ds : List Dat} (ok : CxOk w c) (h : EvalD w c c.env σ iter (.d (.list ds))) (hL : LoopD w c x body (ds.map .d) σ mu o)
    (hx : c.env.kindOf x = some .local := by rfl) (hd1 : (x == ("__debug__" : Str)) = false := by decide) (hd2 : (x == ("__classdict__" : Str)) = false := by decide) (hs : ∀ x, foldedSetIterable iter c.env x = pure x := by intro _; rfl) : ExecD w c σ mu (.For (.Name x xp) iter body [] pos) o := fun ex n₀ tl s Q E I k => by
  obtain ⟨m, fx, t, I⟩ := I
  refine wpAny_noRaise ?_
  refine For_invVF I.F hx (by show (c.cs.kind == .class || (c.cs.kind == .module && c.L != mainGlobals)) = false; rw [ok.k]; rfl) (h _ _ _ _ _ _ _ (I.pre ok) fun v h' tk' add t' P U hv => ?_) hs PassesOwn.never
  have I' := I.after P U
  rw [List.append_assoc] at hv
  refine Mine.inL (show DatIn _ _ _ from hv) fun _ _ _ hml hvl => ?_
  rename_i aL vsL nL
  have hlen := hvl.length
  refine kdl_iter (LJd w c x body (ds.map .d) o ex n₀ (tl ++ add)) rfl (memR _ (memR _ hml)) I'.F I'.N ⟨σ, mu, [], fx, t', by rw [List.append_nil], by rw [List.append_nil]; exact I'.x, by rw [List.drop_zero]; exact hL⟩ ?_ ?_
  · intro i v m₁ nx h tk own hvi hoff hmem J F₁ N₁
    have hi : i < ds.length := by rw [← hlen]; exact (List.getElem?_eq_some_iff.mp hvi).1
    obtain ⟨v', hv', hD⟩ := hvl.get hi
    have ev : v' = v := by rw [hvi] at hv'; exact (Option.some.inj hv').symm
    rw [ev] at hD
    refine wpAny_mono (turn_core hx hd1 hd2 (d := .d ds[i]) (by rw [List.getElem?_map, List.getElem?_eq_getElem hi]; rfl) hD hoff J F₁ N₁ fun f h tk add' hO => k f h tk (add ++ add') (by rw [← List.append_assoc]; exact hO)) (fun f s₂ p => ?_) fun _ _ x => x
    have upr : InvEndG c.h₀ c.L (LJd w c x body (ds.map .d) o ex n₀ (tl ++ add) (i + 1)) own { s with heap := h, toks := tk } s₂ →
        InvEndG c.h₀ c.L (fun m' nx => (aL, listOf vsL.toArray nL) ∈ nx ∧ LJd w c x body (ds.map .d) o ex n₀ (tl ++ add) (i + 1) m' nx) own { s with heap := h, toks := tk } s₂ := by
      rintro ⟨h', tk', m', news', nx', e', F', N', hn', ho', ha, hS⟩
      refine ⟨h', tk', m', news', nx', e', F', N', hn', ho', ha, ?_, hS⟩
      obtain ⟨σ', mu', z, fx', t', rfl, _⟩ := hS
      rcases List.mem_append.mp hml with hml | hml
      · exact memR _ (memR _ (memL _ hml))
      · exact memR _ (memR _ (memR _ (memL _ hml)))
    cases f with
    | ret v => exact p
    | brk => exact p
    | next => exact upr p
    | cont => exact upr p
  · rintro m₁ nx h tk ⟨σ', mu', z, fx', t', rfl, X, L⟩ F₁ N₁
    rw [hlen, List.drop_eq_nil_of_le (by rw [List.length_map]; exact Nat.le_refl _)] at L
    cases L
    exact k .next h tk (add ++ z) ⟨rfl, m₁, fx', t', by rw [← List.append_assoc]; exact X.at' F₁ N₁⟩
end
end Mine

namespace Mine
section
variable {w : World} {c : Cx} {env : Env} {σ σ' : Sg} {mu mu' : Mu} {o : Out} {ex n₀ tl : Lg} {d : Vl}
noncomputable abbrev rngO (a b : Int) (t u k : Tok) : Obj := { cls := .type "range", data := .fields #[.int a t, .int b u, .int 1 k] }
theorem cD_range1 {n : Int} : CallD w c env σ (.type "range") [.d (.int n)] (.rng 0 n) := fun fx m news t s Q E vs P D k => by
  (first | refine Mine.all1 D fun _ u0z => ?_ | refine Mine.dall1 D fun _ u0z => ?_)
  (first | refine Mine.inI (show DatIn _ _ _ from u0z) fun _ => ?_ | refine Mine.inS (show DatIn _ _ _ from u0z) fun _ => ?_ | refine Mine.inB (show DatIn _ _ _ from u0z) ?_ | refine Mine.inN (show DatIn _ _ _ from u0z) ?_)
  rename_i tk
  refine call_range_1 ?_
  have U : Up (fx ++ news) [(s.heap.objs.size, rngO 0 n s.toks tk (s.toks + 1))] := P.up fun p hp => by rw [List.mem_singleton.mp hp]; exact Nat.le_refl _
  exact k _ _ _ _ t (P.grow0 (tl := [(s.heap.objs.size, rngO 0 n s.toks tk (s.toks + 1))]) (P.F.push _) (P.N.push P.F _) U) U ⟨_, _, _, _, rfl, memR _ (.head _)⟩
theorem cD_range2 {a b : Int} : CallD w c env σ (.type "range") [.d (.int a), .d (.int b)] (.rng a b) := fun fx m news t s Q E vs P D k => by
  (first | refine Mine.all2 D fun _ _ u0z u1z => ?_ | refine Mine.dall2 D fun _ _ u0z u1z => ?_)
  (first | refine Mine.inI (show DatIn _ _ _ from u0z) fun _ => ?_ | refine Mine.inS (show DatIn _ _ _ from u0z) fun _ => ?_ | refine Mine.inB (show DatIn _ _ _ from u0z) ?_ | refine Mine.inN (show DatIn _ _ _ from u0z) ?_)
  (first | refine Mine.inI (show DatIn _ _ _ from u1z) fun _ => ?_ | refine Mine.inS (show DatIn _ _ _ from u1z) fun _ => ?_ | refine Mine.inB (show DatIn _ _ _ from u1z) ?_ | refine Mine.inN (show DatIn _ _ _ from u1z) ?_)
  rename_i tk tk2
  refine call_range_2 ?_
  have U : Up (fx ++ news) [(s.heap.objs.size, rngO a b tk tk2 s.toks)] := P.up fun p hp => by rw [List.mem_singleton.mp hp]; exact Nat.le_refl _
  exact k _ _ _ _ t (P.grow0 (tl := [(s.heap.objs.size, rngO a b tk tk2 s.toks)]) (P.F.push _) (P.N.push P.F _) U) U ⟨_, _, _, _, rfl, memR _ (.head _)⟩
/-- the ints of a range by ones -/
noncomputable def rngL (a b : Int) : List Vl := (rangeKs a (b - a).toNat).map fun k => .d (.int k)
theorem xD_forR {x : Str} {iter : Expr} {body : List Stmt} {xp pos : Pos} {a b : Int} (ok : CxOk w c) (h : EvalD w c c.env σ iter (.rng a b)) (hL : LoopD w c x body (rngL a b) σ mu o) (hab : a ≤ b) (hz : b - a ≤ 1000000) (ha0 : -1000000 ≤ a) (ha1 : a ≤ 1000000)
    (hx : c.env.kindOf x = some .local := by rfl) (hd1 : (x == ("__debug__" : Str)) = false := by decide) (hd2 : (x == ("__classdict__" : Str)) = false := by decide) (hs : ∀ x, foldedSetIterable iter c.env x = pure x := by intro _; rfl) : ExecD w c σ mu (.For (.Name x xp) iter body [] pos) o := fun ex n₀ tl s Q E I k => by
  obtain ⟨m, fx, t, I⟩ := I
  refine wpAny_noRaise ?_
  refine For_invVF I.F hx (by show (c.cs.kind == .class || (c.cs.kind == .module && c.L != mainGlobals)) = false; rw [ok.k]; rfl) (h _ _ _ _ _ _ _ (I.pre ok) fun v h' tk' add t' P U hv => ?_) hs PassesOwn.never
  have I' := I.after P U
  rw [List.append_assoc] at hv
  obtain ⟨r, t1, u1, k1, rfl, hm⟩ := hv
  have hr : IsRange h' r a b 1 t1 u1 k1 := (I'.N _ (memR _ (memR _ hm))).1
  have hsz : Builtin.Range.rangeSize a b 1 = ((b - a).toNat : Int) := by
    rw [rangeSize_one]; split <;> lia
  refine wpAny_pyIter_range hr (small_one (by lia) (by lia) (by lia) (by lia)) ?_
  generalize hn : (b - a).toNat = n at hsz
  have W : Walks PySem.Challenge.rw_in0110_01.row.prog w c.A h'.objs.size [h'.objs.size] [h'.objs.size] n (fun i v => i < n ∧ ∃ t, v = .int (a + (i : Int) * 1) t)
      (fun i h => IsRangeIter h h'.objs.size (a + (i : Nat) * 1) ((n : Int) - (i : Nat)) 1) := (Walks.range rfl _ a 1 n).bound
  refine kdr_loop (LJd w c x body (rngL a b) o ex n₀ (tl ++ add)) W (fun _ h => h) (fun _ h => h) ?_ ?_ ?_ ?_ (by show IsRangeIter _ _ _ _ _; rw [hsz]; simpa using Heap.get?_push_size _ rfl) (I'.F.push _) (fun p hp => ⟨Heap.get?_push_of_some _ (I'.N p hp).1, (I'.N p hp).2⟩) ⟨σ, mu, [], fx, t', by rw [List.append_nil], by rw [List.append_nil]; exact I'.x, by rw [List.drop_zero]; exact hL⟩ ?_ ?_
  · intro i h hi b hb
    rw [List.mem_singleton.mp hb]
    exact ⟨_, hi⟩
  · intro hm
    exact absurd I'.F.ns.lt ((List.mem_singleton.mp hm) ▸ Nat.lt_irrefl _)
  · intro b hb
    rw [List.mem_singleton.mp hb]
    exact next_is_new I'.F
  · intro p hp hI
    exact absurd (Heap.lt_size (I'.N p hp).1) ((List.mem_singleton.mp hI) ▸ Nat.lt_irrefl _)
  · rintro i v m₁ nx h tk own hi ⟨_, t, rfl⟩ hoff J F₁ N₁
    have e1 : a + (i : Int) * 1 = a + (i : Int) := by lia
    rw [e1] at F₁
    exact turn_core hx hd1 hd2 (d := .d (.int (a + i))) (by unfold rngL; rw [hn, List.getElem?_map]; simp [rangeKs, hi]) (.int _ _) hoff J F₁ N₁ fun f h tk add' hO => k f h tk (add ++ add') (by rw [← List.append_assoc]; exact hO)
  · rintro m₁ nx h tk ⟨σ', mu', z, fx', t', rfl, X, L⟩ F₁ N₁
    rw [List.drop_eq_nil_of_le (by unfold rngL; rw [List.length_map, rangeKs_length, hn]; exact Nat.le_refl _)] at L
    cases L
    exact k .next h tk (add ++ z) ⟨rfl, m₁, fx', t', by rw [← List.append_assoc]; exact X.at' F₁ N₁⟩
/-- a test, the mutable list in sight -/
noncomputable def TestX (w : World) (c : Cx) (σ : Sg) (mu : Mu) (e : Expr) (b : Bool) : Prop :=
  TestD w c c.env σ e b ∨ ∃ x ds, mu = some (x, ds) ∧ (x == ("__debug__" : Str)) = false ∧ TestD w c c.env (upd σ x (.d (.list ds))) e b
theorem TestX.run {e : Expr} {b : Bool} {m : Str → Option Value} {fx : Lg} {t : Tb} {s : Shared} {Q : Bool → Shared → Prop} {E : Value → Shared → Prop} (ok : CxOk w c) (T : TestX w c σ mu e b) (I : InAt w c ex n₀ tl σ mu s.heap m fx t)
    (k : ∀ h' tk' add, InSt w c ex n₀ (tl ++ add) σ mu h' → Q b { s with heap := h', toks := tk' }) : wpAny (theM w) c.A (isTrue e c.env (eval e c.env)) Q E s := by
  rcases T with T | ⟨x, ds, hmu, hd, T⟩
  · exact T _ _ _ _ _ _ _ (I.pre ok) fun h' tk' add t' P U => k h' tk' add ⟨m, fx, t', I.after P U⟩
  · obtain ⟨q, a3, a4, PM⟩ := I.preM ok hmu hd
    exact T _ _ _ _ _ _ _ PM fun h' tk' add t' P U => k h' tk' add ⟨m, fx, t', I.afterM a3 a4 P U⟩
inductive WhileD (w : World) (c : Cx) (test : Expr) (body : List Stmt) : Sg → Mu → Out → Prop
  | stop {σ : Sg} {mu : Mu} : TestX w c σ mu test false → WhileD w c test body σ mu (.next σ mu)
  | next {σ σ' : Sg} {mu mu' : Mu} {o : Out} : TestX w c σ mu test true → ExecsD w c σ mu body (.next σ' mu') → WhileD w c test body σ' mu' o → WhileD w c test body σ mu o
  | cont {σ σ' : Sg} {mu mu' : Mu} {o : Out} : TestX w c σ mu test true → ExecsD w c σ mu body (.cont σ' mu') → WhileD w c test body σ' mu' o → WhileD w c test body σ mu o
  | brk {σ σ' : Sg} {mu mu' : Mu} : TestX w c σ mu test true → ExecsD w c σ mu body (.brk σ' mu') → WhileD w c test body σ mu (.next σ' mu')
  | ret {σ : Sg} {mu : Mu} {r : Vl} : TestX w c σ mu test true → ExecsD w c σ mu body (.ret r) → WhileD w c test body σ mu (.ret r)
theorem xD_while {test : Expr} {body : List Stmt} {pos : Pos} (ok : CxOk w c) (hW : WhileD w c test body σ mu o) : ExecD w c σ mu (.While test body [] pos) o := fun ex n₀ tl s Q E I k => by
  refine wpAny_noRaise ?_
  refine whl_start 0 ?_
  have main : ∀ (tl : Lg) (s : Shared), InSt w c ex n₀ tl σ mu s.heap → (∀ f h tk add, OutOk w c ex n₀ (tl ++ add) o f h → Q f { s with heap := h, toks := tk }) →
      WhlRest PySem.Challenge.rw_in0110_01.row.prog w c.A (fun _ _ => False) c.env test body [] Q 0 s := by
    clear k I
    clear s
    clear tl
    induction hW with
    | stop hT =>
      intro tl s I k
      obtain ⟨m, fx, t, I⟩ := I
      refine whl_turn (k := 0) PassesOwn.never (hT.run ok I fun h' tk' add I' => WhlIf.no rfl ?_)
      exact wpAny_execs_nil (k .next h' tk' add ⟨rfl, I'⟩)
    | next hT hb _ ih =>
      intro tl s I k
      obtain ⟨m, fx, t, I⟩ := I
      refine whl_turn (k := 0) PassesOwn.never (hT.run ok I fun h' tk' add I' => WhlIf.yes rfl ?_)
      refine hb _ _ _ _ _ _ I' fun f h'' tk'' add' hO => ?_
      obtain ⟨rfl, I''⟩ := hO
      exact ih _ _ I'' fun f h tk add'' hO => k f h tk (add ++ (add' ++ add'')) (by rw [← List.append_assoc, ← List.append_assoc]; exact hO)
    | cont hT hb _ ih =>
      intro tl s I k
      obtain ⟨m, fx, t, I⟩ := I
      refine whl_turn (k := 0) PassesOwn.never (hT.run ok I fun h' tk' add I' => WhlIf.yes rfl ?_)
      refine hb _ _ _ _ _ _ I' fun f h'' tk'' add' hO => ?_
      obtain ⟨rfl, I''⟩ := hO
      exact ih _ _ I'' fun f h tk add'' hO => k f h tk (add ++ (add' ++ add'')) (by rw [← List.append_assoc, ← List.append_assoc]; exact hO)
    | brk hT hb =>
      intro tl s I k
      obtain ⟨m, fx, t, I⟩ := I
      refine whl_turn (k := 0) PassesOwn.never (hT.run ok I fun h' tk' add I' => WhlIf.yes rfl ?_)
      refine hb _ _ _ _ _ _ I' fun f h'' tk'' add' hO => ?_
      obtain ⟨rfl, I''⟩ := hO
      exact k .next h'' tk'' (add ++ add') ⟨rfl, by rw [← List.append_assoc]; exact I''⟩
    | ret hT hb =>
      intro tl s I k
      obtain ⟨m, fx, t, I⟩ := I
      refine whl_turn (k := 0) PassesOwn.never (hT.run ok I fun h' tk' add I' => WhlIf.yes rfl ?_)
      refine hb _ _ _ _ _ _ I' fun f h'' tk'' add' hO => ?_
      have hO' := hO
      obtain ⟨v, m, t, fx, rfl, _⟩ := hO
      exact k _ h'' tk'' (add ++ add') (by rw [← List.append_assoc]; exact hO')
  exact main tl s I k
theorem xD_ifX {t1 : Expr} {b e : List Stmt} {pos : Pos} {bb : Bool} (ok : CxOk w c) (h : TestX w c σ mu t1 bb) (h1 : bb = true → ExecsD w c σ mu b o) (h2 : bb = false → ExecsD w c σ mu e o) : ExecD w c σ mu (.If t1 b e pos) o := by
  rcases h with h | ⟨x, ds, hmu, hd, h⟩
  · exact xD_if ok h h1 h2
  · exact xD_ifM ok hmu h h1 h2 hd
/-- the mutable list has changed -/
theorem InAt.put {h h' : Heap} {m : Str → Option Value} {fx l1 l2 : Lg} {t : Tb} {x : Str} {ds ds' : List Dat} {a : Addr} {vs ws : List Value} {n k : Nat} (I : InAt w c ex n₀ tl σ (some (x, ds)) h m fx t) (e12 : fx = l1 ++ (a, listOf vs.toArray n) :: l2) (hm : m x = some (.ref a)) (hx : c.env.kindOf x = some .local) (F : Fr c.h₀ c.L h' m) (N : News c.h₀ c.L h' ((a, listOf ws.toArray k) :: (tabL t ++ ((l1 ++ l2 ++ ex) ++ (n₀ ++ tl))))) (hw : DatAll tl ws ds') :
    InAt w c ex n₀ tl σ (some (x, ds')) h' m (l1 ++ (a, listOf ws.toArray k) :: l2) t := by
  subst e12
  have hm12 : ∀ p ∈ l1 ++ (a, listOf ws.toArray k) :: l2, p = (a, listOf ws.toArray k) ∨ p ∈ l1 ++ (a, listOf vs.toArray n) :: l2 := fun p hp => by
    rcases List.mem_append.mp hp with hp | hp
    · exact .inr (memL p hp)
    · rcases List.mem_cons.mp hp with rfl | hp
      · exact .inl rfl
      · exact .inr (memR _ (.tail _ hp))
  have hm21 : ∀ p ∈ l1 ++ (a, listOf vs.toArray n) :: l2, (∃ v, p.2.data = .cell v) → p ∈ l1 ++ (a, listOf ws.toArray k) :: l2 := fun p hp hc => by
    rcases List.mem_append.mp hp with hp | hp
    · exact memL p hp
    · rcases List.mem_cons.mp hp with rfl | hp
      · obtain ⟨v, hc⟩ := hc; cases hc
      · exact memR _ (.tail _ hp)
  have ha : (a, listOf vs.toArray n) ∈ l1 ++ (a, listOf vs.toArray n) :: l2 := memR _ (.head _)
  refine ⟨F, fun p hp => ?_, I.tab, fun p hp => ?_, fun y e hy => ?_, I.dis, fun q hq p hp => ?_, fun q hq p hp => ?_, ?_, ?_, fun y es he => ?_⟩
  · refine N p ?_
    rcases List.mem_append.mp hp with hp | hp
    · exact .tail _ (memL p hp)
    · rcases List.mem_append.mp hp with hp | hp
      · rcases List.mem_append.mp hp with hp | hp
        · rcases List.mem_append.mp hp with hp | hp
          · exact .tail _ (memR p (memL p (memL p (memL p hp))))
          · rcases List.mem_cons.mp hp with rfl | hp
            · exact .head _
            · exact .tail _ (memR p (memL p (memL p (memR p hp))))
        · exact .tail _ (memR p (memL p (memR p hp)))
      · exact .tail _ (memR p (memR p hp))
  · rcases List.mem_append.mp hp with hp | hp
    · rcases List.mem_append.mp hp with hp | hp
      · rcases hm12 p hp with rfl | hp
        · exact I.hi (a, listOf vs.toArray n) (memL _ (memL _ ha))
        · exact I.hi p (memL p (memL p hp))
      · exact I.hi p (memL p (memR p hp))
    · exact I.hi p (memR p hp)
  · obtain ⟨h1, h2, v, hv, hs⟩ := I.rho y e hy
    exact ⟨h1, h2, v, hv, hs.imp id fun ⟨b, ob, z1, z2, z3, z4⟩ => ⟨b, ob, z1, z2, (List.mem_append.mp z3).elim (fun h => memL _ (hm21 _ h ⟨_, z4⟩)) (memR _), z4⟩⟩
  · rcases hm12 p hp with rfl | hp
    · exact I.dif q hq (a, listOf vs.toArray n) ha
    · exact I.dif q hq p hp
  · rcases hm12 q hq with rfl | hq
    · exact I.dex (a, listOf vs.toArray n) ha p hp
    · exact I.dex q hq p hp
  · have := I.nd
    rw [List.map_append, List.map_cons] at this ⊢
    exact this
  · refine ⟨fun y b hyk hb => ?_, I.cells.2⟩
    obtain ⟨ob, vb, x1, x2⟩ := I.cells.1 y b hyk hb
    exact ⟨ob, vb, hm21 _ x1 ⟨_, x2⟩, x2⟩
  · cases he
    exact ⟨a, ws, k, memR _ (.head _), hm, hx, hw⟩
theorem InAt.split {h : Heap} {m : Str → Option Value} {fx : Lg} {t : Tb} {x : Str} {ds : List Dat} (I : InAt w c ex n₀ tl σ (some (x, ds)) h m fx t) :
    ∃ a vs n l1 l2, fx = l1 ++ (a, listOf vs.toArray n) :: l2 ∧ m x = some (.ref a) ∧ c.env.kindOf x = some .local ∧ DatAll tl vs ds ∧ News c.h₀ c.L h ((a, listOf vs.toArray n) :: (tabL t ++ ((l1 ++ l2 ++ ex) ++ (n₀ ++ tl)))) ∧ ∀ p ∈ tabL t ++ ((l1 ++ l2 ++ ex) ++ (n₀ ++ tl)), p.1 ≠ a := by
  obtain ⟨a, vs, n, h1, h2, h3, h4⟩ := I.mutl x ds rfl
  obtain ⟨l1, l2, rfl⟩ := List.append_of_mem h1
  refine ⟨a, vs, n, l1, l2, rfl, h2, h3, h4, fun p hp => I.N p ?_, fun p hp => ?_⟩
  · rcases List.mem_cons.mp hp with rfl | hp
    · exact memR _ (memL _ (memL _ h1))
    · rcases List.mem_append.mp hp with hp | hp
      · exact memL p hp
      · exact Mine.viaSub hp (by walk_at "mSUB")
  · rcases List.mem_append.mp hp with hp | hp
    · have := I.hi _ (memL _ (memL _ h1))
      rcases List.mem_cons.mp hp with rfl | hp
      · exact Ne.symm this.1
      · rw [List.mem_singleton.mp hp]; exact Ne.symm this.2
    · rcases List.mem_append.mp hp with hp | hp
      · rcases List.mem_append.mp hp with hp | hp
        · have := I.nd
          rw [List.map_append, List.map_cons] at this
          have n1 := List.nodup_append.mp this
          have n2 := List.nodup_cons.mp n1.2.1
          rcases List.mem_append.mp hp with hp | hp
          · exact n1.2.2 _ (List.mem_map_of_mem hp) _ (.head _)
          · exact fun q => n2.1 (by have := List.mem_map_of_mem (f := (·.1)) hp; rw [q] at this; exact this)
        · exact fun x => I.dex _ h1 p hp x.symm
      · exact I.dif p hp _ h1
theorem xD_append {x : Str} {e : Expr} {np ap cp pos : Pos} {ds : List Dat} {a : Dat} (ok : CxOk w c) (h : EvalF w c c.env σ e (.d a)) (hl : ds.length ≤ 1000000) (hd : (x == ("__debug__" : Str)) = false := by decide) (hi : interactive c.env = false := by rfl)
    (hs : swapsWith (.Call (.Attribute (.Name x np) (Str.ofString "append") ap) [e] [] cp) none pos.line c.env = pure false := by rfl) {pl : Sem Bool} (hev : eval (.Call (.Attribute (.Name x np) (Str.ofString "append") ap) [e] [] cp) c.env = (do
      let ov ← eval (.Name x np) c.env
      standAt ap.atName
      let (f, first) ← holding [ov] (getMethod ov (Str.ofString "append") pl)
      callWith cp f first (backTo cp (starEach [e] c.env)) []) := by rfl) (he : starEach [e] c.env = (false, eval e c.env) :: starEach [] c.env := by rfl) :
    ExecD w c σ (some (x, ds)) (.Expr (.Call (.Attribute (.Name x np) (Str.ofString "append") ap) [e] [] cp) pos) (.next σ (some (x, ds ++ [a]))) := fun ex n₀ tl s Q E I k => by
  obtain ⟨m, fx, t, I⟩ := I
  obtain ⟨aL, vs, n, h1, h2, h3, h4⟩ := I.mutl x ds rfl
  refine wpAny_Expr ?_ hi hs
  refine MethodCall_ (nameX_L I.F h2 ?_ ok.k h3 hd) hev
  refine listMethod_K I.N (memR _ (memL _ (memL _ h1))) PySem.F.slot_list_append PySem.F.type_list_append ?_
  refine callWith_method1 (args_cons (h _ _ _ _ _ _ _ (I.pre ok) fun v h' tk' add t' P U hv => args_nil ?_) he) he (by rfl)
  have I' := I.after P U
  obtain ⟨a', vs', n', l1, l2, e12, hm2, hx2, hD, hN, hne⟩ := I'.split
  rw [h2] at hm2; cases hm2
  have hlen := hD.length
  refine append_D I'.F hN hne hD hl fun h'' F'' N'' => ?_
  exact k .next h'' tk' add ⟨rfl, m, _, t', I'.put (x := x) e12 h2 h3 F'' N'' (hD.append (.one (DatIn.mono memR hv)))⟩
theorem setItem_neg1 {prog : Program} {A : Around} {E : Value → Shared → Prop} {s : Shared} {l : Addr} {items : Array Value} {t : Tok} {v : Value} {Q : Unit → Shared → Prop} (hl : s.heap.IsList l items) (hn : 0 < items.size)
    (hQ : ∀ h', Heap.SameBut l s.heap h' → h' = s.heap.update l (Obj.mapSeq (·.setIfInBounds (items.size - 1) v)) → Q () { s with heap := h' }) :
    wpAny (model prog w) A (setItem (.ref l) (.int (-1) t) v) Q E s := by
  obtain ⟨o, ho, hc, ne, hd⟩ := id hl
  unfold setItem
  try with_reducible refine wpAny_holding ?_
  first | refine wpAny_bind (wpAny_pure ?_) | skip
  refine wpAny_bind (wpAny_sequenceKey hl.typeIs (by decide) ?_)
  refine wpAny_bind (wpAny_callSpecial?_slot (name := Str.ofString "__setitem__") hl.typeIs slot_list_setitem
    (wpAny_call_entry slot_list_setitem hl.typeIs entry_list_setitem ?_ (args_list_setitem _ _ _)))
  show wpAny _ _ (Builtin.List.listSubscript? (.int (-1) t) >>= _) _ _ s
  refine wpAny_bind (wpAny_listSubscript_int (fitsIndex_neg (by decide) (by decide)) ?_)
  have hidx := seqIndex_neg (k := -1) (n := items.size) (by decide) (by lia)
  have hx' : items[items.size - 1]? = some items[items.size - 1] := Array.getElem?_eq_getElem (by lia)
  have e1 : ((-1 : Int) + items.size).toNat = items.size - 1 := by lia
  rw [e1] at hidx
  show wpAny _ _ ((Builtin.List.listItems (.ref l) >>= fun xs => pure ((seqIndex? (Int.negSucc 0) xs.size).bind fun i => xs[i]?.map (i, ·))) >>= _) _ _ s
  refine wpAny_bind (wpAny_bind ?_)
  show wpAny _ _ (seqItems? (.ref l) >>= _) _ _ s
  refine wpAny_bind (wpAny_seqItems ho hd (wpAny_pure (wpAny_pure ?_)))
  rw [show (Int.negSucc 0) = -1 from rfl, hidx]
  simp only [Option.bind_some, hx', Option.map_some]
  show wpAny _ _ (setSeqItemAt l (items.size - 1) v >>= _) _ _ s
  refine wpAny_bind (wpAny_setSeqItemAt ho hd ?_)
  first
    | exact wpAny_bind (wpAny_pure (wpAny_pure ⟨.none, rfl, wpAny_pure (hQ _ (Heap.SameBut.update ..) rfl)⟩))
    | exact wpAny_pure ⟨.none, rfl, wpAny_pure (hQ _ (Heap.SameBut.update ..) rfl)⟩
end
end Mine

namespace Mine
section
variable {w : World} {c : Cx} {env : Env} {σ σ' : Sg} {mu mu' : Mu} {o : Out} {ex n₀ tl : Lg} {d : Vl}
/-- rows[-1] = a text -/
theorem xD_setlast {x : Str} {e : Expr} {np up sp kp pos : Pos} {ds : List Dat} {a : Dat} {kd : Nat} (ok : CxOk w c) (h : EvalD w c c.env (upd σ x (.d (.list ds))) e (.d a)) (ha : isAtom a = true) (hne : ds ≠ []) (hd : (x == ("__debug__" : Str)) = false := by decide)
    (hs : swapsWith e (some (.Subscript (.Name x np) (.UnaryOp .USub (.Constant (.int 1) kd kp) up) sp)) pos.line c.env = pure false := by rfl) :
    ExecD w c σ (some (x, ds)) (.Assign [.Subscript (.Name x np) (.UnaryOp .USub (.Constant (.int 1) kd kp) up) sp] e pos) (.next σ (some (x, ds.dropLast ++ [a]))) := fun ex n₀ tl s Q E I k => by
  obtain ⟨m, fx, t, I⟩ := I
  obtain ⟨q, a3, a4, PM⟩ := I.preM ok rfl hd
  refine wpAny_Assign_Subscript (h _ _ _ _ _ _ _ PM fun v h' tk' add t' P U hv => ?_) hs
  have I' := I.afterM a3 a4 P U
  obtain ⟨aL, vs, n, l1, l2, e12, hm2, hx2, hD, hN, hne2⟩ := I'.split
  refine nameX_L I'.F hm2 ?_ ok.k hx2 hd
  refine UnaryOp_ (wpAny_Constant_int (neg_int ?_))
  have hls : h'.IsList aL vs.toArray := ⟨_, (hN _ (.head _)).1, rfl, n, rfl⟩
  have hlen := hD.length
  have hpos : 0 < vs.length := by
    rw [hlen]
    cases ds with
    | nil => exact absurd rfl hne
    | cons => simp
  refine setItem_neg1 (s := { s with heap := h', toks := _ }) hls (by simpa using hpos) fun h'' hsb hh => ?_
  have hne' : vs ≠ [] := by intro q; rw [q] at hpos; exact absurd hpos (by decide)
  have hvs : (vs.toArray.setIfInBounds (vs.toArray.size - 1) v) = (vs.dropLast ++ [v]).toArray := by
    have e : vs = vs.dropLast ++ [vs.getLast hne'] := (List.dropLast_concat_getLast hne').symm
    rw [List.size_toArray, List.setIfInBounds_toArray]
    congr 1
    have hl : vs.length - 1 = vs.dropLast.length := by rw [List.length_dropLast]
    rw [hl]
    conv => lhs; arg 1; rw [e]
    rw [List.set_append_right _ _ (Nat.le_refl _), Nat.sub_self]
    rfl
  have hget := (hN _ (.head _)).1
  have ho'' : h''.get? aL = some (listOf (vs.dropLast ++ [v]).toArray n) := by
    rw [hh]
    have := Heap.get?_update_self (Obj.mapSeq (·.setIfInBounds (vs.toArray.size - 1) v)) hget rfl
    rw [this]
    rw [← hvs]
    show some (⟨_, _, .seq (vs.toArray.setIfInBounds (vs.toArray.size - 1) v) (if (vs.toArray.setIfInBounds (vs.toArray.size - 1) v).size == vs.toArray.size then n else n + 1), _⟩ : Obj) = _
    rw [if_pos (by simp)]
  have F'' : Fr c.h₀ c.L h'' m := I'.F.change hsb (hN _ (.head _)).2.1 (hN _ (.head _)).2.2
  have N'' := News.setHead hN hne2 hsb ho''
  have hD2 : DatAll (tl ++ add) (vs.dropLast ++ [v]) (ds.dropLast ++ [a]) := by
    have ee : vs = vs.dropLast ++ [vs.getLast hne'] := (List.dropLast_concat_getLast hne').symm
    rw [ee] at hD
    obtain ⟨es, d', e1, D1, D2⟩ := hD.snoc
    subst e1
    rw [List.dropLast_concat]
    exact D1.append (.one (atom_any ha hv))
  exact k .next h'' _ add ⟨rfl, m, _, t', I'.put e12 hm2 hx2 F'' N'' hD2⟩
/-- two names are given the items of a pair -/
theorem xD_unpack {x y : Str} {e : Expr} {xp yp tp pos : Pos} {kk : Nat} {d1 d2 : Dat} (ok : CxOk w c) (h : EvalD w c c.env σ e (.d (.tuple [d1, d2]))) (hx : c.env.kindOf x = some .local := by rfl) (hy : c.env.kindOf y = some .local := by rfl) (hmu : mu = none := by rfl)
    (hd : (x == ("__debug__" : Str)) = false := by decide) (hd2 : (x == ("__classdict__" : Str)) = false := by decide) (he : (y == ("__debug__" : Str)) = false := by decide) (he2 : (y == ("__classdict__" : Str)) = false := by decide)
    (hs : swapsWithSole [.Tuple [.Name x xp, .Name y yp] kk tp] e pos.line c.env = pure false := by rfl) (hw : swappedStores [.Tuple [.Name x xp, .Name y yp] kk tp] e c.env = pure none := by rfl) :
    ExecD w c σ mu (.Assign [.Tuple [.Name x xp, .Name y yp] kk tp] e pos) (.next (upd (upd σ x (.d d1)) y (.d d2)) mu) := fun ex n₀ tl s Q E I k => by
  obtain ⟨m, fx, t, I⟩ := I
  subst hmu
  refine Assign_Tuple (h _ _ _ _ _ _ _ (I.pre ok) fun v h' tk' add t' P U hv => ?_) hs hw
  have I' := I.after P U
  rw [List.append_assoc] at hv
  refine Mine.inT (show DatIn _ _ _ from hv) fun _ _ _ hml hvl => ?_
  revert hml
  (first | refine Mine.all2 hvl fun _ _ b1 b2 => ?_ | refine Mine.dall2 hvl fun _ _ b1 b2 => ?_)
  intro hml
  refine unpackN_ I'.F I'.N (News.isTup I'.N (memR _ (memR _ hml))) rfl rfl rfl fun h2 F2 N2 => ?_
  show wpAny (theM w) c.A (assignInOrder [assign (.Name x xp) c.env, assign (.Name y yp) c.env] [_, _]) _ _ _
  unfold assignInOrder
  refine wpAny_bind (wpAny_holding (assign_Name (storeX_L F2 N2 (fun h3 F3 N3 => ?_) ok.k hx)))
  unfold assignInOrder
  refine wpAny_bind (wpAny_holding (assign_Name (storeX_L F3 N3 (fun h4 F4 N4 => ?_) ok.k hy)))
  have J1 := I'.set (h' := h3) (x := x) (d := .d d1) b1 hx (fun _ _ h => nomatch h) hd hd2 F3 N3
  have J2 := J1.set (h' := h4) (x := y) (d := .d d2) b2 hy (fun _ _ h => nomatch h) he he2 F4 N4
  unfold assignInOrder
  exact wpAny_pure (k .next h4 _ add ⟨rfl, _, _, _, J2⟩)
-- a def is entered
noncomputable def lkL (l : List (Str × Vl)) : Sg := fun y => l.lookup y
theorem lk_rev : ∀ {l : List (Str × Value)} {x : Str} {v : Value}, (l.map (·.1)).Nodup → l.lookup x = some v → l.reverse.lookup x = some v := by
  intro l x v hn h
  have key : ∀ (l : List (Str × Value)), (l.map (·.1)).Nodup → (x, v) ∈ l → l.lookup x = some v := by
    intro l
    induction l with
    | nil => intro _ h; cases h
    | cons p r ih =>
      intro hn hm
      obtain ⟨y, u⟩ := p
      rw [List.map_cons] at hn
      have h2 := List.nodup_cons.mp hn
      rw [List.lookup_cons]
      rcases List.mem_cons.mp hm with e | hm
      · cases e; simp
      · have : x ≠ y := fun q => h2.1 (q ▸ List.mem_map_of_mem (f := (·.1)) hm)
        simp only [beq_eq_false_iff_ne.mpr this]
        exact ih h2.2 hm
  have mem : ∀ (l : List (Str × Value)), l.lookup x = some v → (x, v) ∈ l := by
    intro l
    induction l with
    | nil => intro h; cases h
    | cons p r ih =>
      intro h
      obtain ⟨y, u⟩ := p
      rw [List.lookup_cons] at h
      by_cases hxy : (x == y) = true
      · rw [hxy] at h
        cases h
        rw [beq_iff_eq.mp hxy]; exact .head _
      · simp only [hxy] at h
        exact .tail _ (ih h)
  exact key _ (by rw [List.map_reverse]; exact List.pairwise_reverse.mpr (hn.imp fun h => Ne.symm h)) (List.mem_reverse.mpr (mem l h))
theorem zip_lk {n : Lg} : ∀ {ps : List Str} {vs : List Value} {ds : List Vl} {x : Str} {d : Vl}, VAll w n vs ds → (ps.zip ds).lookup x = some d → ∃ v, (ps.zip vs).lookup x = some v ∧ VIn w n v d := by
  intro ps
  induction ps with
  | nil => intro vs ds x d _ h; cases h
  | cons p r ih =>
    intro vs ds x d hv h
    cases hv with
    | nil => cases h
    | cons h1 h2 =>
      rw [List.zip_cons_cons, List.lookup_cons] at h ⊢
      by_cases hxp : (x == p) = true
      · simp only [hxp] at h ⊢
        cases h
        exact ⟨_, rfl, h1⟩
      · simp only [hxp] at h ⊢
        exact ih h2 h
noncomputable abbrev Cx.into (c : Cx) (qual : Str) (scope : Scope) (L f : Addr) (cd : Value) (g : Heap) : Cx :=
  { c with dp := c.dp + 1, un := c.un + 3, cn := qual, cs := scope, L := L, a := f, ccd := cd, cl := [], outer := c.env :: c.outer, A₀ := c.A, base := c.base, h₀ := g, cap := [] }
theorem fnV_of {name qual : Str} {params : Arguments} {body : List Stmt} {scope : Scope} {dV kV doc pm cdv ct oc : Value} {an od : Option Addr} {osl : Array (Option Value)} {f : Addr} {n : Nat} {G : List Vl → Vl → Prop} (ps : List Str)
    (ho : (Mine.top.heap_1 w.params).lookup f = some ⟨oc, od, .func (fnOf name qual params body scope dV kV doc pm an cdv ct), osl⟩) (hcd : codeIn (Mine.top.heap_1 w.params) cdv qual = true)
    (hbind : ∀ (s : Shared) (vs : List Value), vs.length = ps.length → BindsTo s (fnOf name qual params body scope dV kV doc pm an cdv ct) ⟨vs, []⟩ (ps.zip vs)) (hloc : ∀ y ∈ ps, scope.names.lookup y = some .local) (hnd : ps.Nodup)
    (hdb : ∀ y ∈ ps, (y == ("__debug__" : Str)) = false ∧ (y == ("__classdict__" : Str)) = false) (hlen : ∀ ds r, G ds r → ds.length = ps.length) (hn : 1 ≤ n)
    (h : ∀ (c : Cx) L g ds r, CxOk w (c.into qual scope L f cdv g) → Rm (c.into qual scope L f cdv g) (n - 1) → G ds r → ExecsD w (c.into qual scope L f cdv g) (lkL (ps.zip ds)) none body (.ret r))
    (hco : scope.isCoroutine = false := by rfl) (hgen : scope.isGenerator = false := by rfl) (hk : scope.kind = .function := by rfl) (hcell : ∀ x ∈ scope.names, x.2 ≠ .cell := by decide) : FnV w f n G := by
  intro c ok rm fx m news t s Q E vs ds r F N T H D g k
  refine wpAny_call ?_
  have hvl : vs.length = ds.length := by
    clear k hlen g
    induction D with
    | nil => rfl
    | cons _ _ ih => rw [List.length_cons, List.length_cons, ih]
  have hlp := hlen _ _ g
  refine code_def ok.B F ok.X N ok.T rfl rfl ok.k ho hcd (by have := rm.d; show c.dp < _; lia) (hbind s vs (hvl.trans hlp)) (fun y hy => hloc _ (by
    obtain ⟨a, b⟩ := y
    exact (List.of_mem_zip hy).1)) (fun g' L' h₁ FG F' N' B' X' T' => ?_) hco hgen hk hcell
  have ok' : CxOk w (c.into qual scope L' f cdv g') := ⟨B', X', T', hk⟩
  have rm' : Rm (c.into qual scope L' f cdv g') (n - 1) := ⟨by have := rm.d; show c.dp + 1 + (n - 1) < _; lia, by have := rm.u; show c.un + 3 + 8 * (n - 1) + 64 < _; lia⟩
  have I : InAt w (c.into qual scope L' f cdv g') fx news [] (lkL (ps.zip ds)) none h₁ (fun y => (ps.zip vs).reverse.lookup y) [] t := by
    refine ⟨F', by rw [List.append_nil, List.nil_append]; exact N', by rw [List.append_nil]; exact T, by rw [List.append_nil, List.nil_append]; exact H, fun x d hx => ?_, fun _ _ _ h => (nomatch h), fun _ _ _ h => (nomatch h), fun _ h => (nomatch h), List.nodup_nil, ⟨fun _ _ _ h => (nomatch h), fun _ h => (nomatch h)⟩, fun _ _ h => (nomatch h)⟩
    obtain ⟨v, hv, hD⟩ := zip_lk D hx
    have hxp : x ∈ ps := by
      have : ∀ (ps : List Str) (ds : List Vl), (ps.zip ds).lookup x = some d → x ∈ ps := by
        intro ps
        induction ps with
        | nil => intro ds h; cases h
        | cons p r ih =>
          intro ds h
          cases ds with
          | nil => cases h
          | cons e es =>
            rw [List.zip_cons_cons, List.lookup_cons] at h
            by_cases hxp : (x == p) = true
            · rw [beq_iff_eq.mp hxp]; exact .head _
            · simp only [hxp] at h
              exact .tail _ (ih es h)
      exact this ps ds hx
    obtain ⟨q1, q2⟩ := hdb x hxp
    have hnv : ((ps.zip vs).map (·.1)).Nodup := by
      have : (ps.zip vs).map (·.1) = ps := by
        rw [List.map_fst_zip]
        lia
      rw [this]; exact hnd
    refine ⟨q1, q2, v, by rw [List.append_nil]; exact hD, .inl ⟨?_, lk_rev hnv hv⟩⟩
    show scope.names.lookup x = _
    exact hloc x hxp
  refine h c L' g' ds r ok' rm' g fx news [] _ _ _ ⟨_, _, _, I⟩ fun fl h' tk' add hO => ?_
  obtain ⟨v, m', t', fx', rfl, F2, N2, T2, U2, V2⟩ := hO
  rw [List.nil_append] at N2 T2 U2 V2
  refine leaveK_ (L' := L') (m' := m') F2 N2 fun F3 N3 => ?_
  have e : tabL t' ++ (fx ++ (news ++ (fx' ++ add))) = tabL t' ++ (fx ++ (news ++ (fx' ++ add))) := rfl
  exact k v h' tk' (fx' ++ add) t' F3 N3 T2 U2 V2
end
end Mine

namespace Mine
section
variable {w : World} {c : Cx} {env : Env} {σ σ' : Sg} {mu mu' : Mu} {o : Out} {ex n₀ tl : Lg} {d : Vl}
-- slices of texts
theorem eD_sliceS_ns {value u : Expr} {p pos : Pos} {x : Str} {j : Int} (hv : EvalD w c env σ value (.d (.str x))) (hu : EvalD w c env σ u (.d (.int j))) (hl : x.length ≤ 16000000) (hg : ∀ t r, letTemporaryGo value (.str x t) r = pure () := by intro _ _; with_unfolding_all rfl)
    (hs : ∀ t n, subscripted (.Slice none (some u) none p) false (.str x t) (.ref n) = operate [.ref n, .str x t] (getItem (.str x t) (.ref n)) := by intro _ _; with_unfolding_all rfl) : EvalD w c env σ (.Subscript value (.Slice none (some u) none p) pos) (.d (.str (Txt.slice x none (some j)))) := fun fx m news t s Q E P k => by
  refine Subscript_ (hv.run P fun v1 hA tkA tlA tA PA UA hv1 => ?_)
  (first | refine Mine.inI (show DatIn _ _ _ from hv1) fun _ => ?_ | refine Mine.inS (show DatIn _ _ _ from hv1) fun _ => ?_ | refine Mine.inB (show DatIn _ _ _ from hv1) ?_ | refine Mine.inN (show DatIn _ _ _ from hv1) ?_)
  refine wpAny_Slice (wpAny_pure (hu.run PA fun v2 hB tkB tlB tB PB UB hv2 => wpAny_pure ?_))
  (first | refine Mine.inI (show DatIn _ _ _ from hv2) fun _ => ?_ | refine Mine.inS (show DatIn _ _ _ from hv2) fun _ => ?_ | refine Mine.inB (show DatIn _ _ _ from hv2) ?_ | refine Mine.inN (show DatIn _ _ _ from hv2) ?_)
  exact slice_strN_ns_len (s := { s with heap := hB, toks := tkB }) PB.F PB.N (fun h' t' tk F' N' _ => ((k.after UA).after UB).heap ⟨F', N', PB.tab, PB.hi, PB.rho⟩ (.str _ _)) (hs _ _) (hg _) (by rw [sizeLine_eq]; lia)
theorem eD_sliceS_sn {value u : Expr} {p pos : Pos} {x : Str} {j : Int} (hv : EvalD w c env σ value (.d (.str x))) (hu : EvalD w c env σ u (.d (.int j))) (hl : x.length ≤ 16000000) (hg : ∀ t r, letTemporaryGo value (.str x t) r = pure () := by intro _ _; with_unfolding_all rfl)
    (hs : ∀ t n, subscripted (.Slice (some u) none none p) false (.str x t) (.ref n) = operate [.ref n, .str x t] (getItem (.str x t) (.ref n)) := by intro _ _; with_unfolding_all rfl) : EvalD w c env σ (.Subscript value (.Slice (some u) none none p) pos) (.d (.str (Txt.slice x (some j) none))) := fun fx m news t s Q E P k => by
  refine Subscript_ (hv.run P fun v1 hA tkA tlA tA PA UA hv1 => ?_)
  (first | refine Mine.inI (show DatIn _ _ _ from hv1) fun _ => ?_ | refine Mine.inS (show DatIn _ _ _ from hv1) fun _ => ?_ | refine Mine.inB (show DatIn _ _ _ from hv1) ?_ | refine Mine.inN (show DatIn _ _ _ from hv1) ?_)
  refine wpAny_Slice (hu.run PA fun v2 hB tkB tlB tB PB UB hv2 => wpAny_pure (wpAny_pure ?_))
  (first | refine Mine.inI (show DatIn _ _ _ from hv2) fun _ => ?_ | refine Mine.inS (show DatIn _ _ _ from hv2) fun _ => ?_ | refine Mine.inB (show DatIn _ _ _ from hv2) ?_ | refine Mine.inN (show DatIn _ _ _ from hv2) ?_)
  exact slice_strN_sn_len (s := { s with heap := hB, toks := tkB }) PB.F PB.N (fun h' t' tk F' N' _ => ((k.after UA).after UB).heap ⟨F', N', PB.tab, PB.hi, PB.rho⟩ (.str _ _)) (hs _ _) (hg _) (by rw [sizeLine_eq]; lia)
theorem eD_sliceS_ss {value l u : Expr} {p pos : Pos} {x : Str} {i j : Int} (hv : EvalD w c env σ value (.d (.str x))) (hl' : EvalD w c env σ l (.d (.int i))) (hu : EvalD w c env σ u (.d (.int j))) (hl : x.length ≤ 16000000) (hg : ∀ t r, letTemporaryGo value (.str x t) r = pure () := by intro _ _; with_unfolding_all rfl)
    (hs : ∀ t n, subscripted (.Slice (some l) (some u) none p) false (.str x t) (.ref n) = operate [.ref n, .str x t] (getItem (.str x t) (.ref n)) := by intro _ _; with_unfolding_all rfl) : EvalD w c env σ (.Subscript value (.Slice (some l) (some u) none p) pos) (.d (.str (Txt.slice x (some i) (some j)))) := fun fx m news t s Q E P k => by
  refine Subscript_ (hv.run P fun v1 hA tkA tlA tA PA UA hv1 => ?_)
  (first | refine Mine.inI (show DatIn _ _ _ from hv1) fun _ => ?_ | refine Mine.inS (show DatIn _ _ _ from hv1) fun _ => ?_ | refine Mine.inB (show DatIn _ _ _ from hv1) ?_ | refine Mine.inN (show DatIn _ _ _ from hv1) ?_)
  refine wpAny_Slice (hl'.run PA fun v2 hB tkB tlB tB PB UB hv2 => hu.run PB fun v3 hC tkC tlC tC PC UC hv3 => wpAny_pure ?_)
  (first | refine Mine.inI (show DatIn _ _ _ from hv2) fun _ => ?_ | refine Mine.inS (show DatIn _ _ _ from hv2) fun _ => ?_ | refine Mine.inB (show DatIn _ _ _ from hv2) ?_ | refine Mine.inN (show DatIn _ _ _ from hv2) ?_)
  (first | refine Mine.inI (show DatIn _ _ _ from hv3) fun _ => ?_ | refine Mine.inS (show DatIn _ _ _ from hv3) fun _ => ?_ | refine Mine.inB (show DatIn _ _ _ from hv3) ?_ | refine Mine.inN (show DatIn _ _ _ from hv3) ?_)
  exact slice_strN_ss_len (s := { s with heap := hC, toks := tkC }) PC.F PC.N (fun h' t' tk F' N' _ => (((k.after UA).after UB).after UC).heap ⟨F', N', PC.tab, PC.hi, PC.rho⟩ (.str _ _)) (hs _ _) (hg _) (by rw [sizeLine_eq]; lia)
-- slices of lists
theorem Pre.one {fx news : Lg} {m : Str → Option Value} {t : Tb} {h h' : Heap} {q : Addr × Obj} (P : Pre w c env fx m news t σ h) (F : Fr c.h₀ c.L h' m) (N : News c.h₀ c.L h' (q :: (tabL t ++ (fx ++ news)))) (l : ∀ p ∈ tabL t ++ (fx ++ news), p.1 < q.1) : Pre w c env fx m (news ++ [q]) t σ h' ∧ Up (fx ++ news) [q] := by
  have U : Up (fx ++ news) [q] := P.upA fun p hp z hz => by rw [List.mem_singleton.mp hz]; exact l p hp
  exact ⟨P.grow0 (tl := [q]) F N U, U⟩
theorem eD_sliceL_ns {value u : Expr} {p pos : Pos} {ds : List Dat} {j : Int} (hv : EvalD w c env σ value (.d (.list ds))) (hu : EvalD w c env σ u (.d (.int j))) (hj : 0 ≤ j) (hl : ds.length ≤ 1000000) (hg : ∀ a r, letTemporaryGo value (.ref a) r = pure () := by intro _ _; with_unfolding_all rfl)
    (hs : ∀ a n, subscripted (.Slice none (some u) none p) false (.ref a) (.ref n) = operate [.ref n, .ref a] (getItem (.ref a) (.ref n)) := by intro _ _; with_unfolding_all rfl) : EvalD w c env σ (.Subscript value (.Slice none (some u) none p) pos) (.d (.list (ds.take j.toNat))) := fun fx m news t s Q E P k => by
  refine Subscript_ (hv.run P fun v1 hA tkA tlA tA PA UA hv1 => ?_)
  refine Mine.inL (show DatIn _ _ _ from hv1) fun _ _ _ hml hvl => ?_
  refine wpAny_Slice (wpAny_pure (hu.run PA fun v2 hB tkB tlB tB PB UB hv2 => wpAny_pure ?_))
  (first | refine Mine.inI (show DatIn _ _ _ from hv2) fun _ => ?_ | refine Mine.inS (show DatIn _ _ _ from hv2) fun _ => ?_ | refine Mine.inB (show DatIn _ _ _ from hv2) ?_ | refine Mine.inN (show DatIn _ _ _ from hv2) ?_)
  refine upto_D (s := { s with heap := hB, toks := tkB }) PB.F PB.N (memR _ (memR _ (memL _ hml))) hvl hl hj (fun R us h' F' N' l1 D' => ?_) (hs _ _) (hg _)
  obtain ⟨PC, UC⟩ := PB.one F' N' l1
  exact ((k.after UA).after UB) _ h' tkB _ tB PC UC (.list (memR _ (.head _)) (D'.mono fun p hp => memL p (memL p hp)))
theorem eD_sliceL_sn {value u : Expr} {p pos : Pos} {ds : List Dat} {j : Int} (hv : EvalD w c env σ value (.d (.list ds))) (hu : EvalD w c env σ u (.d (.int j))) (hj : 0 ≤ j) (hl : ds.length ≤ 1000000) (hg : ∀ a r, letTemporaryGo value (.ref a) r = pure () := by intro _ _; with_unfolding_all rfl)
    (hs : ∀ a n, subscripted (.Slice (some u) none none p) false (.ref a) (.ref n) = operate [.ref n, .ref a] (getItem (.ref a) (.ref n)) := by intro _ _; with_unfolding_all rfl) : EvalD w c env σ (.Subscript value (.Slice (some u) none none p) pos) (.d (.list (ds.drop j.toNat))) := fun fx m news t s Q E P k => by
  refine Subscript_ (hv.run P fun v1 hA tkA tlA tA PA UA hv1 => ?_)
  refine Mine.inL (show DatIn _ _ _ from hv1) fun _ _ _ hml hvl => ?_
  refine wpAny_Slice (hu.run PA fun v2 hB tkB tlB tB PB UB hv2 => wpAny_pure (wpAny_pure ?_))
  (first | refine Mine.inI (show DatIn _ _ _ from hv2) fun _ => ?_ | refine Mine.inS (show DatIn _ _ _ from hv2) fun _ => ?_ | refine Mine.inB (show DatIn _ _ _ from hv2) ?_ | refine Mine.inN (show DatIn _ _ _ from hv2) ?_)
  refine from_D (s := { s with heap := hB, toks := tkB }) PB.F PB.N (memR _ (memR _ (memL _ hml))) hvl hl hj (fun R us h' F' N' l1 D' => ?_) (hs _ _) (hg _)
  obtain ⟨PC, UC⟩ := PB.one F' N' l1
  exact ((k.after UA).after UB) _ h' tkB _ tB PC UC (.list (memR _ (.head _)) (D'.mono fun p hp => memL p (memL p hp)))
-- operators on lists, tuples
noncomputable abbrev binT (op : Operator) : List Value → Sem Value := fun vs => match vs with | [a, b] => binaryOp op a b | _ => pure .none
theorem tD_addL {xs ys : List Dat} (h1 : xs.length ≤ 1000000) (h2 : ys.length ≤ 1000000) : TreeD w c env σ (binT .Add) [.d (.list xs), .d (.list ys)] (.d (.list (xs ++ ys))) := fun fx m news t s Q E vs P D k => by
  (first | refine Mine.all2 D fun _ _ hx hy => ?_ | refine Mine.dall2 D fun _ _ hx hy => ?_)
  refine Mine.inL (show DatIn _ _ _ from hx) fun _ _ _ m1 v1 => ?_
  refine Mine.inL (show DatIn _ _ _ from hy) fun _ _ _ m2 v2 => ?_
  have l1 := v1.length
  have l2 := v2.length
  refine add_lists P.F P.N (P.nnw.isList m1) (P.nnw.isList m2) (fun h' F' N' => ?_) (by rw [sizeLine_eq]; lia)
  obtain ⟨PC, UC⟩ := P.one F' N' P.lt
  exact k _ h' s.toks _ t PC UC (.list (memR _ (.head _)) ((v1.append v2).mono memL))
theorem tD_mulL {xs : List Dat} {n : Int} (h1 : xs.length * n.toNat ≤ 256) (h0 : -1000000 ≤ n) (h2 : n ≤ 1000000) : TreeD w c env σ (binT .Mult) [.d (.list xs), .d (.int n)] (.d (.list (List.replicate n.toNat xs).flatten)) := fun fx m news t s Q E vs P D k => by
  (first | refine Mine.all2 D fun _ _ hx u1z => ?_ | refine Mine.dall2 D fun _ _ hx u1z => ?_)
  (first | refine Mine.inI (show DatIn _ _ _ from u1z) fun _ => ?_ | refine Mine.inS (show DatIn _ _ _ from u1z) fun _ => ?_ | refine Mine.inB (show DatIn _ _ _ from u1z) ?_ | refine Mine.inN (show DatIn _ _ _ from u1z) ?_)
  refine Mine.inL (show DatIn _ _ _ from hx) fun _ _ _ m1 v1 => ?_
  have l1 := v1.length
  refine KMa.mul P.F P.N (P.nnw.isList m1) (by lia) (by lia) (by rw [l1]; exact h1) rfl fun R h' F' N' l => ?_
  obtain ⟨PC, UC⟩ := P.one F' N' l
  have rep : ∀ j : Nat, DatAll news (List.replicate j _).flatten (List.replicate j xs).flatten := fun j => by
    induction j with
    | zero => exact .nil
    | succ j ih => rw [List.replicate_succ, List.flatten_cons, List.replicate_succ, List.flatten_cons]; exact v1.append ih
  exact k _ h' s.toks _ t PC UC (.list (memR _ (.head _)) ((rep _).mono memL))
/-- a tuple and a tuple, the sum new -/
theorem eF_addT {l r : Expr} {pos : Pos} {xs ys : List Dat} (h1 : EvalD w c env σ l (.d (.tuple xs))) (h2 : EvalD w c env σ r (.d (.tuple ys))) (hx : xs ≠ []) (hy : ys ≠ []) (l1 : xs.length ≤ 1000) (l2 : ys.length ≤ 1000) (ha : ∀ d ∈ xs ++ ys, isAtom d = true) : EvalF w c env σ (.BinOp l .Add r pos) (.d (.tuple (xs ++ ys))) := fun fx m news t s Q E P k => by
  refine wpAny_BinOp (h1.run P fun v1 hA tkA tlA tA PA UA hv1 => h2.run PA fun v2 hB tkB tlB tB PB UB hv2 => ?_)
  refine Mine.inT (show DatIn _ _ _ from hv1) fun _ _ _ m1 w1 => ?_
  refine Mine.inT (show DatIn _ _ _ from hv2) fun _ _ _ m2 w2 => ?_
  have e1 := w1.length
  have e2 := w2.length
  have n1 : xs.length ≠ 0 := fun q => hx (List.eq_nil_of_length_eq_zero q)
  have n2 : ys.length ≠ 0 := fun q => hy (List.eq_nil_of_length_eq_zero q)
  refine add_tuples (s := { s with heap := hB, toks := tkB }) PB.F PB.N (PB.nnw.isTup (memL _ m1)) (PB.nnw.isTup m2) (fun q => absurd e1 (by rw [q]; exact fun z => n1 z.symm)) (fun _ q => absurd e2 (by rw [q]; exact fun z => n2 z.symm)) (fun _ _ h' F' N' => ?_) (by rw [sizeLine_eq]; lia)
  obtain ⟨PC, UC⟩ := PB.one F' N' PB.lt
  rw [List.append_assoc, List.append_assoc] at PC
  rw [← List.append_assoc] at UB UC
  rw [← List.append_assoc] at UC
  exact k _ h' tkB _ tB PC (UA.cat (Up.cat (UB.sub memL) (UC.sub fun p hp => memL p (memL p hp)))) (.tuple (memR _ (memR _ (.head _))) (atoms_any ha ((w1.mono memL).append w2)))
-- equality of data
theorem tD_eqD {a b : Dat} {bb : Bool} (rm : Rm c 1) (ha : kqdOk 9 a = true) (hb : kqdOk 9 b = true) (h : bb = true ↔ a = b) : TreeD w c env σ (cmpT .Eq) [.d a, .d b] (.d (.bool bb)) := fun fx m news t s Q E vs P D k => by
  (first | refine Mine.all2 D fun _ _ hx hy => ?_ | refine Mine.dall2 D fun _ _ hx hy => ?_)
  obtain ⟨as, ra⟩ := kqd_in P.nnw 9 (show DatIn _ _ _ from hx) ha
  obtain ⟨bs, rb⟩ := kqd_in P.nnw 9 (show DatIn _ _ _ from hy) hb
  have la := kqd_lay 9 a ha
  have lb := kqd_lay 9 b hb
  refine eq_dataH ra rb ?_ ?_ (by have := rm.u; show c.un + 64 < _; lia) ?_
  · unfold SeqAt.shaped; rw [la.1, Bool.true_and]; exact decide_eq_true (Nat.le_trans la.2 (by decide))
  · unfold SeqAt.shaped; rw [lb.1, Bool.true_and]; exact decide_eq_true (Nat.le_trans lb.2 (by decide))
  · have e : PyData.eqv (kqdP a) (kqdP b) = bb := by
      have q := kqd_eqv 9 a b 9 ha hb
      rw [← h] at q
      exact Bool.eq_iff_iff.mpr q
    rw [e]; exact k.same' P (.bool _)
theorem tD_neD {a b : Dat} {bb : Bool} (rm : Rm c 1) (ha : kqdOk 9 a = true) (hb : kqdOk 9 b = true) (h : bb = true ↔ a ≠ b) : TreeD w c env σ (cmpT .NotEq) [.d a, .d b] (.d (.bool bb)) := fun fx m news t s Q E vs P D k => by
  (first | refine Mine.all2 D fun _ _ hx hy => ?_ | refine Mine.dall2 D fun _ _ hx hy => ?_)
  obtain ⟨as, ra⟩ := kqd_in P.nnw 9 (show DatIn _ _ _ from hx) ha
  obtain ⟨bs, rb⟩ := kqd_in P.nnw 9 (show DatIn _ _ _ from hy) hb
  have la := kqd_lay 9 a ha
  have lb := kqd_lay 9 b hb
  refine ne_dataH ra rb ?_ ?_ (by have := rm.u; show c.un + 64 < _; lia) ?_
  · unfold SeqAt.shaped; rw [la.1, Bool.true_and]; exact decide_eq_true (Nat.le_trans la.2 (by decide))
  · unfold SeqAt.shaped; rw [lb.1, Bool.true_and]; exact decide_eq_true (Nat.le_trans lb.2 (by decide))
  · have e : (!PyData.eqv (kqdP a) (kqdP b)) = bb := by
      have q := kqd_eqv 9 a b 9 ha hb
      cases hb : PyData.eqv (kqdP a) (kqdP b) with
      | true =>
        have := q.mp hb
        cases bb with
        | true => exact absurd this (h.mp rfl)
        | false => rfl
      | false =>
        have : ¬ a = b := fun z => by rw [q.mpr z] at hb; cases hb
        exact (h.mpr this).symm
    rw [e]; exact k.same' P (.bool _)
theorem tD_inL {a : Dat} {xs : List Dat} {bb : Bool} (rm : Rm c 1) (ha : kqdOk 8 a = true) (hb : ∀ d ∈ xs, kqdOk 8 d = true) (h : bb = true ↔ a ∈ xs) : TreeD w c env σ (cmpT .In) [.d a, .d (.list xs)] (.d (.bool bb)) := fun fx m news t s Q E vs P D k => by
  (first | refine Mine.all2 D fun _ _ hx hy => ?_ | refine Mine.dall2 D fun _ _ hx hy => ?_)
  refine Mine.inL (show DatIn _ _ _ from hy) fun _ _ _ m1 v1 => ?_
  refine kqd_isIn P.nnw m1 rfl rfl v1 (fun _ h => h) (show DatIn _ _ _ from hx) (fun _ h => h) hb ha (by have := rm.u; show c.un + 64 < _; lia) ?_
  have e : ∀ inst : Decidable (a ∈ xs), @decide (a ∈ xs) inst = bb := by
    intro inst
    cases bb with
    | true => exact decide_eq_true (h.mp rfl)
    | false => exact decide_eq_false fun z => absurd (h.mpr z) (by decide)
  rw [e]; exact k.same' P (.bool _)
theorem tD_isN : TreeD w c env σ (cmpT .Is) [.d .none, .d .none] (.d (.bool true)) := fun fx m news t s Q E vs P D k => by
  (first | refine Mine.all2 D fun _ _ u0z u1z => ?_ | refine Mine.dall2 D fun _ _ u0z u1z => ?_)
  (first | refine Mine.inI (show DatIn _ _ _ from u0z) fun _ => ?_ | refine Mine.inS (show DatIn _ _ _ from u0z) fun _ => ?_ | refine Mine.inB (show DatIn _ _ _ from u0z) ?_ | refine Mine.inN (show DatIn _ _ _ from u0z) ?_)
  (first | refine Mine.inI (show DatIn _ _ _ from u1z) fun _ => ?_ | refine Mine.inS (show DatIn _ _ _ from u1z) fun _ => ?_ | refine Mine.inB (show DatIn _ _ _ from u1z) ?_ | refine Mine.inN (show DatIn _ _ _ from u1z) ?_)
  exact is_none_none (k.same' P (.bool _))
-- more calls
theorem cD_str {i : Int} (h0 : -(2 ^ 64) ≤ i) (h1 : i < 2 ^ 64) : CallD w c env σ (.type "str") [.d (.int i)] (.d (.str (Str.ofString (toString i)))) := fun fx m news t s Q E vs P D k => by
  (first | refine Mine.all1 D fun _ u0z => ?_ | refine Mine.dall1 D fun _ u0z => ?_)
  (first | refine Mine.inI (show DatIn _ _ _ from u0z) fun _ => ?_ | refine Mine.inS (show DatIn _ _ _ from u0z) fun _ => ?_ | refine Mine.inB (show DatIn _ _ _ from u0z) ?_ | refine Mine.inN (show DatIn _ _ _ from u0z) ?_)
  exact PySem.P.str_of_int (PyProof.Rows.shown (N := 2 ^ 1920) (by lia) (by lia) (Int.le_refl _)) (k.same P (.str _ _) _)
theorem cD_split {x y : Str} (hy : (y.length == 0) = false) (hl : x.length ≤ 1000000) : CallD w c env σ (.builtin "str.split") [.d (.str x), .d (.str y)] (.d (.list ((Txt.split x y).map .str))) := fun fx m news t s Q E vs P D k => by
  (first | refine Mine.all2 D fun _ _ u0z u1z => ?_ | refine Mine.dall2 D fun _ _ u0z u1z => ?_)
  (first | refine Mine.inI (show DatIn _ _ _ from u0z) fun _ => ?_ | refine Mine.inS (show DatIn _ _ _ from u0z) fun _ => ?_ | refine Mine.inB (show DatIn _ _ _ from u0z) ?_ | refine Mine.inN (show DatIn _ _ _ from u0z) ?_)
  (first | refine Mine.inI (show DatIn _ _ _ from u1z) fun _ => ?_ | refine Mine.inS (show DatIn _ _ _ from u1z) fun _ => ?_ | refine Mine.inB (show DatIn _ _ _ from u1z) ?_ | refine Mine.inN (show DatIn _ _ _ from u1z) ?_)
  refine split_D P.F P.N hy hl fun R vs h' tk D' F' N' l => ?_
  obtain ⟨PC, UC⟩ := P.one F' N' l
  exact k _ h' tk _ t PC UC (.list (memR _ (.head _)) (DatAll.mono (news := []) (fun _ h => (nomatch h)) D'))
theorem mt_find {x : Str} (t : Tok) (pl : Sem Bool) (s : Shared) (Q : Value × List Value → Shared → Prop) (E : Value → Shared → Prop) (h : Q (.builtin "str.find", [.str x t]) s) : wpAny (theM w) c.A (getMethod (.str x t) (Str.ofString "find") pl) Q E s := GM.find h
theorem mt_join {x : Str} (t : Tok) (pl : Sem Bool) (s : Shared) (Q : Value × List Value → Shared → Prop) (E : Value → Shared → Prop) (h : Q (.builtin "str.join", [.str x t]) s) : wpAny (theM w) c.A (getMethod (.str x t) (Str.ofString "join") pl) Q E s := GM.join h
theorem mt_split {x : Str} (t : Tok) (pl : Sem Bool) (s : Shared) (Q : Value × List Value → Shared → Prop) (E : Value → Shared → Prop) (h : Q (.builtin "str.split", [.str x t]) s) : wpAny (theM w) c.A (getMethod (.str x t) (Str.ofString "split") pl) Q E s := GM.split h
end
end Mine

namespace Mine
/-- a turn of normpath's loop, the path being rooted -/
noncomputable def npStep (cs : List Str) (c : Str) : List Str :=
  if c.length = 0 ∨ c = Str.ofString "." then cs
  else if c ≠ Str.ofString ".." then cs ++ [c]
  else if cs = [] then cs
  else if cs.getLast? = some (Str.ofString "..") then cs ++ [c]
  else cs.dropLast
noncomputable def npFold (ps : List Str) : List Str := ps.foldl npStep []
noncomputable def pNorm (x : Str) : Str := Str.ofString "/" ++ Txt.join (Str.ofString "/") (npFold (Txt.split (Txt.slice x (some 1) none) (Str.ofString "/")))
theorem wt_le_of (cs ps : List Str) : wt (ps.foldl npStep cs) ≤ wt cs + wt ps := by
  induction ps generalizing cs with
  | nil => exact Nat.le_refl _
  | cons p r ih =>
    have h1 := ih (npStep cs p)
    have h2 : wt (npStep cs p) ≤ wt cs + (p.length + 1) := by
      have ha : wt (cs ++ [p]) = wt cs + (p.length + 1) := by simp [wt]; lia
      have hd : wt cs.dropLast ≤ wt cs := by
        rcases List.eq_nil_or_concat cs with rfl | ⟨q, x, rfl⟩
        · exact Nat.le_refl _
        · simp [wt]; lia
      unfold npStep
      repeat' split
      all_goals lia
    have h3 : wt (p :: r) = wt r + (p.length + 1) := by simp [wt]; lia
    show wt (r.foldl npStep (npStep cs p)) ≤ _
    lia
theorem wt_npFold (ps : List Str) : wt (npFold ps) ≤ wt ps := by
  have := wt_le_of [] ps
  show wt (ps.foldl npStep []) ≤ _
  have e : wt [] = 0 := rfl
  lia
theorem wt_take (ps : List Str) (i : Nat) : wt (ps.take i) ≤ wt ps := by
  have e : wt ps = wt (ps.take i) + wt (ps.drop i) := by
    conv => lhs; rw [← List.take_append_drop i ps]
    simp only [wt, List.map_append, List.sum_append, List.length_append]; lia
  lia
theorem len_wt (ps : List Str) : ps.length ≤ wt ps := by unfold wt; lia
end Mine

namespace Mine
noncomputable def stStep (c : List Str × Int) (p : Str) : List Str × Int :=
  if p = Str.ofString ".." then (c.1, c.2 + 1)
  else if p ≠ Str.ofString "" ∧ p ≠ Str.ofString "." then (if c.2 ≠ 0 then (c.1, c.2 - 1) else (c.1 ++ [p], c.2))
  else c
noncomputable def stFold (ps : List Str) : List Str × Int := ps.foldl stStep ([], 0)
noncomputable def pStraight (x : Str) : List Str := (stFold (Txt.split x (Str.ofString "/")).reverse).1.reverse
theorem st_len (ps : List Str) : (stFold ps).1.length ≤ ps.length := by
  have : ∀ (ps : List Str) (c : List Str × Int), (ps.foldl stStep c).1.length ≤ c.1.length + ps.length := by
    intro ps
    induction ps with
    | nil => intro c; exact Nat.le_refl _
    | cons p r ih =>
      intro c
      have h1 := ih (stStep c p)
      have h2 : (stStep c p).1.length ≤ c.1.length + 1 := by
        unfold stStep
        repeat' split
        all_goals (try simp only [List.length_append, List.length_cons, List.length_nil])
        all_goals lia
      rw [List.foldl_cons, List.length_cons]; lia
  have h := this ps ([], 0)
  have e : (([], 0) : List Str × Int).1.length = 0 := rfl
  show (ps.foldl stStep ([], 0)).1.length ≤ _
  lia
end Mine

namespace Mine
/-- a path with one slash at its front -/
noncomputable def Rooted (x : Str) : Prop := x.length ≤ 100000 ∧ (Txt.slice x none (some 1) != Str.ofString "/") = false ∧ (Txt.slice x (some 1) (some 2) != Str.ofString "/") = true ∧ Txt.startswith x (Str.ofString "/") = true
end Mine
namespace Mine
noncomputable abbrev Ent := Int × Int × Int × Str
noncomputable def encE (e : Ent) : Dat := .tuple [.int e.1, .int e.2.1, .int e.2.2.1, .str e.2.2.2]
noncomputable def toldStep (line col : Int) (word : Str) (t : Int × Int × Int) (e : Ent) : Int × Int × Int :=
  if (e.1 < line ∨ (e.1 = line ∧ e.2.2.1 ≤ col)) ∧ (word = Str.ofString "" ∨ e.2.2.2 = word) then (e.1, e.2.1, e.2.2.1) else t
noncomputable def pTold (table : List Ent) (line col : Int) (word : Str) : Int × Int × Int := table.foldl (toldStep line col word) (0, 0, 0)
theorem td1 {line col : Int} {word : Str} {t : Int × Int × Int} {e : Ent} (h : e.1 < line ∨ (e.1 = line ∧ e.2.2.1 ≤ col)) (h2 : (word == Str.ofString "") = true) : toldStep line col word t e = (e.1, e.2.1, e.2.2.1) := if_pos ⟨h, .inl (by simpa using h2)⟩
theorem td2 {line col : Int} {word : Str} {t : Int × Int × Int} {e : Ent} (h : e.1 < line ∨ (e.1 = line ∧ e.2.2.1 ≤ col)) (h2 : (e.2.2.2 == word) = true) : toldStep line col word t e = (e.1, e.2.1, e.2.2.1) := if_pos ⟨h, .inr (by simpa using h2)⟩
theorem td3 {line col : Int} {word : Str} {t : Int × Int × Int} {e : Ent} (h1 : (word == Str.ofString "") = false) (h2 : (e.2.2.2 == word) = false) : toldStep line col word t e = t := if_neg fun q => q.2.elim (fun x => by rw [x] at h1; simp at h1) fun x => by rw [x] at h2; simp at h2
theorem td4 {line col : Int} {word : Str} {t : Int × Int × Int} {e : Ent} (h : ¬ (e.1 < line ∨ (e.1 = line ∧ e.2.2.1 ≤ col))) : toldStep line col word t e = t := if_neg fun q => h q.1
end Mine

namespace Mine
section
variable {w : World} {c : Cx} {env : Env} {σ : Sg} {d : Vl}
theorem ad_nil : ArgsD w c env σ [] (([] : List Dat).map Vl.d) := aD_nil
theorem ad_cons {e : Expr} {es : List Expr} {d : Dat} {ds : List Dat} (h : EvalD w c env σ e (.d d)) (hr : ArgsD w c env σ es (ds.map .d)) (he : starEach (e :: es) env = (false, eval e env) :: starEach es env := by rfl) : ArgsD w c env σ (e :: es) ((d :: ds).map Vl.d) := aD_cons h hr he
theorem upd_ne {x y : Str} {d : Vl} {r : Option Vl} (hn : x ≠ y) (h : σ x = r) : upd σ y d x = r := (if_neg hn).trans h
theorem eD_callG2 {f : Str} {a : Addr} {np pos : Pos} {e : Expr} {es : List Expr} {ds : List Vl} (ok : CxOk w c) (eo : EnvOk env) (hg : nsIn (Mine.top.heap_1 w.params) mainGlobals f = some (some (.ref a))) (hk : keepIn (Mine.top.heap_1 w.params) (.ref a) = true)
    (ha : ArgsD w c env σ (e :: es) ds) (C : CallD w c env σ (.ref a) ds d) (hx : env.kindOf f = some .globalImplicit := by rfl) (hdb : (f == ("__debug__" : Str)) = false := by decide)
    (he : starEach (e :: es) env = (false, eval e env) :: starEach es env := by rfl) (hpl : (backTo pos (starEach es env)).any (·.1) = false := by rfl) : EvalD w c env σ (.Call (.Name f np) (e :: es) [] pos) d := eD_callG ok eo hg hk C ha hx hdb he hpl
theorem eD_callB2 {f : Str} {id : String} {np pos : Pos} {e : Expr} {es : List Expr} {ds : List Vl} (ok : CxOk w c) (eo : EnvOk env) (hg : nsIn (Mine.top.heap_1 w.params) mainGlobals f = some none) (hv : bootBuiltins f = some (.builtin id))
    (ha : ArgsD w c env σ (e :: es) ds) (C : CallD w c env σ (.builtin id) ds d) (hn : f ≠ "__name__" := by decide) (hb : env.builtins = builtinsNs := by rfl) (hx : env.kindOf f = some .globalImplicit := by rfl) (hdb : (f == ("__debug__" : Str)) = false := by decide)
    (he : starEach (e :: es) env = (false, eval e env) :: starEach es env := by rfl) (hpl : (backTo pos (starEach es env)).any (·.1) = false := by rfl) : EvalD w c env σ (.Call (.Name f np) (e :: es) [] pos) d := eD_callB ok eo hg hv C ha hn hb hx hdb he hpl
theorem eD_callT2 {f : Str} {T : String} {np pos : Pos} {e : Expr} {es : List Expr} {ds : List Vl} (ok : CxOk w c) (eo : EnvOk env) (hg : nsIn (Mine.top.heap_1 w.params) mainGlobals f = some none) (hv : bootBuiltins f = some (.type T))
    (ha : ArgsD w c env σ (e :: es) ds) (C : CallD w c env σ (.type T) ds d) (hn : f ≠ "__name__" := by decide) (hb : env.builtins = builtinsNs := by rfl) (hx : env.kindOf f = some .globalImplicit := by rfl) (hdb : (f == ("__debug__" : Str)) = false := by decide)
    (he : starEach (e :: es) env = (false, eval e env) :: starEach es env := by rfl) (hpl : (backTo pos (starEach es env)).any (·.1) = false := by rfl) : EvalD w c env σ (.Call (.Name f np) (e :: es) [] pos) d := eD_callT ok eo hg hv C ha hn hb hx hdb he hpl
theorem eD_meth2 {o : Expr} {name : Str} {id : String} {ap pos : Pos} {e : Expr} {es : List Expr} {x : Str} {ds : List Vl} (h : EvalD w c env σ o (.d (.str x)))
    (hm : ∀ (t : Tok) (pl : Sem Bool) (s : Shared) (Q : Value × List Value → Shared → Prop) (E : Value → Shared → Prop), Q (.builtin id, [.str x t]) s → wpAny (theM w) c.A (getMethod (.str x t) name pl) Q E s)
    (ha : ArgsD w c env σ (e :: es) ds) (C : CallD w c env σ (.builtin id) (.d (.str x) :: ds) d)
    {pl : Sem Bool} (hev : eval (.Call (.Attribute o name ap) (e :: es) [] pos) env = (do
      let ov ← eval o env
      standAt ap.atName
      let (f, first) ← holding [ov] (getMethod ov name pl)
      callWith pos f first (backTo pos (starEach (e :: es) env)) []) := by rfl)
    (he : starEach (e :: es) env = (false, eval e env) :: starEach es env := by rfl) (hpl : (backTo pos (starEach es env)).any (·.1) = false := by rfl) : EvalD w c env σ (.Call (.Attribute o name ap) (e :: es) [] pos) d := eD_meth h hm C ha hev he hpl
end
theorem gB_len (w : World) : nsIn (Mine.top.heap_1 w.params) mainGlobals (Str.ofString "len") = some none := by
  have hfill := Mine.fillT w
  revert hfill
  k_fill
  intro hfill
  clear hfill
  change _ = _
  k_is
theorem gB_range (w : World) : nsIn (Mine.top.heap_1 w.params) mainGlobals (Str.ofString "range") = some none := by
  have hfill := Mine.fillT w
  revert hfill
  k_fill
  intro hfill
  clear hfill
  change _ = _
  k_is
theorem gB_abs (w : World) : nsIn (Mine.top.heap_1 w.params) mainGlobals (Str.ofString "abs") = some none := by
  have hfill := Mine.fillT w
  revert hfill
  k_fill
  intro hfill
  clear hfill
  change _ = _
  k_is
theorem gB_max (w : World) : nsIn (Mine.top.heap_1 w.params) mainGlobals (Str.ofString "max") = some none := by
  have hfill := Mine.fillT w
  revert hfill
  k_fill
  intro hfill
  clear hfill
  change _ = _
  k_is
theorem gB_min (w : World) : nsIn (Mine.top.heap_1 w.params) mainGlobals (Str.ofString "min") = some none := by
  have hfill := Mine.fillT w
  revert hfill
  k_fill
  intro hfill
  clear hfill
  change _ = _
  k_is
theorem gB_str (w : World) : nsIn (Mine.top.heap_1 w.params) mainGlobals (Str.ofString "str") = some none := by
  have hfill := Mine.fillT w
  revert hfill
  k_fill
  intro hfill
  clear hfill
  change _ = _
  k_is
theorem gB_map (w : World) : nsIn (Mine.top.heap_1 w.params) mainGlobals (Str.ofString "map") = some none := by
  have hfill := Mine.fillT w
  revert hfill
  k_fill
  intro hfill
  clear hfill
  change _ = _
  k_is
theorem gB_tuple (w : World) : nsIn (Mine.top.heap_1 w.params) mainGlobals (Str.ofString "tuple") = some none := by
  have hfill := Mine.fillT w
  revert hfill
  k_fill
  intro hfill
  clear hfill
  change _ = _
  k_is
theorem gB_enumerate (w : World) : nsIn (Mine.top.heap_1 w.params) mainGlobals (Str.ofString "enumerate") = some none := by
  have hfill := Mine.fillT w
  revert hfill
  k_fill
  intro hfill
  clear hfill
  change _ = _
  k_is
theorem gB_isinstance (w : World) : nsIn (Mine.top.heap_1 w.params) mainGlobals (Str.ofString "isinstance") = some none := by
  have hfill := Mine.fillT w
  revert hfill
  k_fill
  intro hfill
  clear hfill
  change _ = _
  k_is
theorem gF_fspath (w : World) : nsIn (Mine.top.heap_1 w.params) mainGlobals (Str.ofString "fspath") = some (some (.ref 108)) := by
  have hfill := Mine.fillT w
  revert hfill
  k_fill
  intro hfill
  clear hfill
  change _ = _
  k_is
theorem gK_fspath (w : World) : keepIn (Mine.top.heap_1 w.params) (.ref 108) = true := by
  have hfill := Mine.fillT w
  revert hfill
  k_fill
  intro hfill
  clear hfill
  change _ = _
  k_is
theorem gF_commonprefix (w : World) : nsIn (Mine.top.heap_1 w.params) mainGlobals (Str.ofString "commonprefix") = some (some (.ref 115)) := by
  have hfill := Mine.fillT w
  revert hfill
  k_fill
  intro hfill
  clear hfill
  change _ = _
  k_is
theorem gK_commonprefix (w : World) : keepIn (Mine.top.heap_1 w.params) (.ref 115) = true := by
  have hfill := Mine.fillT w
  revert hfill
  k_fill
  intro hfill
  clear hfill
  change _ = _
  k_is
theorem gF_join (w : World) : nsIn (Mine.top.heap_1 w.params) mainGlobals (Str.ofString "join") = some (some (.ref 136)) := by
  have hfill := Mine.fillT w
  revert hfill
  k_fill
  intro hfill
  clear hfill
  change _ = _
  k_is
theorem gK_join (w : World) : keepIn (Mine.top.heap_1 w.params) (.ref 136) = true := by
  have hfill := Mine.fillT w
  revert hfill
  k_fill
  intro hfill
  clear hfill
  change _ = _
  k_is
theorem gF_split (w : World) : nsIn (Mine.top.heap_1 w.params) mainGlobals (Str.ofString "split") = some (some (.ref 143)) := by
  have hfill := Mine.fillT w
  revert hfill
  k_fill
  intro hfill
  clear hfill
  change _ = _
  k_is
theorem gK_split (w : World) : keepIn (Mine.top.heap_1 w.params) (.ref 143) = true := by
  have hfill := Mine.fillT w
  revert hfill
  k_fill
  intro hfill
  clear hfill
  change _ = _
  k_is
theorem gF_basename (w : World) : nsIn (Mine.top.heap_1 w.params) mainGlobals (Str.ofString "basename") = some (some (.ref 157)) := by
  have hfill := Mine.fillT w
  revert hfill
  k_fill
  intro hfill
  clear hfill
  change _ = _
  k_is
theorem gK_basename (w : World) : keepIn (Mine.top.heap_1 w.params) (.ref 157) = true := by
  have hfill := Mine.fillT w
  revert hfill
  k_fill
  intro hfill
  clear hfill
  change _ = _
  k_is
theorem gF_dirname (w : World) : nsIn (Mine.top.heap_1 w.params) mainGlobals (Str.ofString "dirname") = some (some (.ref 164)) := by
  have hfill := Mine.fillT w
  revert hfill
  k_fill
  intro hfill
  clear hfill
  change _ = _
  k_is
theorem gK_dirname (w : World) : keepIn (Mine.top.heap_1 w.params) (.ref 164) = true := by
  have hfill := Mine.fillT w
  revert hfill
  k_fill
  intro hfill
  clear hfill
  change _ = _
  k_is
theorem gF_normpath (w : World) : nsIn (Mine.top.heap_1 w.params) mainGlobals (Str.ofString "normpath") = some (some (.ref 171)) := by
  have hfill := Mine.fillT w
  revert hfill
  k_fill
  intro hfill
  clear hfill
  change _ = _
  k_is
theorem gK_normpath (w : World) : keepIn (Mine.top.heap_1 w.params) (.ref 171) = true := by
  have hfill := Mine.fillT w
  revert hfill
  k_fill
  intro hfill
  clear hfill
  change _ = _
  k_is
theorem gF_abspath (w : World) : nsIn (Mine.top.heap_1 w.params) mainGlobals (Str.ofString "abspath") = some (some (.ref 178)) := by
  have hfill := Mine.fillT w
  revert hfill
  k_fill
  intro hfill
  clear hfill
  change _ = _
  k_is
theorem gK_abspath (w : World) : keepIn (Mine.top.heap_1 w.params) (.ref 178) = true := by
  have hfill := Mine.fillT w
  revert hfill
  k_fill
  intro hfill
  clear hfill
  change _ = _
  k_is
theorem gF_relpath (w : World) : nsIn (Mine.top.heap_1 w.params) mainGlobals (Str.ofString "relpath") = some (some (.ref 186)) := by
  have hfill := Mine.fillT w
  revert hfill
  k_fill
  intro hfill
  clear hfill
  change _ = _
  k_is
theorem gK_relpath (w : World) : keepIn (Mine.top.heap_1 w.params) (.ref 186) = true := by
  have hfill := Mine.fillT w
  revert hfill
  k_fill
  intro hfill
  clear hfill
  change _ = _
  k_is
theorem gF_commonpath (w : World) : nsIn (Mine.top.heap_1 w.params) mainGlobals (Str.ofString "commonpath") = some (some (.ref 191)) := by
  have hfill := Mine.fillT w
  revert hfill
  k_fill
  intro hfill
  clear hfill
  change _ = _
  k_is
theorem gK_commonpath (w : World) : keepIn (Mine.top.heap_1 w.params) (.ref 191) = true := by
  have hfill := Mine.fillT w
  revert hfill
  k_fill
  intro hfill
  clear hfill
  change _ = _
  k_is
theorem gF_law_drawn (w : World) : nsIn (Mine.top.heap_1 w.params) mainGlobals (Str.ofString "_law_drawn") = some (some (.ref 196)) := by
  have hfill := Mine.fillT w
  revert hfill
  k_fill
  intro hfill
  clear hfill
  change _ = _
  k_is
theorem gK_law_drawn (w : World) : keepIn (Mine.top.heap_1 w.params) (.ref 196) = true := by
  have hfill := Mine.fillT w
  revert hfill
  k_fill
  intro hfill
  clear hfill
  change _ = _
  k_is
theorem gF_law_straight (w : World) : nsIn (Mine.top.heap_1 w.params) mainGlobals (Str.ofString "_law_straight") = some (some (.ref 203)) := by
  have hfill := Mine.fillT w
  revert hfill
  k_fill
  intro hfill
  clear hfill
  change _ = _
  k_is
theorem gK_law_straight (w : World) : keepIn (Mine.top.heap_1 w.params) (.ref 203) = true := by
  have hfill := Mine.fillT w
  revert hfill
  k_fill
  intro hfill
  clear hfill
  change _ = _
  k_is
theorem gF_law_table (w : World) : nsIn (Mine.top.heap_1 w.params) mainGlobals (Str.ofString "_law_table") = some (some (.ref 210)) := by
  have hfill := Mine.fillT w
  revert hfill
  k_fill
  intro hfill
  clear hfill
  change _ = _
  k_is
theorem gK_law_table (w : World) : keepIn (Mine.top.heap_1 w.params) (.ref 210) = true := by
  have hfill := Mine.fillT w
  revert hfill
  k_fill
  intro hfill
  clear hfill
  change _ = _
  k_is
theorem gF_law_told (w : World) : nsIn (Mine.top.heap_1 w.params) mainGlobals (Str.ofString "_law_told") = some (some (.ref 217)) := by
  have hfill := Mine.fillT w
  revert hfill
  k_fill
  intro hfill
  clear hfill
  change _ = _
  k_is
theorem gK_law_told (w : World) : keepIn (Mine.top.heap_1 w.params) (.ref 217) = true := by
  have hfill := Mine.fillT w
  revert hfill
  k_fill
  intro hfill
  clear hfill
  change _ = _
  k_is
theorem gF_law_hit (w : World) : nsIn (Mine.top.heap_1 w.params) mainGlobals (Str.ofString "_law_hit") = some (some (.ref 224)) := by
  have hfill := Mine.fillT w
  revert hfill
  k_fill
  intro hfill
  clear hfill
  change _ = _
  k_is
theorem gK_law_hit (w : World) : keepIn (Mine.top.heap_1 w.params) (.ref 224) = true := by
  have hfill := Mine.fillT w
  revert hfill
  k_fill
  intro hfill
  clear hfill
  change _ = _
  k_is
theorem gF_law_program (w : World) : nsIn (Mine.top.heap_1 w.params) mainGlobals (Str.ofString "_law_program") = some (some (.ref 231)) := by
  have hfill := Mine.fillT w
  revert hfill
  k_fill
  intro hfill
  clear hfill
  change _ = _
  k_is
theorem gK_law_program (w : World) : keepIn (Mine.top.heap_1 w.params) (.ref 231) = true := by
  have hfill := Mine.fillT w
  revert hfill
  k_fill
  intro hfill
  clear hfill
  change _ = _
  k_is
theorem gF_law_back (w : World) : nsIn (Mine.top.heap_1 w.params) mainGlobals (Str.ofString "_law_back") = some (some (.ref 238)) := by
  have hfill := Mine.fillT w
  revert hfill
  k_fill
  intro hfill
  clear hfill
  change _ = _
  k_is
theorem gK_law_back (w : World) : keepIn (Mine.top.heap_1 w.params) (.ref 238) = true := by
  have hfill := Mine.fillT w
  revert hfill
  k_fill
  intro hfill
  clear hfill
  change _ = _
  k_is
theorem gF_law_agrees (w : World) : nsIn (Mine.top.heap_1 w.params) mainGlobals (Str.ofString "_law_agrees") = some (some (.ref 245)) := by
  have hfill := Mine.fillT w
  revert hfill
  k_fill
  intro hfill
  clear hfill
  change _ = _
  k_is
theorem gK_law_agrees (w : World) : keepIn (Mine.top.heap_1 w.params) (.ref 245) = true := by
  have hfill := Mine.fillT w
  revert hfill
  k_fill
  intro hfill
  clear hfill
  change _ = _
  k_is
theorem gF_law_taken_up (w : World) : nsIn (Mine.top.heap_1 w.params) mainGlobals (Str.ofString "_law_taken_up") = some (some (.ref 252)) := by
  have hfill := Mine.fillT w
  revert hfill
  k_fill
  intro hfill
  clear hfill
  change _ = _
  k_is
theorem gK_law_taken_up (w : World) : keepIn (Mine.top.heap_1 w.params) (.ref 252) = true := by
  have hfill := Mine.fillT w
  revert hfill
  k_fill
  intro hfill
  clear hfill
  change _ = _
  k_is
theorem gF_law_pair (w : World) : nsIn (Mine.top.heap_1 w.params) mainGlobals (Str.ofString "_law_pair") = some (some (.ref 257)) := by
  have hfill := Mine.fillT w
  revert hfill
  k_fill
  intro hfill
  clear hfill
  change _ = _
  k_is
theorem gK_law_pair (w : World) : keepIn (Mine.top.heap_1 w.params) (.ref 257) = true := by
  have hfill := Mine.fillT w
  revert hfill
  k_fill
  intro hfill
  clear hfill
  change _ = _
  k_is
theorem gF_search_reverse (w : World) : nsIn (Mine.top.heap_1 w.params) mainGlobals (Str.ofString "search_reverse") = some (some (.ref 28)) := by
  have hfill := Mine.fillT w
  revert hfill
  k_fill
  intro hfill
  clear hfill
  change _ = _
  k_is
theorem gK_search_reverse (w : World) : keepIn (Mine.top.heap_1 w.params) (.ref 28) = true := by
  have hfill := Mine.fillT w
  revert hfill
  k_fill
  intro hfill
  clear hfill
  change _ = _
  k_is
theorem gF_get_line_col (w : World) : nsIn (Mine.top.heap_1 w.params) mainGlobals (Str.ofString "get_line_col") = some (some (.ref 35)) := by
  have hfill := Mine.fillT w
  revert hfill
  k_fill
  intro hfill
  clear hfill
  change _ = _
  k_is
theorem gK_get_line_col (w : World) : keepIn (Mine.top.heap_1 w.params) (.ref 35) = true := by
  have hfill := Mine.fillT w
  revert hfill
  k_fill
  intro hfill
  clear hfill
  change _ = _
  k_is
end Mine
local macro_rules | `(tactic| walk_at "mEBOUND") => `(tactic| first | with_reducible assumption | omega | decide | exact Nat.le_of_ble_eq_true rfl)
local macro_rules | `(tactic| walk_at "mELK") => `(tactic| first | with_reducible assumption | with_reducible exact Mine.upd_self | (with_reducible refine Mine.upd_ne ?_ ?_; (decide +kernel); walk_at "mELK") | exact Mine.upd_self)
local macro_rules | `(tactic| walk_at "mEGET") => `(tactic| first | with_reducible assumption | rfl)
local macro_rules | `(tactic| walk_at "mEATOM") => `(tactic| first | with_reducible assumption | exact List.all_eq_true.mp rfl)
namespace Mine
section
variable {w : World} {c : Cx} {σ σ' : Sg} {mu mu' : Mu} {K : Out → Prop} {rest : List Stmt}
/-- the statements run to an end of which K holds -/
noncomputable def Does (w : World) (c : Cx) (σ : Sg) (mu : Mu) (sts : List Stmt) (K : Out → Prop) : Prop := ∃ o, ExecsD w c σ mu sts o ∧ K o
noncomputable abbrev Nx (R : Sg → Mu → Prop) : Out → Prop := fun o => ∃ σ' mu', o = .next σ' mu' ∧ R σ' mu'
noncomputable abbrev Rt (r : Vl) : Out → Prop := fun o => o = .ret r
noncomputable abbrev After (w : World) (c : Cx) (rest : List Stmt) (K : Out → Prop) : Out → Prop
  | .next σ' mu' => Does w c σ' mu' rest K
  | o => K o
theorem Does.body {sts : List Stmt} {r : Vl} (h : Does w c σ mu sts (Rt r)) : ExecsD w c σ mu sts (.ret r) := by
  obtain ⟨o, h, rfl⟩ := h; exact h
theorem d_nil (h : K (.next σ mu)) : Does w c σ mu [] K := ⟨_, xD_nil, h⟩
theorem d_cons {st : Stmt} (h : ExecD w c σ mu st (.next σ' mu')) (hr : Does w c σ' mu' rest K) : Does w c σ mu (st :: rest) K := by
  obtain ⟨o, ho, hk⟩ := hr; exact ⟨o, xD_cons h ho, hk⟩
theorem d_ret {st : Stmt} {r : Vl} (h : ExecD w c σ mu st (.ret r)) (hk : K (.ret r)) : Does w c σ mu (st :: rest) K := ⟨_, xD_ret h, hk⟩
theorem d_brk {pos : Pos} (hk : K (.brk σ mu)) : Does w c σ mu (.Break pos :: rest) K :=
  ⟨_, xD_brk (σ' := σ) (mu' := mu) (fun ex n₀ tl s Q E I k => by
    have e : exec (.Break pos) c.env = (do standAt pos; pure .brk) := rfl
    rw [e]
    exact wpAny_bind (wpAny_standAt (wpAny_pure (k .brk s.heap s.toks [] ⟨rfl, by rw [List.append_nil]; exact I⟩)))), hk⟩
theorem d_if {t1 : Expr} {b e : List Stmt} {pos : Pos} {bb : Bool} (ok : CxOk w c) (h : TestX w c σ mu t1 bb) (h1 : bb = true → Does w c σ mu b (After w c rest K)) (h2 : bb = false → Does w c σ mu e (After w c rest K)) : Does w c σ mu (.If t1 b e pos :: rest) K := by
  have main : ∀ (o : Out), ExecD w c σ mu (.If t1 b e pos) o → After w c rest K o → Does w c σ mu (.If t1 b e pos :: rest) K := by
    intro o hx hk
    cases o with
    | next σ' mu' => exact d_cons hx hk
    | cont σ' mu' => exact ⟨_, xD_cont hx, hk⟩
    | brk σ' mu' => exact ⟨_, xD_brk hx, hk⟩
    | ret r => exact ⟨_, xD_ret hx, hk⟩
  cases bb with
  | true =>
    obtain ⟨o, ho, hk⟩ := h1 rfl
    exact main o (xD_ifX ok h (fun _ => ho) (fun q => (nomatch q))) hk
  | false =>
    obtain ⟨o, ho, hk⟩ := h2 rfl
    exact main o (xD_ifX ok h (fun q => (nomatch q)) (fun _ => ho)) hk
theorem d_loop {x : Str} {body : List Stmt} (Inv : Nat → Sg → Mu → Prop) (hmu : ∀ i σ mu, Inv i σ mu → MuNe mu x) : ∀ (ds : List Vl) (k : Nat) (σ : Sg) (mu : Mu), Inv k σ mu →
    (∀ i d σ mu, ds[i]? = some d → Inv (k + i) σ mu → Does w c (upd σ x d) mu body (Nx (Inv (k + i + 1)))) → ∃ σ' mu', LoopD w c x body ds σ mu (.next σ' mu') ∧ Inv (k + ds.length) σ' mu' := by
  intro ds
  induction ds with
  | nil => intro k σ mu h _; exact ⟨σ, mu, .nil, h⟩
  | cons d r ih =>
    intro k σ mu h step
    obtain ⟨o, hb, σ', mu', rfl, h'⟩ := step 0 d σ mu rfl h
    obtain ⟨σ'', mu'', hL, hI⟩ := ih (k + 1) σ' mu' h' fun i d σ mu hi hI => by
      have := step (i + 1) d σ mu hi (by rw [show k + (i + 1) = k + 1 + i by lia]; exact hI)
      rw [show k + 1 + i + 1 = k + (i + 1) + 1 by lia]; exact this
    exact ⟨σ'', mu'', .next (hmu _ _ _ h) hb hL, by rw [List.length_cons, show k + (r.length + 1) = k + 1 + r.length by lia]; exact hI⟩
theorem d_for {x : Str} {iter : Expr} {body : List Stmt} {xp pos : Pos} {ds : List Dat} (Inv : Nat → Sg → Mu → Prop) (ok : CxOk w c) (h : EvalD w c c.env σ iter (.d (.list ds))) (h0 : Inv 0 σ mu) (hmu : ∀ i σ mu, Inv i σ mu → MuNe mu x)
    (step : ∀ i d σ mu, ds[i]? = some d → Inv i σ mu → Does w c (upd σ x (.d d)) mu body (Nx (Inv (i + 1)))) (hr : ∀ σ' mu', Inv ds.length σ' mu' → Does w c σ' mu' rest K)
    (hx : c.env.kindOf x = some .local := by rfl) (hd1 : (x == ("__debug__" : Str)) = false := by decide) (hd2 : (x == ("__classdict__" : Str)) = false := by decide) (hs : ∀ x, foldedSetIterable iter c.env x = pure x := by intro _; rfl) : Does w c σ mu (.For (.Name x xp) iter body [] pos :: rest) K := by
  obtain ⟨σ', mu', hL, hI⟩ := d_loop (w := w) (c := c) (body := body) Inv hmu (ds.map .d) 0 σ mu h0 fun i d σ mu hi hI => by
    rw [List.getElem?_map] at hi
    obtain ⟨d', h1, rfl⟩ := Option.map_eq_some_iff.mp hi
    rw [Nat.zero_add] at hI ⊢
    exact step i d' σ mu h1 hI
  rw [Nat.zero_add, List.length_map] at hI
  exact d_cons (xD_for ok h hL hx hd1 hd2 hs) (hr σ' mu' hI)
theorem d_forR {x : Str} {iter : Expr} {body : List Stmt} {xp pos : Pos} {a b : Int} (Inv : Nat → Sg → Mu → Prop) (ok : CxOk w c) (h : EvalD w c c.env σ iter (.rng a b)) (hab : a ≤ b) (hz : b - a ≤ 1000000) (ha0 : -1000000 ≤ a) (ha1 : a ≤ 1000000) (h0 : Inv 0 σ mu) (hmu : ∀ i σ mu, Inv i σ mu → MuNe mu x)
    (step : ∀ (i : Nat) σ mu, (i : Int) < b - a → Inv i σ mu → Does w c (upd σ x (.d (.int (a + i)))) mu body (Nx (Inv (i + 1)))) (hr : ∀ σ' mu', Inv (b - a).toNat σ' mu' → Does w c σ' mu' rest K)
    (hx : c.env.kindOf x = some .local := by rfl) (hd1 : (x == ("__debug__" : Str)) = false := by decide) (hd2 : (x == ("__classdict__" : Str)) = false := by decide) (hs : ∀ x, foldedSetIterable iter c.env x = pure x := by intro _; rfl) : Does w c σ mu (.For (.Name x xp) iter body [] pos :: rest) K := by
  obtain ⟨σ', mu', hL, hI⟩ := d_loop (w := w) (c := c) (body := body) Inv hmu (rngL a b) 0 σ mu h0 fun i d σ mu hi hI => by
    unfold rngL rangeKs at hi
    rw [List.getElem?_map, List.getElem?_map] at hi
    rw [Nat.zero_add] at hI ⊢
    by_cases hlt : i < (b - a).toNat
    · rw [List.getElem?_range hlt] at hi
      simp only [Option.map_some, Option.some.injEq] at hi
      rw [← hi]
      exact step i σ mu (by lia) hI
    · rw [List.getElem?_eq_none (by simpa using hlt)] at hi
      cases hi
  rw [Nat.zero_add] at hI
  unfold rngL at hI
  rw [List.length_map, rangeKs_length] at hI
  exact d_cons (xD_forR ok h hL hab hz ha0 ha1 hx hd1 hd2 hs) (hr σ' mu' hI)
theorem d_while {test : Expr} {body : List Stmt} {pos : Pos} (Inv : Nat → Sg → Mu → Prop) (ok : CxOk w c)
    (step : ∀ n σ mu, Inv n σ mu → ∃ b, TestX w c σ mu test b ∧ (b = false → Does w c σ mu rest K) ∧ (b = true → Does w c σ mu body (fun o => (∃ σ' mu' k, k < n ∧ o = .next σ' mu' ∧ Inv k σ' mu') ∨ (∃ σ' mu', o = .brk σ' mu' ∧ Does w c σ' mu' rest K))))
    (n : Nat) (h : Inv n σ mu) : Does w c σ mu (.While test body [] pos :: rest) K := by
  have main : ∀ (n : Nat) (σ : Sg) (mu : Mu), Inv n σ mu → ∃ σ' mu', WhileD w c test body σ mu (.next σ' mu') ∧ Does w c σ' mu' rest K := by
    intro n
    induction n using Nat.strongRecOn with
    | ind n ih =>
      intro σ mu h
      obtain ⟨b, hT, hf, ht⟩ := step n σ mu h
      cases b with
      | false => exact ⟨σ, mu, .stop hT, hf rfl⟩
      | true =>
        obtain ⟨o, hb, hK⟩ := ht rfl
        rcases hK with ⟨σ', mu', k, hk, rfl, hI⟩ | ⟨σ', mu', rfl, hD⟩
        · obtain ⟨σ'', mu'', hW, hD⟩ := ih k hk σ' mu' hI
          exact ⟨σ'', mu'', .next hT hb hW, hD⟩
        · exact ⟨σ', mu', .brk hT hb, hD⟩
  obtain ⟨σ', mu', hW, hD⟩ := main n σ mu h
  exact d_cons (xD_while ok hW) hD
theorem envOk {c : Cx} (k : c.cs.kind = .function) : EnvOk c.env := ⟨rfl, k⟩
theorem testX {e : Expr} {b : Bool} (h : TestD w c c.env σ e b) : TestX w c σ mu e b := .inl h
theorem MuNe.none {x : Str} : MuNe none x := fun _ _ h => nomatch h
theorem MuNe.of {x y : Str} {ds : List Dat} (h : y ≠ x) : MuNe (some (y, ds)) x := fun _ _ e => by cases e; exact h
end
end Mine

namespace Mine
open LCg LCt
section
variable {w : World} {c : Cx} {env : Env} {σ σc : Sg} {d : Vl} {fx news : Lg} {m : Str → Option Value} {t : Tb}
/-- what a block sees of the names around it -/
noncomputable def Caps (env : Env) (scope : Scope) (cl : List (Str × Addr)) (σ σc : Sg) : Prop :=
  ∀ y e, σc y = some e → σ y = some e ∧ (env.kindOf y = some .cell ∨ env.kindOf y = some .free) ∧ ((compEnvC scope cl 0 env).kindOf y = some .cell ∨ (compEnvC scope cl 0 env).kindOf y = some .free) ∧ cl.lookup y = env.cells.lookup y ∧ (y == ("__debug__" : Str)) = false ∧ (y == ("__classdict__" : Str)) = false
theorem Caps.none {scope : Scope} {cl : List (Str × Addr)} : Caps env scope cl σ (fun _ => none) := fun _ _ h => nomatch h
theorem rho_comp {h : Heap} {scope : Scope} {cl : List (Str × Addr)} {C : Addr} {oC : Obj} {m₂ : Str → Option Value} {fx' news' : Lg} {v : Value} {x : Str} (rho : RhoIn w c env fx m news σ) (hcap : Caps env scope cl σ σc) (hkind : scope.kind = .function) (hx : scope.names.lookup x = some .local) (hd : (x == ("__debug__" : Str)) = false)
    (hv : VIn w news' v d) (hC : NsObj oC m₂) (hm2 : m₂ x = some v) (hmC : (C, oC) ∈ fx') (hf : ∀ p ∈ fx, p ∈ fx') (hn : ∀ p ∈ news, p ∈ news') : RhoIn w c (compEnvC scope cl C env) fx' m news' (upd σc x d) := by
  have hxl : (compEnvC scope cl C env).kindOf x = some .local := lookup_relabel_local hx
  have hk : (compEnvC scope cl C env).scope.kind = .function := hkind
  intro y e hy
  unfold upd at hy
  by_cases hyx : y = x
  · subst hyx
    rw [if_pos rfl] at hy
    cases hy
    refine ⟨v, fun pos s Q E F N q => LCgL.ld_own N hmC hC hm2 q hk hxl hd, hv, fun hcf => ?_⟩
    rw [hxl] at hcf; rcases hcf with h | h <;> cases h
  · rw [if_neg hyx] at hy
    obtain ⟨h1, h2, h3, h4, h5, h6⟩ := hcap y e hy
    obtain ⟨v', _, hv', hz⟩ := rho y e h1
    obtain ⟨a, o, z1, z2, z3⟩ := hz h2
    refine ⟨v', fun pos s Q E F N q => ?_, hv'.mono hn, fun _ => ⟨a, o, by rw [← z1]; exact h4, hf _ z2, z3⟩⟩
    rcases h3 with h3 | h3
    · exact lcf_cell N (h4.trans z1) (hf _ z2) z3 q hk h3 h5
    · exact lcf_free N (h4.trans z1) (hf _ z2) z3 q hk h3 h5 h6
theorem comp_core {α : Type} {f : α → Vl} {g : α → Dat} {xs : List α} {elt : Expr} {x : Str} {scope : Scope} {cl : List (Str × Addr)} {s : Shared} {S : Lg → Prop} {Pp : Nat → Value → Prop} {Fin : List Value → Lg → Prop}
    (hi : Hi (fx ++ news)) (rho : RhoIn w c env fx m news σ) (hcap : Caps env scope cl σ σc) (hkind : scope.kind = .function) (hx : scope.names.lookup x = some .local) (hd : (x == ("__debug__" : Str)) = false)
    (hP : ∀ i v a, Pp i v → xs[i]? = some a → VIn w news v (f a)) (hS : ∀ tlk t', S (tabL t' ++ (fx ++ (news ++ tlk))))
    (hE : ∀ C a, a ∈ xs → EvalD w c (compEnvC scope cl C env) (upd σc x (f a)) elt (.d (g a)))
    (hFin : ∀ ys tlk t', Up (fx ++ news) tlk → TabOk (news ++ tlk) t' → DatAll (news ++ tlk) ys (xs.map g) → Fin ys (tabL t' ++ (fx ++ (news ++ tlk)))) :
    ∀ (rest : List α) (i : Nat) (ys : List Value) (tlk : Lg) (t' : Tb), xs.drop i = rest → Up (fx ++ news) tlk → TabOk (news ++ tlk) t' → DatAll (news ++ tlk) ys ((xs.take i).map g) →
      CompRest PySem.Challenge.rw_in0110_01.row.prog w c.A c.h₀ c.L m env elt x scope cl s S Pp Fin rest.length i ys (tabL t' ++ (fx ++ (news ++ tlk))) := by
  intro rest
  induction rest with
  | nil =>
    intro i ys tlk t' hr U T D
    have : xs.take i = xs := List.take_of_length_le (List.drop_eq_nil_iff.mp hr)
    rw [this] at D
    exact hFin ys tlk t' U T D
  | cons a r ih =>
    intro i ys tlk t' hr U T D
    have hai : xs[i]? = some a := by
      have := congrArg (·[0]?) hr
      simpa using this
    have hdr : xs.drop (i + 1) = r := by rw [← List.drop_drop, hr]; rfl
    intro v I oI C oC D' m₂ h tk E' hp hC hm2 F N off hne
    have o3 := off.mem
    have hi' : Hi ((fx ++ [(I, oI), (C, oC), (D', lst ys)]) ++ (news ++ tlk)) := fun p hp => by
      have z1 := o3 (219, tabObj t'.1) (memL _ (.head _))
      have z2 := o3 (226, tabObj t'.2) (memL _ (.tail _ (.head _)))
      rcases List.mem_append.mp hp with hp | hp
      · rcases List.mem_append.mp hp with hp | hp
        · exact hi p (memL p hp)
        · simp only [List.mem_cons, List.not_mem_nil, or_false] at hp
          rcases hp with rfl | rfl | rfl
          · exact ⟨Ne.symm z1.1, Ne.symm z2.1⟩
          · exact ⟨Ne.symm z1.2.1, Ne.symm z2.2.1⟩
          · exact ⟨Ne.symm z1.2.2, Ne.symm z2.2.2⟩
      · rcases List.mem_append.mp hp with hp | hp
        · exact hi p (memR p hp)
        · exact U.2 p hp
    have P' : Pre w c (compEnvC scope cl C env) (fx ++ [(I, oI), (C, oC), (D', lst ys)]) m (news ++ tlk) t' (upd σc x (f a)) h :=
      ⟨F, fun p hp => N p (by exact Mine.viaSub hp (by walk_at "mSUB")), T, hi',
        rho_comp (h := h) rho hcap hkind hx hd ((hP i v a hp hai).mono memL) hC hm2 (memR _ (.tail _ (.head _))) memL memL⟩
    refine hE C a (List.mem_of_getElem? hai) _ _ _ _ _ _ _ P' fun v' h' tk' tl t'' P'' U'' hv' => ?_
    refine ⟨h', tk', tabL t'' ++ (fx ++ (news ++ (tlk ++ tl))), rfl, P''.F, fun p hp => P''.N p (by exact Mine.viaSub hp (by walk_at "mSUB")), Off3.of fun p hp => ?_, hS _ _, ?_⟩
    · have e1 := hi' (I, oI) (memL _ (memR _ (.head _)))
      have e2 := hi' (C, oC) (memL _ (memR _ (.tail _ (.head _))))
      have e3 := hi' (D', lst ys) (memL _ (memR _ (.tail _ (.tail _ (.head _)))))
      rcases List.mem_append.mp hp with hp | hp
      · rcases List.mem_cons.mp hp with rfl | hp
        · exact ⟨Ne.symm e1.1, Ne.symm e2.1, Ne.symm e3.1⟩
        · rw [List.mem_singleton.mp hp]
          exact ⟨Ne.symm e1.2, Ne.symm e2.2, Ne.symm e3.2⟩
      · rcases List.mem_append.mp hp with hp | hp
        · exact o3 p (memR p (memL p hp))
        · rcases List.mem_append.mp hp with hp | hp
          · exact o3 p (memR p (memR p (memL p hp)))
          · rcases List.mem_append.mp hp with hp | hp
            · exact o3 p (memR p (memR p (memR p hp)))
            · exact ⟨Ne.symm (U''.1 (I, oI) (memL _ (memR _ (.head _))) p hp), Ne.symm (U''.1 (C, oC) (memL _ (memR _ (.tail _ (.head _)))) p hp), Ne.symm (U''.1 (D', lst ys) (memL _ (memR _ (.tail _ (.tail _ (.head _))))) p hp)⟩
    · refine ih (i + 1) (ys ++ [v']) (tlk ++ tl) t'' hdr (U.cat (U''.sub fun p hp => ?_)) ?_ ?_
      · rcases List.mem_append.mp hp with hp | hp
        · exact memL p (memL p hp)
        · exact memR p (memL p hp)
      · rw [← List.append_assoc]; exact P''.tab
      · rw [take_get' hai, List.map_append, ← List.append_assoc]
        exact (D.mono memL).append (.one hv')
where
  take_get' {α : Type} {l : List α} {i : Nat} {a : α} (h : l[i]? = some a) : l.take (i + 1) = l.take i ++ [a] := by
    rw [List.take_add_one, h]; rfl

/-- what the list of a block is told at its end -/
theorem comp_end {ys : List Value} {tlk : Lg} {t' : Tb} {h : Heap} {D' : Addr} {zs : List Dat} {m' : Str → Option Value} (hi : Hi (fx ++ news)) (F : Fr c.h₀ c.L h m') (N : News c.h₀ c.L h ((D', lst ys) :: (tabL t' ++ (fx ++ (news ++ tlk))))) (off : Off1 D' (tabL t' ++ (fx ++ (news ++ tlk)))) (U : Up (fx ++ news) tlk) (T : TabOk (news ++ tlk) t') (D : DatAll (news ++ tlk) ys zs) :
    News c.h₀ c.L h (tabL t' ++ (fx ++ (news ++ (tlk ++ [(D', lst ys)])))) ∧ TabOk (news ++ (tlk ++ [(D', lst ys)])) t' ∧ Up (fx ++ news) (tlk ++ [(D', lst ys)]) ∧ VIn w (news ++ (tlk ++ [(D', lst ys)])) (.ref D') (.d (.list zs)) := by
  have off1 : ∀ p ∈ tabL t' ++ (fx ++ (news ++ tlk)), neq p.1 D' := by
    have key : ∀ l : Lg, Off1 D' l → ∀ p ∈ l, neq p.1 D' := by
      intro l
      induction l with
      | nil => intro _ p h; cases h
      | cons q r ih =>
        intro h p hp
        rcases List.mem_cons.mp hp with rfl | hp
        · exact h.1
        · exact ih h.2 p hp
    exact key _ off
  have sub : ∀ p ∈ news ++ tlk, p ∈ news ++ (tlk ++ [(D', lst ys)]) := fun p hp => by exact Mine.viaSub hp (by walk_at "mSUB")
  refine ⟨fun p hp => N p (by exact Mine.viaSub hp (by walk_at "mSUB")), T.mono sub, U.cat ⟨fun q hq p hp => ?_, fun p hp => ?_⟩, .list (memR _ (memR _ (.head _))) (D.mono sub)⟩
  · rw [List.mem_singleton.mp hp]
    refine off1 q ?_
    rcases List.mem_append.mp hq with hq | hq
    · exact memR q (memL q hq)
    · exact memR q (memR q (memL q hq))
  · rw [List.mem_singleton.mp hp]
    exact ⟨Ne.symm (off1 (219, tabObj t'.1) (memL _ (.head _))), Ne.symm (off1 (226, tabObj t'.2) (memL _ (.tail _ (.head _))))⟩
theorem A_handled {c : Cx} : c.A.handled = none := rfl
structure CompOk (env : Env) (scope : Scope) (cl : List (Str × Addr)) (x : Str) : Prop where
  clos : closureFor scope env = pure cl
  cell : ∀ y ∈ scope.names, y.2 ≠ .cell
  kind : scope.kind = .function
  names : ∀ y ∈ scope.names, y.2 = .local → scope.names.lookup y.1 = some .local
  hx : scope.names.lookup x = some .local
  hd : (x == ("__debug__" : Str)) = false
/-- what a block walks over -/
inductive IterOf : {α : Type} → Vl → List α → (α → Vl) → Prop
  | list {α : Type} {xs : List α} (f : α → Dat) : IterOf (.d (.list (xs.map f))) xs (fun a => .d (f a))
  | rng (n : Nat) : IterOf (.rng 0 n) (List.range n) (fun k => .d (.int k))
theorem src_U {α : Type} {f : α → Vl} {g : α → Dat} {xs : List α} {dv : Vl} {elt : Expr} {x : Str} {scope : Scope} {cl : List (Str × Addr)} {s : Shared} {v1 : Value} {Fin : Shared → List Value → Lg → Prop} (it : IterOf dv xs f) (hl : xs.length ≤ 1000000) (K : CompOk env scope cl x) (hcap : Caps env scope cl σ σc)
    (P1 : Pre w c env fx m news t σ s.heap) (hv1 : VIn w news v1 dv) (hE : ∀ C a, a ∈ xs → EvalD w c (compEnvC scope cl C env) (upd σc x (f a)) elt (.d (g a)))
    (hFin : ∀ gh ys tlk t', Up (fx ++ news) tlk → TabOk (news ++ tlk) t' → DatAll (news ++ tlk) ys (xs.map g) → Fin { s with heap := gh } ys (tabL t' ++ (fx ++ (news ++ tlk)))) :
    CompSrc PySem.Challenge.rw_in0110_01.row.prog w c.A c.h₀ c.L m env elt x scope cl Fin v1 s := by
  cases it with
  | list f =>
    refine Mine.inL (show DatIn _ _ _ from hv1) fun _ _ _ hml hvl => ?_
    rename_i ax vs nn
    have hlen := hvl.length
    rw [List.length_map] at hlen
    refine CompSrc.ledger A_handled P1.F P1.N (memR _ (memR _ hml)) (by rw [sizeLine_eq, List.size_toArray]; lia) fun gh => ?_
    rw [List.size_toArray, hlen]
    have key := comp_core (w := w) (c := c) (g := g) (elt := elt) (s := { s with heap := gh }) (S := SrcAt c.h₀ ax vs.toArray) (Pp := fun i v => vs.toArray[i]? = some v) (Fin := Fin { s with heap := gh }) (f := fun a => Vl.d (f a)) P1.hi P1.rho hcap K.kind K.hx K.hd ?_ ?_ hE (hFin gh) xs 0 [] [] t (List.drop_zero ..) Up.nil (by rw [List.append_nil]; exact P1.tab) .nil
    · rw [List.append_nil] at key; exact key
    · intro i v a hp ha
      rw [List.getElem?_toArray] at hp
      obtain ⟨hi, e⟩ := List.getElem?_eq_some_iff.mp hp
      obtain ⟨v', hv', hD⟩ := hvl.get (k := i) (by rw [List.length_map, ← hlen]; exact hi)
      rw [hv'] at hp
      cases hp
      have : (xs.map f)[i]'(by rw [List.length_map, ← hlen]; exact hi) = f a := by
        rw [List.getElem_map]
        congr 1
        exact (List.getElem?_eq_some_iff.mp ha).2
      rw [this] at hD
      exact hD
    · intro tlk t'
      exact .inr ⟨_, memR _ (memR _ (memL _ hml)), rfl, _, rfl⟩
  | rng n =>
    obtain ⟨r1, t1, u1, k1, rfl, hm⟩ := hv1
    rw [List.length_range] at hl
    have hr : IsRange s.heap r1 0 n 1 t1 u1 k1 := (P1.N _ (memR _ (memR _ hm))).1
    refine CompSrc.range A_handled P1.F P1.N hr (small_one (by lia) (by lia) (by lia) (by lia)) (n := n) ?_ (by rw [sizeLine_eq]; lia) fun gh => ?_
    · rw [rangeSize_one]; split <;> lia
    · have key := comp_core (w := w) (c := c) (g := g) (elt := elt) (s := { s with heap := gh }) (S := fun _ => True) (Pp := fun i v => ∃ t, v = .int (0 + (i : Int)) t) (Fin := Fin { s with heap := gh }) (f := fun k : Nat => Vl.d (.int k)) P1.hi P1.rho hcap K.kind K.hx K.hd ?_ (fun _ _ => trivial) hE (hFin gh) (List.range n) 0 [] [] t (List.drop_zero ..) Up.nil (by rw [List.append_nil]; exact P1.tab) .nil
      · rw [List.append_nil, List.length_range] at key; exact key
      · rintro i v a ⟨tt, rfl⟩ ha
        obtain ⟨hi, e⟩ := List.getElem?_eq_some_iff.mp ha
        rw [List.getElem_range] at e
        rw [← e, Int.zero_add]
        exact .int _ _
theorem eD_comp {α : Type} {f : α → Vl} {g : α → Dat} {xs : List α} {dv : Vl} {elt iter : Expr} {x : Str} {px pos : Pos} {scope : Scope} {cl : List (Str × Addr)} (K : CompOk env scope cl x) (hcap : Caps env scope cl σ σc) (hiter : EvalD w c env σ iter dv) (it : IterOf dv xs f) (hl : xs.length ≤ 1000000)
    (hE : ∀ C a, a ∈ xs → EvalD w c (compEnvC scope cl C env) (upd σc x (f a)) elt (.d (g a))) (hs : ∀ x, foldedSetIterable iter env x = pure x := by intro _; rfl) : EvalD w c env σ (.ListComp elt [⟨.Name x px, iter, [], 0⟩] scope pos) (.d (.list (xs.map g))) := fun fx m news t s Q E P k => by
  refine ListComp_U P.F K.clos K.cell K.kind K.names K.hx (hiter.run P fun v1 h1 tk1 tl1 t1 P1 U1 hv1 => ?_) hs
  refine src_U (s := { s with heap := h1, toks := tk1 }) it hl K hcap P1 hv1 hE fun gh ys tlk t' U T D D' h tk F N off => ?_
  obtain ⟨a1, a2, a3, a4⟩ := comp_end P1.hi F N off U T D
  exact (k.after U1) _ h tk _ t' (P1.grow F a1 a2 a3) a3 a4
end
section
variable {w : World} {c : Cx} {σ σc : Sg} {mu : Mu}
/-- a name is given a block's list -/
theorem xD_assignComp {α : Type} {f : α → Vl} {g : α → Dat} {xs : List α} {dv : Vl} {elt iter : Expr} {x y : Str} {px py pos spos : Pos} {scope : Scope} {cl : List (Str × Addr)} (ok : CxOk w c) (K : CompOk c.env scope cl x) (hcap : Caps c.env scope cl σ σc) (hiter : EvalD w c c.env σ iter dv) (it : IterOf dv xs f) (hl : xs.length ≤ 1000000)
    (hE : ∀ C a, a ∈ xs → EvalD w c (compEnvC scope cl C c.env) (upd σc x (f a)) elt (.d (g a))) (hy : c.env.kindOf y = some .local := by rfl) (hmu : ∀ z ds, mu = some (z, ds) → z ≠ y := by intro _ _ h; cases h)
    (hd : (y == ("__debug__" : Str)) = false := by decide) (hd2 : (y == ("__classdict__" : Str)) = false := by decide) (hsw : swapsWith (.ListComp elt [⟨.Name x px, iter, [], 0⟩] scope pos) (some (.Name y py)) spos.line c.env = pure true := by rfl)
    (hs : ∀ x, foldedSetIterable iter c.env x = pure x := by intro _; rfl) : ExecD w c σ mu (.Assign [.Name y py] (.ListComp elt [⟨.Name x px, iter, [], 0⟩] scope pos) spos) (.next (upd σ y (.d (.list (xs.map g)))) mu) := fun ex n₀ tl s Q E I k => by
  obtain ⟨m, fx, t, I⟩ := I
  have P := I.pre ok
  refine Assign_ListComp_U P.F rfl hsw K.clos K.cell K.kind K.names K.hx hy (by rw [show c.env.scope.kind = .function from ok.k]; rfl) (hiter.run P fun v1 h1 tk1 tl1 t1 P1 U1 hv1 => ?_) hs
  refine src_U (s := { s with heap := h1, toks := tk1 }) it hl K hcap P1 hv1 hE fun gh ys tlk t' U T D D' h tk F N off => ?_
  have I1 := I.after P1 U1
  obtain ⟨a1, a2, a3, a4⟩ := comp_end P1.hi F N off U T D
  have e : n₀ ++ tl ++ tl1 ++ (tlk ++ [(D', lst ys)]) = n₀ ++ (tl ++ (tl1 ++ (tlk ++ [(D', lst ys)]))) := by simp only [List.append_assoc]
  rw [e] at a1 a2 a4
  -- the state ahead of the store, at the new ledger
  have e3 : Up ((fx ++ ex) ++ (n₀ ++ (tl ++ tl1))) (tlk ++ [(D', lst ys)]) := by rw [← List.append_assoc n₀]; exact a3
  have I2 : InAt w c ex n₀ (tl ++ (tl1 ++ (tlk ++ [(D', lst ys)]))) (upd σ y (.d (.list (xs.map g)))) mu h (fun z => if z = y then some (.ref D') else m z) fx t' := by
    refine ⟨F, a1, a2, fun p hp => ?_, fun z q hq => ?_, fun q hq p hp => ?_, fun q hq p hp => ?_, I.dex, I.nd, I.cells, fun z ds hm => ?_⟩
    · rcases List.mem_append.mp hp with hp | hp
      · exact I1.hi p (memL p hp)
      · rw [← List.append_assoc, ← List.append_assoc, List.append_assoc n₀] at hp
        rcases List.mem_append.mp hp with hp | hp
        · exact I1.hi p (memR p hp)
        · exact e3.2 p hp
    · unfold upd at hq
      by_cases hzy : z = y
      · subst hzy
        rw [if_pos rfl] at hq
        cases hq
        exact ⟨hd, hd2, .ref D', a4, .inl ⟨hy, if_pos rfl⟩⟩
      · rw [if_neg hzy] at hq
        obtain ⟨h1, h2, v', hv', hs⟩ := I.rho z q hq
        refine ⟨h1, h2, v', hv'.mono (fun p hp => by exact Mine.viaSub hp (by walk_at "mSUB")), hs.imp (fun ⟨a, b⟩ => ⟨a, ?_⟩) id⟩
        show (if z = y then _ else _) = _
        rw [if_neg hzy]; exact b
    · rw [← List.append_assoc] at hp
      rcases List.mem_append.mp hp with hp | hp
      · exact I1.dis q hq p hp
      · refine e3.1 q ?_ p hp
        rcases List.mem_append.mp hq with hq | hq
        · exact memL q (memR q hq)
        · exact memR q (memL q hq)
    · rw [← List.append_assoc, ← List.append_assoc, List.append_assoc n₀] at hq
      rcases List.mem_append.mp hq with hq | hq
      · exact I1.dif q hq p hp
      · exact Ne.symm (e3.1 p (memL p (memL p hp)) q hq)
    · obtain ⟨a, vs, n, h1, h2, h3, h4⟩ := I.mutl z ds hm
      exact ⟨a, vs, n, h1, by rw [if_neg (hmu z ds hm)]; exact h2, h3, h4.mono memL⟩
  exact k .next h tk (tl1 ++ (tlk ++ [(D', lst ys)])) ⟨rfl, _, _, _, I2⟩
end
end Mine

namespace Mine
open LCg LCt
theorem take_get {α : Type} {l : List α} {i : Nat} {a : α} (h : l[i]? = some a) : l.take (i + 1) = l.take i ++ [a] := by
  rw [List.take_add_one, h]; rfl
section
variable {w : World} {c : Cx} {env : Env} {σ σc : Sg} {d : Vl} {fx news : Lg} {m : Str → Option Value} {t : Tb}
theorem comp_coreT {α : Type} {f : α → Vl} {g : α → Dat} {p : α → Bool} {xs : List α} {ct elt : Expr} {x : Str} {scope : Scope} {cl : List (Str × Addr)} {s : Shared} {S : Lg → Prop} {Pp : Nat → Value → Prop} {Fin : List Value → Lg → Prop}
    (hi : Hi (fx ++ news)) (rho : RhoIn w c env fx m news σ) (hcap : Caps env scope cl σ σc) (hkind : scope.kind = .function) (hx : scope.names.lookup x = some .local) (hd : (x == ("__debug__" : Str)) = false)
    (hP : ∀ i v a, Pp i v → xs[i]? = some a → VIn w news v (f a)) (hS : ∀ tlk t', S (tabL t' ++ (fx ++ (news ++ tlk))))
    (hT : ∀ C a, a ∈ xs → TestD w c (compEnvC scope cl C env) (upd σc x (f a)) ct (p a))
    (hE : ∀ C a, a ∈ xs → p a = true → EvalD w c (compEnvC scope cl C env) (upd σc x (f a)) elt (.d (g a)))
    (hFin : ∀ ys tlk t', Up (fx ++ news) tlk → TabOk (news ++ tlk) t' → DatAll (news ++ tlk) ys ((xs.filter p).map g) → Fin ys (tabL t' ++ (fx ++ (news ++ tlk)))) :
    ∀ (rest : List α) (i : Nat) (ys : List Value) (tlk : Lg) (t' : Tb), xs.drop i = rest → Up (fx ++ news) tlk → TabOk (news ++ tlk) t' → DatAll (news ++ tlk) ys (((xs.take i).filter p).map g) →
      CompRestT PySem.Challenge.rw_in0110_01.row.prog w c.A c.h₀ c.L m env ct elt x scope cl s S Pp Fin rest.length i ys (tabL t' ++ (fx ++ (news ++ tlk))) := by
  intro rest
  induction rest with
  | nil =>
    intro i ys tlk t' hr U T D
    have : xs.take i = xs := List.take_of_length_le (List.drop_eq_nil_iff.mp hr)
    rw [this] at D
    exact hFin ys tlk t' U T D
  | cons a r ih =>
    intro i ys tlk t' hr U T D
    have hai : xs[i]? = some a := by
      have := congrArg (·[0]?) hr
      simpa using this
    have hdr : xs.drop (i + 1) = r := by rw [← List.drop_drop, hr]; rfl
    intro v I oI C oC D' m₂ h tk E' hp hC hm2 F N off hne
    have o3 := off.mem
    have hi' : Hi ((fx ++ [(I, oI), (C, oC), (D', lst ys)]) ++ (news ++ tlk)) := fun p hp => by
      have z1 := o3 (219, tabObj t'.1) (memL _ (.head _))
      have z2 := o3 (226, tabObj t'.2) (memL _ (.tail _ (.head _)))
      rcases List.mem_append.mp hp with hp | hp
      · rcases List.mem_append.mp hp with hp | hp
        · exact hi p (memL p hp)
        · simp only [List.mem_cons, List.not_mem_nil, or_false] at hp
          rcases hp with rfl | rfl | rfl
          · exact ⟨Ne.symm z1.1, Ne.symm z2.1⟩
          · exact ⟨Ne.symm z1.2.1, Ne.symm z2.2.1⟩
          · exact ⟨Ne.symm z1.2.2, Ne.symm z2.2.2⟩
      · rcases List.mem_append.mp hp with hp | hp
        · exact hi p (memR p hp)
        · exact U.2 p hp
    have P' : Pre w c (compEnvC scope cl C env) (fx ++ [(I, oI), (C, oC), (D', lst ys)]) m (news ++ tlk) t' (upd σc x (f a)) h :=
      ⟨F, fun p hp => N p (by exact Mine.viaSub hp (by walk_at "mSUB")), T, hi',
        rho_comp (h := h) rho hcap hkind hx hd ((hP i v a hp hai).mono memL) hC hm2 (memR _ (.tail _ (.head _))) memL memL⟩
    have offs : ∀ (tl : Lg) (t'' : Tb), Up ((fx ++ [(I, oI), (C, oC), (D', lst ys)]) ++ (news ++ tlk)) tl → Off3 I C D' (tabL t'' ++ (fx ++ (news ++ (tlk ++ tl)))) := fun tl t'' U'' => Off3.of fun p hp => by
      have e1 := hi' (I, oI) (memL _ (memR _ (.head _)))
      have e2 := hi' (C, oC) (memL _ (memR _ (.tail _ (.head _))))
      have e3 := hi' (D', lst ys) (memL _ (memR _ (.tail _ (.tail _ (.head _)))))
      rcases List.mem_append.mp hp with hp | hp
      · rcases List.mem_cons.mp hp with rfl | hp
        · exact ⟨Ne.symm e1.1, Ne.symm e2.1, Ne.symm e3.1⟩
        · rw [List.mem_singleton.mp hp]
          exact ⟨Ne.symm e1.2, Ne.symm e2.2, Ne.symm e3.2⟩
      · rcases List.mem_append.mp hp with hp | hp
        · exact o3 p (memR p (memL p hp))
        · rcases List.mem_append.mp hp with hp | hp
          · exact o3 p (memR p (memR p (memL p hp)))
          · rcases List.mem_append.mp hp with hp | hp
            · exact o3 p (memR p (memR p (memR p hp)))
            · exact ⟨Ne.symm (U''.1 (I, oI) (memL _ (memR _ (.head _))) p hp), Ne.symm (U''.1 (C, oC) (memL _ (memR _ (.tail _ (.head _)))) p hp), Ne.symm (U''.1 (D', lst ys) (memL _ (memR _ (.tail _ (.tail _ (.head _))))) p hp)⟩
    refine hT C a (List.mem_of_getElem? hai) _ _ _ _ _ _ _ P' fun h1 tk1 tl1 t1 P1 U1 => ?_
    have UU1 : Up (fx ++ news) (tlk ++ tl1) := U.cat (U1.sub fun p hp => by
      rcases List.mem_append.mp hp with hp | hp
      · exact memL p (memL p hp)
      · exact memR p (memL p hp))
    by_cases hpa : p a = true
    · rw [if_pos hpa]
      refine hE C a (List.mem_of_getElem? hai) hpa _ _ _ _ _ _ _ P1 fun v' h' tk' tl t'' P'' U'' hv' => ?_
      have U2 : Up ((fx ++ [(I, oI), (C, oC), (D', lst ys)]) ++ (news ++ tlk)) (tl1 ++ tl) := U1.cat (U''.sub fun p hp => by
        rcases List.mem_append.mp hp with hp | hp
        · exact memL p hp
        · exact memR p (memL p hp))
      refine ⟨h', tk', tabL t'' ++ (fx ++ (news ++ (tlk ++ (tl1 ++ tl)))), rfl, P''.F, fun p hp => P''.N p (by exact Mine.viaSub hp (by walk_at "mSUB")), offs _ _ U2, hS _ _, ?_⟩
      refine ih (i + 1) (ys ++ [v']) (tlk ++ (tl1 ++ tl)) t'' hdr (U.cat (U2.sub fun p hp => ?_)) ?_ ?_
      · rcases List.mem_append.mp hp with hp | hp
        · exact memL p (memL p hp)
        · exact memR p (memL p hp)
      · have := P''.tab
        rw [List.append_assoc, List.append_assoc] at this; rw [← List.append_assoc, ← List.append_assoc, List.append_assoc, List.append_assoc]; exact this
      · rw [take_get hai, List.filter_append, List.filter_cons_of_pos hpa, List.filter_nil, List.map_append]
        rw [List.append_assoc, List.append_assoc] at hv'
        exact (D.mono (fun p hp => by exact Mine.viaSub hp (by walk_at "mSUB"))).append (.one hv')
    · rw [if_neg hpa]
      refine ⟨h1, tk1, tabL t1 ++ (fx ++ (news ++ (tlk ++ tl1))), rfl, P1.F, fun p hp => P1.N p (by exact Mine.viaSub hp (by walk_at "mSUB")), offs _ _ U1, hS _ _, ?_⟩
      refine ih (i + 1) ys (tlk ++ tl1) t1 hdr UU1 ?_ ?_
      · rw [← List.append_assoc]; exact P1.tab
      · rw [take_get hai, List.filter_append, List.filter_cons_of_neg hpa, List.filter_nil, List.append_nil]
        exact D.mono (fun p hp => by exact Mine.viaSub hp (by walk_at "mSUB"))
theorem src_T {α : Type} {f : α → Vl} {g : α → Dat} {p : α → Bool} {xs : List α} {dv : Vl} {ct elt : Expr} {x : Str} {scope : Scope} {cl : List (Str × Addr)} {s : Shared} {v1 : Value} {Fin : Shared → List Value → Lg → Prop} (it : IterOf dv xs f) (hl : xs.length ≤ 1000000) (K : CompOk env scope cl x) (hcap : Caps env scope cl σ σc)
    (P1 : Pre w c env fx m news t σ s.heap) (hv1 : VIn w news v1 dv) (hT : ∀ C a, a ∈ xs → TestD w c (compEnvC scope cl C env) (upd σc x (f a)) ct (p a)) (hE : ∀ C a, a ∈ xs → p a = true → EvalD w c (compEnvC scope cl C env) (upd σc x (f a)) elt (.d (g a)))
    (hFin : ∀ gh ys tlk t', Up (fx ++ news) tlk → TabOk (news ++ tlk) t' → DatAll (news ++ tlk) ys ((xs.filter p).map g) → Fin { s with heap := gh } ys (tabL t' ++ (fx ++ (news ++ tlk)))) :
    CompSrcT PySem.Challenge.rw_in0110_01.row.prog w c.A c.h₀ c.L m env ct elt x scope cl Fin v1 s := by
  cases it with
  | list f =>
    refine Mine.inL (show DatIn _ _ _ from hv1) fun _ _ _ hml hvl => ?_
    rename_i ax vs nn
    have hlen := hvl.length
    rw [List.length_map] at hlen
    refine CompSrcT.ledger A_handled P1.F P1.N (memR _ (memR _ hml)) (by rw [sizeLine_eq, List.size_toArray]; lia) fun gh => ?_
    rw [List.size_toArray, hlen]
    have key := comp_coreT (w := w) (c := c) (g := g) (ct := ct) (elt := elt) (p := p) (s := { s with heap := gh }) (S := SrcAt c.h₀ ax vs.toArray) (Pp := fun i v => vs.toArray[i]? = some v) (Fin := Fin { s with heap := gh }) (f := fun a => Vl.d (f a)) P1.hi P1.rho hcap K.kind K.hx K.hd ?_ ?_ hT hE (hFin gh) xs 0 [] [] t (List.drop_zero ..) Up.nil (by rw [List.append_nil]; exact P1.tab) .nil
    · rw [List.append_nil] at key; exact key
    · intro i v a hp ha
      rw [List.getElem?_toArray] at hp
      obtain ⟨hi, e⟩ := List.getElem?_eq_some_iff.mp hp
      obtain ⟨v', hv', hD⟩ := hvl.get (k := i) (by rw [List.length_map, ← hlen]; exact hi)
      rw [hv'] at hp
      cases hp
      have : (xs.map f)[i]'(by rw [List.length_map, ← hlen]; exact hi) = f a := by
        rw [List.getElem_map]
        congr 1
        exact (List.getElem?_eq_some_iff.mp ha).2
      rw [this] at hD
      exact hD
    · intro tlk t'
      exact .inr ⟨_, memR _ (memR _ (memL _ hml)), rfl, _, rfl⟩
  | rng n =>
    obtain ⟨r1, t1, u1, k1, rfl, hm⟩ := hv1
    rw [List.length_range] at hl
    have hr : IsRange s.heap r1 0 n 1 t1 u1 k1 := (P1.N _ (memR _ (memR _ hm))).1
    refine CompSrcT.range A_handled P1.F P1.N hr (small_one (by lia) (by lia) (by lia) (by lia)) (n := n) ?_ (by rw [sizeLine_eq]; lia) fun gh => ?_
    · rw [rangeSize_one]; split <;> lia
    · have key := comp_coreT (w := w) (c := c) (g := g) (ct := ct) (elt := elt) (p := p) (s := { s with heap := gh }) (S := fun _ => True) (Pp := fun i v => ∃ t, v = .int (0 + (i : Int)) t) (Fin := Fin { s with heap := gh }) (f := fun k : Nat => Vl.d (.int k)) P1.hi P1.rho hcap K.kind K.hx K.hd ?_ (fun _ _ => trivial) hT hE (hFin gh) (List.range n) 0 [] [] t (List.drop_zero ..) Up.nil (by rw [List.append_nil]; exact P1.tab) .nil
      · rw [List.append_nil, List.length_range] at key; exact key
      · rintro i v a ⟨tt, rfl⟩ ha
        obtain ⟨hi, e⟩ := List.getElem?_eq_some_iff.mp ha
        rw [List.getElem_range] at e
        rw [← e, Int.zero_add]
        exact .int _ _
theorem eD_compT {α : Type} {f : α → Vl} {g : α → Dat} {p : α → Bool} {xs : List α} {dv : Vl} {ct elt iter : Expr} {x : Str} {px pos : Pos} {scope : Scope} {cl : List (Str × Addr)} (K : CompOk env scope cl x) (hcap : Caps env scope cl σ σc) (hiter : EvalD w c env σ iter dv) (it : IterOf dv xs f) (hl : xs.length ≤ 1000000)
    (hT : ∀ C a, a ∈ xs → TestD w c (compEnvC scope cl C env) (upd σc x (f a)) ct (p a)) (hE : ∀ C a, a ∈ xs → p a = true → EvalD w c (compEnvC scope cl C env) (upd σc x (f a)) elt (.d (g a))) (hs : ∀ x, foldedSetIterable iter env x = pure x := by intro _; rfl) : EvalD w c env σ (.ListComp elt [⟨.Name x px, iter, [ct], 0⟩] scope pos) (.d (.list ((xs.filter p).map g))) := fun fx m news t s Q E P k => by
  refine ListComp_T P.F K.clos K.cell K.kind K.names K.hx (hiter.run P fun v1 h1 tk1 tl1 t1 P1 U1 hv1 => ?_) hs
  refine src_T (s := { s with heap := h1, toks := tk1 }) it hl K hcap P1 hv1 hT hE fun gh ys tlk t' U T D D' h tk F N off => ?_
  obtain ⟨a1, a2, a3, a4⟩ := comp_end P1.hi F N off U T D
  exact (k.after U1) _ h tk _ t' (P1.grow F a1 a2 a3) a3 a4
end
section
variable {w : World} {c : Cx} {σ σc : Sg} {mu : Mu}
/-- a name is given a block's list -/
theorem xD_assignCompT {α : Type} {f : α → Vl} {g : α → Dat} {p : α → Bool} {xs : List α} {dv : Vl} {ct elt iter : Expr} {x y : Str} {px py pos spos : Pos} {scope : Scope} {cl : List (Str × Addr)} (ok : CxOk w c) (K : CompOk c.env scope cl x) (hcap : Caps c.env scope cl σ σc) (hiter : EvalD w c c.env σ iter dv) (it : IterOf dv xs f) (hl : xs.length ≤ 1000000)
    (hT : ∀ C a, a ∈ xs → TestD w c (compEnvC scope cl C c.env) (upd σc x (f a)) ct (p a)) (hE : ∀ C a, a ∈ xs → p a = true → EvalD w c (compEnvC scope cl C c.env) (upd σc x (f a)) elt (.d (g a))) (hy : c.env.kindOf y = some .local := by rfl) (hmu : ∀ z ds, mu = some (z, ds) → z ≠ y := by intro _ _ h; cases h)
    (hd : (y == ("__debug__" : Str)) = false := by decide) (hd2 : (y == ("__classdict__" : Str)) = false := by decide) (hsw : swapsWith (.ListComp elt [⟨.Name x px, iter, [ct], 0⟩] scope pos) (some (.Name y py)) spos.line c.env = pure true := by rfl)
    (hs : ∀ x, foldedSetIterable iter c.env x = pure x := by intro _; rfl) : ExecD w c σ mu (.Assign [.Name y py] (.ListComp elt [⟨.Name x px, iter, [ct], 0⟩] scope pos) spos) (.next (upd σ y (.d (.list ((xs.filter p).map g)))) mu) := fun ex n₀ tl s Q E I k => by
  obtain ⟨m, fx, t, I⟩ := I
  have P := I.pre ok
  refine Assign_ListComp_T P.F rfl hsw K.clos K.cell K.kind K.names K.hx hy (by rw [show c.env.scope.kind = .function from ok.k]; rfl) (hiter.run P fun v1 h1 tk1 tl1 t1 P1 U1 hv1 => ?_) hs
  refine src_T (s := { s with heap := h1, toks := tk1 }) it hl K hcap P1 hv1 hT hE fun gh ys tlk t' U T D D' h tk F N off => ?_
  have I1 := I.after P1 U1
  obtain ⟨a1, a2, a3, a4⟩ := comp_end P1.hi F N off U T D
  have e : n₀ ++ tl ++ tl1 ++ (tlk ++ [(D', lst ys)]) = n₀ ++ (tl ++ (tl1 ++ (tlk ++ [(D', lst ys)]))) := by simp only [List.append_assoc]
  rw [e] at a1 a2 a4
  -- the state ahead of the store, at the new ledger
  have e3 : Up ((fx ++ ex) ++ (n₀ ++ (tl ++ tl1))) (tlk ++ [(D', lst ys)]) := by rw [← List.append_assoc n₀]; exact a3
  have I2 : InAt w c ex n₀ (tl ++ (tl1 ++ (tlk ++ [(D', lst ys)]))) (upd σ y (.d (.list ((xs.filter p).map g)))) mu h (fun z => if z = y then some (.ref D') else m z) fx t' := by
    refine ⟨F, a1, a2, fun p hp => ?_, fun z q hq => ?_, fun q hq p hp => ?_, fun q hq p hp => ?_, I.dex, I.nd, I.cells, fun z ds hm => ?_⟩
    · rcases List.mem_append.mp hp with hp | hp
      · exact I1.hi p (memL p hp)
      · rw [← List.append_assoc, ← List.append_assoc, List.append_assoc n₀] at hp
        rcases List.mem_append.mp hp with hp | hp
        · exact I1.hi p (memR p hp)
        · exact e3.2 p hp
    · unfold upd at hq
      by_cases hzy : z = y
      · subst hzy
        rw [if_pos rfl] at hq
        cases hq
        exact ⟨hd, hd2, .ref D', a4, .inl ⟨hy, if_pos rfl⟩⟩
      · rw [if_neg hzy] at hq
        obtain ⟨h1, h2, v', hv', hs⟩ := I.rho z q hq
        refine ⟨h1, h2, v', hv'.mono (fun p hp => by exact Mine.viaSub hp (by walk_at "mSUB")), hs.imp (fun ⟨a, b⟩ => ⟨a, ?_⟩) id⟩
        show (if z = y then _ else _) = _
        rw [if_neg hzy]; exact b
    · rw [← List.append_assoc] at hp
      rcases List.mem_append.mp hp with hp | hp
      · exact I1.dis q hq p hp
      · refine e3.1 q ?_ p hp
        rcases List.mem_append.mp hq with hq | hq
        · exact memL q (memR q hq)
        · exact memR q (memL q hq)
    · rw [← List.append_assoc, ← List.append_assoc, List.append_assoc n₀] at hq
      rcases List.mem_append.mp hq with hq | hq
      · exact I1.dif q hq p hp
      · exact Ne.symm (e3.1 p (memL p (memL p hp)) q hq)
    · obtain ⟨a, vs, n, h1, h2, h3, h4⟩ := I.mutl z ds hm
      exact ⟨a, vs, n, h1, by rw [if_neg (hmu z ds hm)]; exact h2, h3, h4.mono memL⟩
  exact k .next h tk (tl1 ++ (tlk ++ [(D', lst ys)])) ⟨rfl, _, _, _, I2⟩
end
end Mine

namespace Mine
theorem EnvOk.comp {env : Env} {scope : Scope} {cl : List (Str × Addr)} {C : Addr} (eo : EnvOk env) (hk : scope.kind = .function := by rfl) : EnvOk (compEnvC scope cl C env) := ⟨eo.g, hk⟩
end Mine
local macro_rules | `(tactic| walk_at "mEOK") => `(tactic| first | with_reducible assumption | (refine Mine.EnvOk.comp ?_; walk_at "mEOK"))
local macro_rules | `(tactic| walk_at "mROOM") => `(tactic| exact Mine.Rm.le (by assumption) (by decide))
namespace Mine
noncomputable def Goes (word x : Str) : Prop := ∀ b i j, pSearch word x b = some (i, j) → ∃ i' j' : Nat, i = i' ∧ j = j' ∧ b ≤ i' ∧ i' < j' ∧ j' ≤ x.length
theorem noBool_fn : typeLookup (.type "function") (Str.ofString "__bool__") = pure none := by rw [typeLookup_type, builtinLookup_eq_fast]; kernel_rfl
theorem noLen_fn : typeLookup (.type "function") (Str.ofString "__len__") = pure none := by rw [typeLookup_type, builtinLookup_eq_fast]; kernel_rfl
section
variable {w : World} {c : Cx} {env : Env} {σ : Sg} {d : Vl}
theorem truthy_fn {prog : Program} {A : Around} {f : Addr} {s : Shared} {Q : Bool → Shared → Prop} {E : Value → Shared → Prop} (hT : s.TypeIs (.ref f) "function") (h : Q true s) : wpAny (model prog w) A (truthy (.ref f)) Q E s := by
  unfold truthy
  first
    | refine wpAny_bind (wpAny_callSpecial?_none (name := Str.ofString "__bool__") hT noBool_fn ?_)
    | refine wpAny_bind (wpAny_pure (wpAny_bind (wpAny_callSpecial?_none (name := Str.ofString "__bool__") hT noBool_fn ?_)))
  first
    | refine wpAny_bind (wpAny_specialOf (name := Str.ofString "__len__") hT noLen_fn ?_)
    | refine wpAny_bind (wpAny_pure (wpAny_bind (wpAny_specialOf (name := Str.ofString "__len__") hT noLen_fn ?_)))
  exact wpAny_pure h
theorem OwnFn.obj {n : Lg} {v : Value} {x : Str} {g : Addr} (h : OwnFn n v x g) : ∃ f o, v = .ref f ∧ (f, o) ∈ n ∧ o.cls = .type "function" := let ⟨f, d, fd, sl, h1, tk, e, a, _⟩ := h; ⟨f, _, e, a, rfl⟩
theorem trH {i j : Int} : TruthD w c env σ (.hit i j) true := fun fx m news t s Q E v P D k => by
  obtain ⟨g, ho, _⟩ := (show HitIn w news v i j from D)
  obtain ⟨f, o, rfl, hm, hc⟩ := ho.obj
  exact truthy_fn ⟨_, (P.nnw _ hm).1, hc⟩ (k.same P s.toks)
theorem tD_isNH {i j : Int} : TreeD w c env σ (cmpT .Is) [.hit i j, .d .none] (.d (.bool false)) := fun fx m news t s Q E vs P D k => by
  (first | refine Mine.all2 D fun _ _ hd u1z => ?_ | refine Mine.dall2 D fun _ _ hd u1z => ?_)
  (first | refine Mine.inI (show DatIn _ _ _ from u1z) fun _ => ?_ | refine Mine.inS (show DatIn _ _ _ from u1z) fun _ => ?_ | refine Mine.inB (show DatIn _ _ _ from u1z) ?_ | refine Mine.inN (show DatIn _ _ _ from u1z) ?_)
  obtain ⟨g, ho, _⟩ := (show HitIn w news _ i j from hd)
  obtain ⟨f, o, rfl, hm, hc⟩ := ho.obj
  exact wpAny_is_other (by rfl) (by intro x; cases x) (k.same' P (.bool _))
theorem OwnFn.fn {h₀ h : Heap} {L : Addr} {n : Lg} {v : Value} {x : Str} {g : Addr} (ho : OwnFn n v x g) (N : News h₀ L h n) : FnAt g h := by
  obtain ⟨_, _, _, _, _, _, _, _, _, oc, od, fd, sl, hm⟩ := ho
  exact FnAt.of N hm
/-- a hit's span -/
theorem eD_span {o : Expr} {ap pos : Pos} {i j : Int} (ok : CxOk w c) (rm : Rm c 2) (h : EvalD w c env σ o (.hit i j)) {pl : Sem Bool} (hev : eval (.Call (.Attribute o (Str.ofString "span") ap) [] [] pos) env = (do
      let ov ← eval o env
      standAt ap.atName
      let (f, first) ← holding [ov] (getMethod ov (Str.ofString "span") pl)
      callWith pos f first (backTo pos (starEach [] env)) []) := by rfl) : EvalD w c env σ (.Call (.Attribute o (Str.ofString "span") ap) [] [] pos) (.d (.tuple [.int i, .int j])) := fun fx m news t s Q E P k => by
  refine MethodCall_ (h.run P fun v1 hA tkA tlA tA PA UA hv1 => ?_) hev
  obtain ⟨g, ho, hc⟩ := (show HitIn w _ v1 i j from hv1)
  have ho' := ho
  obtain ⟨f, d, fd, sl, h1, tk, rfl, hm, hm2, _⟩ := ho
  refine getm_fn look_fn_span fi_span (PA.nnw _ hm).1 (PA.nnw _ hm2).1 (by rfl) ?_
  refine callWith_F0 (ho'.fn PA.nnw) ?_
  exact hc c ok rm fx m _ tA _ _ _ (fun p hp => hp) PA.F PA.N PA.tab PA.hi fun v h' tk' tl t' F' N' T' U' D' => (k.after UA) v h' tk' tl t' (PA.grow F' N' T' U') U' D'
noncomputable def vOf : Option (Int × Int) → Vl
  | none => .d .none
  | some (i, j) => .hit i j
theorem HitOr.v {l : Lg} {v : Value} {r : Option (Int × Int)} (h : HitOr w l v r) : VIn w l v (vOf r) := by
  cases r with
  | none => cases h; exact .none
  | some p => exact h
theorem eD_search1 {o e : Expr} {ap pos : Pos} {word x : Str} (ok : CxOk w c) (rm : Rm c 5) (h : EvalD w c env σ o (.prog word)) (he : EvalD w c env σ e (.d (.str x))) (hl : x.length ≤ 100000) {pl : Sem Bool} (hev : eval (.Call (.Attribute o (Str.ofString "search") ap) [e] [] pos) env = (do
      let ov ← eval o env
      standAt ap.atName
      let (f, first) ← holding [ov] (getMethod ov (Str.ofString "search") pl)
      callWith pos f first (backTo pos (starEach [e] env)) []) := by rfl) (hse : starEach [e] env = (false, eval e env) :: starEach [] env := by rfl) : EvalD w c env σ (.Call (.Attribute o (Str.ofString "search") ap) [e] [] pos) (vOf (pSearch word x 0)) := fun fx m news t s Q E P k => by
  refine MethodCall_ (h.run P fun v1 hA tkA tlA tA PA UA hv1 => ?_) hev
  obtain ⟨g, ho, hc, _⟩ := (show ProgIn w _ v1 word from hv1)
  have ho' := ho
  obtain ⟨f, d, fd, sl, h1, tk, rfl, hm, hm2, _⟩ := ho
  refine getm_fn look_fn_search fi_search (PA.nnw _ hm).1 (PA.nnw _ hm2).1 (by rfl) ?_
  refine callWith_F (ho'.fn PA.nnw) ((aD_cons he aD_nil hse) pos _ _ _ _ _ _ _ ⟨PA.F, PA.N, PA.tab, PA.hi, PA.rho⟩ fun vs hB tkB tlB tB PB UB hvs => ⟨(ho'.mono memL).fn PB.nnw, ?_⟩) hse
  (first | refine Mine.all1 hvs fun _ hd => ?_ | refine Mine.dall1 hvs fun _ hd => ?_)
  (first | refine Mine.inI (show DatIn _ _ _ from hd) fun _ => ?_ | refine Mine.inS (show DatIn _ _ _ from hd) fun _ => ?_ | refine Mine.inB (show DatIn _ _ _ from hd) ?_ | refine Mine.inN (show DatIn _ _ _ from hd) ?_)
  exact hc _ _ hl c ok rm fx m _ tB _ _ _ memL PB.F PB.N PB.tab PB.hi fun v h' tk' tl t' F' N' T' U' D' => ((k.after UA).after UB) v h' tk' tl t' (PB.grow F' N' T' U') U' D'.v
theorem eD_search2 {o e e2 : Expr} {ap pos : Pos} {word x : Str} {b : Nat} (ok : CxOk w c) (rm : Rm c 5) (h : EvalD w c env σ o (.prog word)) (he : EvalD w c env σ e (.d (.str x))) (he2 : EvalD w c env σ e2 (.d (.int b))) (hl : x.length ≤ 100000) (hb : b ≤ 1000000) {pl : Sem Bool} (hev : eval (.Call (.Attribute o (Str.ofString "search") ap) [e, e2] [] pos) env = (do
      let ov ← eval o env
      standAt ap.atName
      let (f, first) ← holding [ov] (getMethod ov (Str.ofString "search") pl)
      callWith pos f first (backTo pos (starEach [e, e2] env)) []) := by rfl) (hse : starEach [e, e2] env = (false, eval e env) :: starEach [e2] env := by rfl) (hse2 : starEach [e2] env = (false, eval e2 env) :: starEach [] env := by rfl) (hpl : (backTo pos (starEach [e2] env)).any (·.1) = false := by rfl) : EvalD w c env σ (.Call (.Attribute o (Str.ofString "search") ap) [e, e2] [] pos) (vOf (pSearch word x b)) := fun fx m news t s Q E P k => by
  refine MethodCall_ (h.run P fun v1 hA tkA tlA tA PA UA hv1 => ?_) hev
  obtain ⟨g, ho, _, hc⟩ := (show ProgIn w _ v1 word from hv1)
  have ho' := ho
  obtain ⟨f, d, fd, sl, h1, tk, rfl, hm, hm2, _⟩ := ho
  refine getm_fn look_fn_search fi_search (PA.nnw _ hm).1 (PA.nnw _ hm2).1 (by rfl) ?_
  refine callWith_F (ho'.fn PA.nnw) ((aD_cons he (aD_cons he2 aD_nil hse2) hse) pos _ _ _ _ _ _ _ ⟨PA.F, PA.N, PA.tab, PA.hi, PA.rho⟩ fun vs hB tkB tlB tB PB UB hvs => ⟨(ho'.mono memL).fn PB.nnw, ?_⟩) hse hpl
  (first | refine Mine.all2 hvs fun _ _ hd hd2 => ?_ | refine Mine.dall2 hvs fun _ _ hd hd2 => ?_)
  (first | refine Mine.inI (show DatIn _ _ _ from hd) fun _ => ?_ | refine Mine.inS (show DatIn _ _ _ from hd) fun _ => ?_ | refine Mine.inB (show DatIn _ _ _ from hd) ?_ | refine Mine.inN (show DatIn _ _ _ from hd) ?_)
  (first | refine Mine.inI (show DatIn _ _ _ from hd2) fun _ => ?_ | refine Mine.inS (show DatIn _ _ _ from hd2) fun _ => ?_ | refine Mine.inB (show DatIn _ _ _ from hd2) ?_ | refine Mine.inN (show DatIn _ _ _ from hd2) ?_)
  exact hc _ _ _ _ hl hb c ok rm fx m _ tB _ _ _ memL PB.F PB.N PB.tab PB.hi fun v h' tk' tl t' F' N' T' U' D' => ((k.after UA).after UB) v h' tk' tl t' (PB.grow F' N' T' U') U' D'.v
end
end Mine

namespace Mine
noncomputable def cellL : Nat → List Str → List (Str × Addr)
  | _, [] => []
  | k, x :: r => (x, k) :: cellL (k + 1) r
theorem cellL_ge : ∀ {l : List Str} {k : Nat} {p : Str × Addr}, p ∈ cellL k l → k ≤ p.2 := by
  intro l
  induction l with
  | nil => intro k p h; cases h
  | cons x r ih =>
    intro k p h
    rcases List.mem_cons.mp h with rfl | h
    · exact Nat.le_refl k
    · exact Nat.le_of_succ_le (ih h)
theorem cellL_nd : ∀ {l : List Str} {k : Nat}, ((cellL k l).map (·.2)).Nodup := by
  intro l
  induction l with
  | nil => intro k; exact List.nodup_nil
  | cons x r ih =>
    intro k
    refine List.nodup_cons.mpr ⟨fun h => ?_, ih⟩
    obtain ⟨p, hp, e⟩ := List.mem_map.mp h
    have := cellL_ge hp
    have e' : p.2 = k := e
    rw [e'] at this
    exact Nat.lt_irrefl _ this
theorem cellsAre_map {cm : Str → Option Value} {cs : List (Str × Addr)} {cells : Lg} (h : CellsAre cm cs cells) : cells.map (·.1) = cs.map (·.2) := by
  induction h with
  | nil => rfl
  | cons _ _ ih => rw [List.map_cons, List.map_cons, ih]
theorem cellsAre_lk {cm : Str → Option Value} {cs : List (Str × Addr)} {cells : Lg} (h : CellsAre cm cs cells) : ∀ x a, cs.lookup x = some a → ∃ o, (a, o) ∈ cells ∧ o.data = .cell (cm x) := by
  induction h with
  | nil => intro x a h; cases h
  | @cons n c o cs cells hd _ ih =>
    intro x a h
    rw [List.lookup_cons] at h
    by_cases hxn : (x == n) = true
    · simp only [hxn] at h
      cases h
      rw [beq_iff_eq.mp hxn]
      exact ⟨o, .head _, hd⟩
    · simp only [hxn] at h
      obtain ⟨o', h1, h2⟩ := ih x a h
      exact ⟨o', .tail _ h1, h2⟩
theorem bindL_not {kindOf : Str → Option NameKind} : ∀ {l : List (Str × Value)} {m : Str → Option Value} {x : Str}, x ∉ l.map (·.1) → bindL kindOf l m x = m x := by
  intro l
  induction l with
  | nil => intro m x _; rfl
  | cons p r ih =>
    intro m x hx
    obtain ⟨n, u⟩ := p
    rw [List.map_cons] at hx
    have h1 : x ≠ n := fun e => hx (e ▸ .head _)
    show bindL kindOf r (if kindOf n = some .local then fun y => if y = n then some u else m y else m) x = _
    rw [ih fun h => hx (.tail _ h)]
    split
    · exact if_neg h1
    · rfl
theorem bindC_not {kindOf : Str → Option NameKind} : ∀ {l : List (Str × Value)} {m : Str → Option Value} {x : Str}, x ∉ l.map (·.1) → bindC kindOf l m x = m x := by
  intro l
  induction l with
  | nil => intro m x _; rfl
  | cons p r ih =>
    intro m x hx
    obtain ⟨n, u⟩ := p
    rw [List.map_cons] at hx
    have h1 : x ≠ n := fun e => hx (e ▸ .head _)
    show bindC kindOf r (if kindOf n = some .local then m else fun y => if y = n then some u else m y) x = _
    rw [ih fun h => hx (.tail _ h)]
    split
    · rfl
    · exact if_neg h1
theorem bindL_lk {kindOf : Str → Option NameKind} {x : Str} {v : Value} (hk : kindOf x = some .local) : ∀ {l : List (Str × Value)} {m : Str → Option Value}, (l.map (·.1)).Nodup → l.lookup x = some v → bindL kindOf l m x = some v := by
  intro l
  induction l with
  | nil => intro m _ h; cases h
  | cons p r ih =>
    intro m hn h
    obtain ⟨n, u⟩ := p
    rw [List.map_cons] at hn
    have hn2 := List.nodup_cons.mp hn
    rw [List.lookup_cons] at h
    show bindL kindOf r (if kindOf n = some .local then fun y => if y = n then some u else m y else m) x = _
    by_cases hxn : (x == n) = true
    · simp only [hxn] at h
      cases h
      have e := beq_iff_eq.mp hxn
      subst e
      rw [bindL_not hn2.1, if_pos hk]
      exact if_pos rfl
    · simp only [hxn] at h
      exact ih hn2.2 h
theorem bindC_lk {kindOf : Str → Option NameKind} {x : Str} {v : Value} (hk : kindOf x ≠ some .local) : ∀ {l : List (Str × Value)} {m : Str → Option Value}, (l.map (·.1)).Nodup → l.lookup x = some v → bindC kindOf l m x = some v := by
  intro l
  induction l with
  | nil => intro m _ h; cases h
  | cons p r ih =>
    intro m hn h
    obtain ⟨n, u⟩ := p
    rw [List.map_cons] at hn
    have hn2 := List.nodup_cons.mp hn
    rw [List.lookup_cons] at h
    show bindC kindOf r (if kindOf n = some .local then m else fun y => if y = n then some u else m y) x = _
    by_cases hxn : (x == n) = true
    · simp only [hxn] at h
      cases h
      have e := beq_iff_eq.mp hxn
      subst e
      rw [bindC_not hn2.1, if_neg hk]
      exact if_pos rfl
    · simp only [hxn] at h
      exact ih hn2.2 h
noncomputable abbrev Cx.intoC (c : Cx) (qual : Str) (scope : Scope) (L f : Addr) (cd : Value) (g : Heap) (cns : List Str) : Cx :=
  { c with dp := c.dp + 1, un := c.un + 3, cn := qual, cs := scope, L := L, a := f, ccd := cd, cl := (cellL (L + 1) cns).reverse, outer := c.env :: c.outer, A₀ := c.A, base := c.base, h₀ := g, cap := [] }
theorem lk_mem {α : Type} : ∀ {l : List (Str × α)} {x : Str} {d : α}, l.lookup x = some d → (x, d) ∈ l := by
  intro l
  induction l with
  | nil => intro x d h; cases h
  | cons p r ih =>
    intro x d h
    obtain ⟨y, u⟩ := p
    rw [List.lookup_cons] at h
    by_cases hxy : (x == y) = true
    · simp only [hxy] at h
      cases h
      rw [beq_iff_eq.mp hxy]; exact .head _
    · simp only [hxy] at h
      exact .tail _ (ih h)
/-- a call of f in this frame -/
noncomputable def CallIn (w : World) (c : Cx) (f : Addr) (ds : List Vl) (r : Vl) : Prop :=
    ∀ (fx : Lg) (m : Str → Option Value) (news : Lg) (t : Tb) (s : Shared) (Q E : Value → Shared → Prop) (vs : List Value),
    Fr c.h₀ c.L s.heap m → News c.h₀ c.L s.heap (tabL t ++ (fx ++ news)) → TabOk news t → Hi (fx ++ news) → VAll w news vs ds →
    (∀ v h' tk' tl t', Fr c.h₀ c.L h' m → News c.h₀ c.L h' (tabL t' ++ (fx ++ (news ++ tl))) → TabOk (news ++ tl) t' → Up (fx ++ news) tl → VIn w (news ++ tl) v r → Q v { s with heap := h', toks := tk' }) →
    wpAny (theM w) c.A (call (.ref f) vs) Q E s
theorem CallIn.callD {w : World} {c : Cx} {f : Addr} {ds : List Vl} {r : Vl} {env : Env} {σ : Sg} (h : CallIn w c f ds r) : CallD w c env σ (.ref f) ds r := fun fx m news t s Q E vs P D k =>
  h fx m news t s Q E vs P.F P.N P.tab P.hi D fun v h' tk' tl t' F' N' T' U' D' => k v h' tk' tl t' (P.grow F' N' T' U') U' D'
theorem enterC {w : World} {name qual : Str} {params : Arguments} {body : List Stmt} {scope : Scope} {dV kV doc pm cdv ct oc : Value} {an od : Option Addr} {osl : Array (Option Value)} {f : Addr} {n : Nat} {r : Vl} {c : Cx} {ds : List Vl} (ps cns : List Str)
    (ho : (Mine.top.heap_1 w.params).lookup f = some ⟨oc, od, .func (fnOf name qual params body scope dV kV doc pm an cdv ct), osl⟩) (hcd : codeIn (Mine.top.heap_1 w.params) cdv qual = true)
    (hbind : ∀ (s : Shared) (vs : List Value), (Mine.top.heap_1 w.params).In s.heap → vs.length = ps.length → BindsTo s (fnOf name qual params body scope dV kV doc pm an cdv ct) ⟨vs, []⟩ (ps.zip vs)) (hloc : ∀ y ∈ ps, scope.names.lookup y = some .local ∨ scope.names.lookup y = some .cell ∧ y ∈ cns) (hnd : ps.Nodup)
    (hdb : ∀ y ∈ ps, (y == ("__debug__" : Str)) = false ∧ (y == ("__classdict__" : Str)) = false) (hcl : ∀ k, cellsFrom k scope.names [] = (cellL k cns).reverse) (hcn : ((cellsFrom 0 scope.names []).map (·.1)).Nodup) (hlen : ds.length = ps.length) (hn : 1 ≤ n) (ok : CxOk w c) (rm : Rm c n)
    (h : ∀ L g, CxOk w (c.intoC qual scope L f cdv g cns) → Rm (c.intoC qual scope L f cdv g cns) (n - 1) → (∀ b o, c.h₀.get? b = some o → g.get? b = some o) → ExecsD w (c.intoC qual scope L f cdv g cns) (lkL (ps.zip ds)) none body (.ret r))
    (hco : scope.isCoroutine = false := by rfl) (hgen : scope.isGenerator = false := by rfl) (hk : scope.kind = .function := by rfl) :
    CallIn w c f ds r := by
  intro fx m news t s Q E vs F N T H D k
  refine wpAny_call ?_
  have hvl : vs.length = ds.length := by
    clear k h hlen
    induction D with
    | nil => rfl
    | cons _ _ ih => rw [List.length_cons, List.length_cons, ih]
  refine code_defC ok.B F ok.X N ok.T rfl rfl ok.k ho hcd (by have := rm.d; show c.dp < _; lia) (hbind s vs (ok.X.keeps F.keep) (hvl.trans hlen)) (List.all_eq_true.mpr fun y hy => by
    obtain ⟨a, b⟩ := y
    rcases hloc a (List.of_mem_zip hy).1 with h | ⟨h, _⟩ <;> simp [h]) hcn (fun g' L' h₁ tk cells FG F' N' Y B' X' T' lt => ?_) hco hgen hk
  have ok' : CxOk w (c.intoC qual scope L' f cdv g' cns) := ⟨B', X', T', hk⟩
  have rm' : Rm (c.intoC qual scope L' f cdv g' cns) (n - 1) := ⟨by have := rm.d; show c.dp + 1 + (n - 1) < _; lia, by have := rm.u; show c.un + 3 + 8 * (n - 1) + 64 < _; lia⟩
  have he : envOfC qual scope L' f cdv = (c.intoC qual scope L' f cdv g' cns).env := by
    show envX qual scope L' f cdv (cellsFrom (L' + 1) scope.names []) = _
    rw [hcl]
  rw [hcl] at Y
  rw [he]
  rw [he] at F' Y
  have hmap := cellsAre_map Y
  have hge : ∀ p ∈ cells, L' + 1 ≤ p.1 := fun p hp => by
    have : p.1 ∈ cells.map (·.1) := List.mem_map_of_mem hp
    rw [hmap] at this
    obtain ⟨q, hq, e⟩ := List.mem_map.mp this
    rw [← e]
    exact cellL_ge (List.mem_reverse.mp hq)
  have hnv : ((ps.zip vs).map (·.1)).Nodup := by
    have : (ps.zip vs).map (·.1) = ps := by
      rw [List.map_fst_zip]
      lia
    rw [this]; exact hnd
  have sub : ∀ p ∈ tabL t ++ ((cells ++ (fx : Lg)) ++ (news ++ [])), p ∈ cells ++ (tabL t ++ (fx ++ news)) := fun p hp => by
    simp only [List.append_nil, List.mem_append] at hp ⊢
    rcases hp with h | (h | h) | h <;> simp [h]
  have h219 : neq 219 L' ∧ neq 226 L' ∧ 219 < L' ∧ 226 < L' := ⟨Nat.ne_of_lt (lt (219, tabObj t.1) (memL _ (.head _))), Nat.ne_of_lt (lt (226, tabObj t.2) (memL _ (.tail _ (.head _)))), lt (219, tabObj t.1) (memL _ (.head _)), lt (226, tabObj t.2) (memL _ (.tail _ (.head _)))⟩
  have I : InAt w (c.intoC qual scope L' f cdv g' cns) fx news [] (lkL (ps.zip ds)) none h₁ (bindL (c.intoC qual scope L' f cdv g' cns).env.kindOf (ps.zip vs) fun _ => none) cells t := by
    refine ⟨F', fun p hp => N' p (sub p hp), by rw [List.append_nil]; exact T, fun p hp => ?_, fun x d hx => ?_, fun _ _ _ h => (nomatch h), fun q hq p hp => ?_, fun q hq p hp => ?_, ?_, ?_, fun _ _ h => (nomatch h)⟩
    · rcases List.mem_append.mp hp with hp | hp
      · rcases List.mem_append.mp hp with hp | hp
        · have := hge p hp
          exact ⟨Nat.ne_of_gt (Nat.lt_of_lt_of_le h219.2.2.1 (Nat.le_of_succ_le this)), Nat.ne_of_gt (Nat.lt_of_lt_of_le h219.2.2.2 (Nat.le_of_succ_le this))⟩
        · exact H p (memL p hp)
      · rw [List.append_nil] at hp
        exact H p (memR p hp)
    · obtain ⟨v, hv, hD⟩ := zip_lk D hx
      have hxp : x ∈ ps := (List.of_mem_zip (lk_mem hx)).1
      obtain ⟨q1, q2⟩ := hdb x hxp
      refine ⟨q1, q2, v, by rw [List.append_nil]; exact hD, ?_⟩
      rcases hloc x hxp with hl | ⟨hl, hc⟩
      · exact .inl ⟨hl, bindL_lk hl hnv hv⟩
      · right
        have hin : ∃ a, (cellL (L' + 1) cns).reverse.lookup x = some a := by
          have hmem : ∃ a, (x, a) ∈ (cellL (L' + 1) cns).reverse := by
            have : ∀ (l : List Str) (k : Nat), x ∈ l → ∃ a, (x, a) ∈ cellL k l := by
              intro l
              induction l with
              | nil => intro k h; cases h
              | cons y r ih =>
                intro k h
                rcases List.mem_cons.mp h with rfl | h
                · exact ⟨k, .head _⟩
                · obtain ⟨a, h⟩ := ih (k + 1) h
                  exact ⟨a, .tail _ h⟩
            obtain ⟨a, h⟩ := this cns (L' + 1) hc
            exact ⟨a, List.mem_reverse.mpr h⟩
          obtain ⟨a, h⟩ := hmem
          cases hq : (cellL (L' + 1) cns).reverse.lookup x with
          | some b => exact ⟨b, rfl⟩
          | none =>
            rw [List.lookup_eq_none_iff] at hq
            have := hq _ h
            simp at this
        obtain ⟨a, ha⟩ := hin
        obtain ⟨o, h1, h2⟩ := cellsAre_lk Y x a ha
        have hnl : (c.intoC qual scope L' f cdv g' cns).env.kindOf x ≠ some .local := by
          show scope.names.lookup x ≠ _
          rw [hl]; exact fun h => nomatch h
        rw [bindC_lk hnl hnv hv] at h2
        exact ⟨a, o, .inl hl, ha, memL _ h1, h2⟩
    · have z := hge p hp
      rw [List.append_nil] at hq
      exact Nat.ne_of_lt (Nat.lt_of_lt_of_le (lt q (memR q (memR q hq))) (Nat.le_of_succ_le z))
    · have z := hge q hq
      exact Nat.ne_of_gt (Nat.lt_of_lt_of_le (lt p (memR p (memL p hp))) (Nat.le_of_succ_le z))
    · rw [hmap, List.map_reverse]
      exact List.pairwise_reverse.mpr (cellL_nd.imp fun h => Ne.symm h)
    · refine ⟨fun x a _ hx => ?_, fun _ h => (nomatch h)⟩
      obtain ⟨o, h1, h2⟩ := cellsAre_lk Y x a hx
      exact ⟨o, _, h1, h2⟩
  refine h L' g' ok' rm' FG.keep fx news [] _ _ _ ⟨_, _, _, I⟩ fun fl h' tk' add hO => ?_
  obtain ⟨v, m', t', fx', rfl, F2, N2, T2, U2, V2⟩ := hO
  rw [List.nil_append] at N2 T2 U2 V2
  refine leaveK_ (L' := L') (m' := m') F2 N2 fun F3 N3 => ?_
  exact k v h' tk' (fx' ++ add) t' F3 N3 T2 U2 V2
end Mine

namespace Mine
noncomputable abbrev noPar : Arguments := { posonlyargs := [], args := [], vararg := none, kwonlyargs := [], kw_defaults := [], kwarg := none, defaults := [] }
/-- a call of a lambda that gives a pair of captured numbers -/
theorem lam_calls {w : World} {name qual x1 x2 : Str} {p1 p2 tp : Pos} {kk : Nat} {scope : Scope} {a1 a2 g c' : Addr} {pm ctv : Value} {oc o1 o2 : Obj} {vs : Array Value} {t t1 t2 : Tok} {i j : Int} {l : Lg}
    (ho : (g, kla_obj name qual noPar (.Tuple [.Name x1 p1, .Name x2 p2] kk tp) scope [(x1, a1), (x2, a2)] pm c' ctv) ∈ l) (hc : (c', oc) ∈ l) (hd : oc.data = .fields vs) (hv : vs[1]? = some (.str qual t))
    (h1 : (a1, o1) ∈ l) (d1 : o1.data = .cell (some (.int i t1))) (h2 : (a2, o2) ∈ l) (d2 : o2.data = .cell (some (.int j t2))) (hx : x1 ≠ x2) (k1 : scope.names.lookup x1 = some .free) (k2 : scope.names.lookup x2 = some .free)
    (b1 : (x1 == ("__debug__" : Str)) = false) (b2 : (x2 == ("__debug__" : Str)) = false) (b3 : (x1 == ("__classdict__" : Str)) = false) (b4 : (x2 == ("__classdict__" : Str)) = false)
    (hco : scope.isCoroutine = false) (hgen : scope.isGenerator = false) (hk : scope.kind = .function) (hcell : ∀ x ∈ scope.names, x.2 ≠ .cell) :
    CallsOk w g 2 [] (fun l r => DatIn l r (.tuple [.int i, .int j])) l := by
  intro c ok rm fx m news' t s Q E hs F N T H k
  refine wpAny_call ?_
  have inN : ∀ p ∈ l, p ∈ tabL t ++ (fx ++ news') := fun p hp => memR p (memR p (hs p hp))
  refine kla_code ok.B F ok.X N ok.T rfl rfl ok.k (inN _ ho) (codeRec_news N (inN _ hc) hd hv) (by have := rm.d; show c.dp < _; lia) (binds := []) rfl (by intro y hy; cases hy) (fun g' L' h₁ FG F' N' B' X' T' => ?_) hco hgen hk hcell
  have ok' : CxOk w { c with dp := c.dp + 1, un := c.un + 3, cn := qual, cs := scope, L := L', a := g, ccd := .ref c', cl := [(x1, a1), (x2, a2)], outer := c.env :: c.outer, A₀ := c.A, base := c.base, h₀ := g', cap := [] } := ⟨B', X', T', hk⟩
  generalize hc2 : ({ c with dp := c.dp + 1, un := c.un + 3, cn := qual, cs := scope, L := L', a := g, ccd := .ref c', cl := [(x1, a1), (x2, a2)], outer := c.env :: c.outer, A₀ := c.A, base := c.base, h₀ := g', cap := [] } : Cx) = c2 at ok'
  have hk1 : c2.env.kindOf x1 = some .free := by subst hc2; exact k1
  have hk2 : c2.env.kindOf x2 = some .free := by subst hc2; exact k2
  have hcl1 : c2.cl.lookup x1 = some a1 := by subst hc2; exact List.lookup_cons_self
  have hcl2 : c2.cl.lookup x2 = some a2 := by
    subst hc2
    show ([(x1, a1), (x2, a2)] : List (Str × Addr)).lookup x2 = _
    rw [List.lookup_cons, beq_eq_false_iff_ne.mpr (Ne.symm hx)]
    exact List.lookup_cons_self
  have e1 : c2.h₀ = g' := by subst hc2; rfl
  have e2 : c2.L = L' := by subst hc2; rfl
  have e3 : ktrTop (c.dp + 1) (c.un + 3) c.gd qual scope L' g (.ref c') [(x1, a1), (x2, a2)] (c.env :: c.outer) = c2.A := by subst hc2; rfl
  have e4 : envX qual scope L' g (.ref c') [(x1, a1), (x2, a2)] = c2.env := by subst hc2; rfl
  have see : ∀ x a o v, c2.env.kindOf x = some .free → c2.cl.lookup x = some a → (a, o) ∈ l → o.data = .cell (some v) → (x == ("__debug__" : Str)) = false → (x == ("__classdict__" : Str)) = false →
      Sees w c2 c2.env (fx ++ news') (fun y => ([] : List (Str × Value)).reverse.lookup y) x v ∧ CellAt c2.env (fx ++ news') x v := fun x a o v z1 z2 z3 z4 z5 z6 =>
    ⟨fun pos s Q E F N q => nameX_F N z2 (memR _ (hs _ z3)) z4 q ok'.k z1 z5 z6, fun _ => ⟨a, o, z2, memR _ (hs _ z3), z4⟩⟩
  have P : Pre w c2 c2.env (fx ++ news') (fun y => ([] : List (Str × Value)).reverse.lookup y) news' t (upd (upd (fun _ => none) x1 (.d (.int i))) x2 (.d (.int j))) h₁ := by
    refine ⟨by rw [e1, e2]; exact F', fun p hp => by rw [e1, e2]; exact N' p (by exact Mine.viaSub hp (by walk_at "mSUB")), T, fun p hp => H p (by exact Mine.viaSub hp (by walk_at "mSUB")), fun y e hy => ?_⟩
    unfold upd at hy
    by_cases hy2 : y = x2
    · subst hy2
      rw [if_pos rfl] at hy; cases hy
      obtain ⟨z1, z2⟩ := see _ _ _ _ hk2 hcl2 h2 d2 b2 b4
      exact ⟨_, z1, .int j t2, z2⟩
    · rw [if_neg hy2] at hy
      by_cases hy1 : y = x1
      · subst hy1
        rw [if_pos rfl] at hy; cases hy
        obtain ⟨z1, z2⟩ := see _ _ _ _ hk1 hcl1 h1 d1 b1 b3
        exact ⟨_, z1, .int i t1, z2⟩
      · rw [if_neg hy1] at hy; cases hy
  have hev : EvalD w c2 c2.env (upd (upd (fun _ => none) x1 (.d (.int i))) x2 (.d (.int j))) (.Tuple [.Name x1 p1, .Name x2 p2] kk tp) (.d (.tuple [.int i, .int j])) :=
    eD_tuple (ds := [.int i, .int j]) (ad_cons (eD_name (upd_ne hx upd_self)) (ad_cons (eD_name upd_self) ad_nil)) (Nat.le_of_ble_eq_true rfl)
  show wpAny (theM w) (ktrTop (c.dp + 1) (c.un + 3) c.gd qual scope L' g (.ref c') [(x1, a1), (x2, a2)] (c.env :: c.outer)) (eval _ (envX qual scope L' g (.ref c') [(x1, a1), (x2, a2)])) _ _ _
  rw [e3, e4]
  refine hev _ _ _ _ _ _ _ P fun v h' tk' tl t' P2 U2 hv2 => ?_
  have F2 := P2.F
  have N2 := P2.N
  rw [e1, e2] at F2 N2
  refine leaveK_ (L' := L') F2 N2 fun F3 N3 => ?_
  exact k v h' tk' tl t' F3 (fun p hp => N3 p (by exact Mine.viaSub hp (by walk_at "mSUB"))) P2.tab (U2.sub fun p hp => by exact Mine.viaSub hp (by walk_at "mSUB")) hv2
end Mine

namespace Mine
/-- what a nested def's body sees at first -/
noncomputable def both (a b : Sg) : Sg := fun x => match a x with | some d => some d | none => b x
noncomputable abbrev Cx.intoN (c : Cx) (qual : Str) (scope : Scope) (L f : Addr) (cd : Value) (g : Heap) (cl : List (Str × Addr)) (cap : Lg) : Cx :=
  { c with dp := c.dp + 1, un := c.un + 3, cn := qual, cs := scope, L := L, a := f, ccd := cd, cl := cl, outer := c.env :: c.outer, A₀ := c.A, base := c.base, h₀ := g, cap := cap }
theorem enterN {w : World} {name qual : Str} {params : Arguments} {body : List Stmt} {scope : Scope} {cl : List (Str × Addr)} {dV doc pm ctv : Value} {g c' : Addr} {oc : Obj} {cvs : Array Value} {t0 : Tok} {n : Nat} {vs vs' : List Value} {ds : List Vl} {r : Vl} {l cap : Lg} (ps : List Str) (σc : Sg)
    (ho : (g, (⟨.type "function", none, .func (fnX name qual params body scope cl dV .none doc pm none (.ref c') ctv), #[]⟩ : Obj)) ∈ l) (hc : (c', oc) ∈ l) (hd : oc.data = .fields cvs) (hv : cvs[1]? = some (.str qual t0)) (hcap : ∀ p ∈ cap, p ∈ l)
    (hbind : ∀ (s : Shared), (∀ p ∈ l, s.heap.get? p.1 = some p.2) → BindsTo s (fnX name qual params body scope cl dV .none doc pm none (.ref c') ctv) ⟨vs, []⟩ (ps.zip vs')) (hlen : vs'.length = ps.length) (hD : VAll w [] vs' ds)
    (hloc : ∀ y ∈ ps, scope.names.lookup y = some .local) (hnd : ps.Nodup) (hdb : ∀ y ∈ ps, (y == ("__debug__" : Str)) = false ∧ (y == ("__classdict__" : Str)) = false)
    (hσc : ∀ x d, σc x = some d → (x == ("__debug__" : Str)) = false ∧ (x == ("__classdict__" : Str)) = false ∧ scope.names.lookup x = some .free ∧ ∃ a o v, cl.lookup x = some a ∧ (a, o) ∈ cap ∧ o.data = .cell (some v) ∧ VIn w [] v d) (hn : 1 ≤ n)
    (h : ∀ (c : Cx) L' g', CxOk w (c.intoN qual scope L' g (.ref c') g' cl cap) → Rm (c.intoN qual scope L' g (.ref c') g' cl cap) (n - 1) → ExecsD w (c.intoN qual scope L' g (.ref c') g' cl cap) (both (lkL (ps.zip ds)) σc) none body (.ret r))
    (hco : scope.isCoroutine = false) (hgen : scope.isGenerator = false) (hk : scope.kind = .function) (hcell : ∀ x ∈ scope.names, x.2 ≠ .cell) : CallsOk w g n vs (fun l v => VIn w l v r) l := by
  intro c ok rm fx m news' t s Q E hs F N T H k
  have inN : ∀ p ∈ l, p ∈ tabL t ++ (fx ++ news') := fun p hp => memR p (memR p (hs p hp))
  refine wpAny_call ?_
  refine callX_plain ok.B F N ok.T.nolimit rfl rfl ok.k (N _ (inN _ ho)).1 rfl (codeRec_news N (inN _ hc) hd hv) (by have := rm.d; show c.dp < _; lia) (hbind s fun p hp => (N p (inN p hp)).1) (fun y hy => hloc _ (by
    obtain ⟨a, b⟩ := y
    exact (List.of_mem_zip hy).1)) (fun g' L' h₁ FG F' N' B' st lt => ?_) hcell hco hgen hk
  have ok' : CxOk w { c with dp := c.dp + 1, un := c.un + 3, cn := qual, cs := scope, L := L', a := g, ccd := .ref c', cl := cl, outer := c.env :: c.outer, A₀ := c.A, base := c.base, h₀ := g', cap := cap } := ⟨B', ok.X.keeps st, ok.T.keeps st, hk⟩
  have hh : ∀ c2, c.intoN qual scope L' g (.ref c') g' cl cap = c2 → CxOk w c2 → Rm c2 (n - 1) → ExecsD w c2 (both (lkL (ps.zip ds)) σc) none body (.ret r) := by
    rintro _ rfl a b
    exact h c L' g' a b
  generalize hc2 : ({ c with dp := c.dp + 1, un := c.un + 3, cn := qual, cs := scope, L := L', a := g, ccd := .ref c', cl := cl, outer := c.env :: c.outer, A₀ := c.A, base := c.base, h₀ := g', cap := cap } : Cx) = c2 at ok'
  have rm' : Rm c2 (n - 1) := by
    subst hc2
    exact ⟨by have := rm.d; show c.dp + 1 + (n - 1) < _; lia, by have := rm.u; show c.un + 3 + 8 * (n - 1) + 64 < _; lia⟩
  have e1 : c2.h₀ = g' := by subst hc2; rfl
  have e2 : c2.L = L' := by subst hc2; rfl
  have e3 : ktrTop (c.dp + 1) (c.un + 3) c.gd qual scope L' g (.ref c') cl (c.env :: c.outer) = c2.A := by subst hc2; rfl
  have e4 : envX qual scope L' g (.ref c') cl = c2.env := by subst hc2; rfl
  have e5 : c2.cap = cap := by subst hc2; rfl
  have e6 : ∀ x, c2.env.kindOf x = scope.names.lookup x := fun x => by subst hc2; rfl
  have e7 : c2.cl = cl := by subst hc2; rfl
  have hnv : ((ps.zip vs').map (·.1)).Nodup := by
    have : (ps.zip vs').map (·.1) = ps := by
      rw [List.map_fst_zip]
      lia
    rw [this]; exact hnd
  have I : InAt w c2 (fx ++ cap) news' [] (both (lkL (ps.zip ds)) σc) none h₁ (fun y => (ps.zip vs').reverse.lookup y) [] t := by
    have subN : ∀ p ∈ tabL t ++ (([] ++ (fx ++ cap)) ++ (news' ++ [])), p ∈ tabL t ++ (fx ++ news') := fun p hp => by
      simp only [List.append_nil, List.nil_append, List.mem_append] at hp ⊢
      rcases hp with h | (h | h) | h
      · simp [h]
      · simp [h]
      · exact .inr (.inr (hs p (hcap p h)))
      · simp [h]
    refine ⟨by rw [e1, e2]; exact F', fun p hp => by rw [e1, e2]; exact N' p (subN p hp), by rw [List.append_nil]; exact T, fun p hp => H p ?_, fun x d hx => ?_, fun _ _ _ h => (nomatch h), fun _ _ _ h => (nomatch h), fun _ h => (nomatch h), List.nodup_nil, ⟨fun x a hx _ => ?_, fun p hp => ?_⟩, fun _ _ h => (nomatch h)⟩
    · simp only [List.append_nil, List.nil_append, List.mem_append] at hp ⊢
      rcases hp with (h | h) | h
      · simp [h]
      · exact .inr (hs p (hcap p h))
      · simp [h]
    · unfold both at hx
      cases hq : lkL (ps.zip ds) x with
      | some d' =>
        rw [hq] at hx
        cases hx
        obtain ⟨v, hv, hDv⟩ := zip_lk hD hq
        have hxp : x ∈ ps := (List.of_mem_zip (lk_mem hq)).1
        obtain ⟨q1, q2⟩ := hdb x hxp
        exact ⟨q1, q2, v, hDv.mono (fun p h => absurd h (List.not_mem_nil)), .inl ⟨by rw [e6]; exact hloc x hxp, lk_rev hnv hv⟩⟩
      | none =>
        rw [hq] at hx
        obtain ⟨q1, q2, q3, a, o, v, q4, q5, q6, q7⟩ := hσc x d hx
        exact ⟨q1, q2, v, q7.mono (fun p h => absurd h (List.not_mem_nil)), .inr ⟨a, o, .inr (by rw [e6]; exact q3), by rw [e7]; exact q4, by rw [e5]; exact q5, q6⟩⟩
    · rw [e6] at hx
      exact absurd rfl (hcell _ (lk_mem hx))
    · rw [e5] at hp
      exact memR p hp
  show wpAny (theM w) (ktrTop (c.dp + 1) (c.un + 3) c.gd qual scope L' g (.ref c') cl (c.env :: c.outer)) (execs body (envX qual scope L' g (.ref c') cl)) _ _ _
  rw [e3, e4]
  refine hh c2 hc2 ok' rm' _ _ _ _ _ _ ⟨_, _, _, I⟩ fun fl h' tk' add hO => ?_
  obtain ⟨v, m', t', fx', rfl, F2, N2, T2, U2, V2⟩ := hO
  rw [e1, e2] at F2 N2
  rw [List.nil_append] at N2 T2 U2 V2
  refine leaveK_ (L' := L') (m' := m') F2 N2 fun F3 N3 => ?_
  exact k v h' tk' (fx' ++ add) t' F3 (fun p hp => N3 p (by exact Mine.viaSub hp (by walk_at "mSUB"))) T2 (U2.sub fun p hp => by exact Mine.viaSub hp (by walk_at "mSUB")) V2
end Mine

namespace Mine
section
variable {M : Model} {A : Around} {E : Value → Shared → Prop} {s : Shared} {h₀ : Heap} {L a c P : Addr} {m mg mb : Str → Option Value} {cn : Str} {cs : Scope} {ccd : Value} {cl : List (Str × Addr)} {news rest : Lg}
  {p : Program} {loose : List Str} {mean : ExcName → Option Value} {name qual : Str} {params : Arguments} {body : List Stmt} {scope : Scope} {ps : Array Value} {pos : Pos} {q : Str × Addr} {r : List (Str × Addr)} {dv : Value} {Q : Value → Shared → Prop}
noncomputable abbrev fnD (name qual : Str) (params : Arguments) (body : List Stmt) (scope : Scope) (cl : List (Str × Addr)) (T : Addr) (pm : Value) (c' : Addr) (ctv : Value) : Obj := ⟨.type "function", none, .func (fnX name qual params body scope cl (.ref T) .none .none pm none (.ref c') ctv), #[]⟩
/-- a nested def with a default is made: its code object is new -/
theorem makeD (F : Fr h₀ L s.heap m) (N : News h₀ L s.heap news) (hP : (P, tabObj ps) ∈ news) (hr : ∀ z ∈ rest, z ∈ news ∧ neq z.1 P) (T : Top p loose mean mg mb h₀) (C : CodeHd h₀ c P) (hcd : ccd = .ref c) (ht : TriplesOk ps.toList) (hnf : codeAmong pos ps.toList = none)
    (hcl : closureFor scope (envX cn cs L a ccd cl) = pure (q :: r)) (hdoc : docOf body = none) (hkw : params.kwonlyargs = []) (psf : Addr → Array Value) (hpf : ∀ c', ps ++ #[rawInt pos.line, rawInt pos.col, .ref c'] = psf c')
    (h : ∀ f c' oc vs t ctv T h' tk, Fr h₀ L h' m → News h₀ L h' ((f, fnD name qual params body scope (q :: r) T ((mg "__name__").getD .none) c' ctv) :: (c', oc) :: (T, ({ cls := .type "tuple", data := .seq #[dv] } : Obj)) :: (P, tabObj (psf c')) :: rest) →
      oc.data = .fields vs → vs[1]? = some (.str qual t) → (∀ z ∈ news, @LT.lt Nat _ z.1 T) → @LT.lt Nat _ T c' → @LT.lt Nat _ c' f → Q (.ref f) { s with heap := h', toks := tk }) :
    wpAny M A (makeFunction name qual params (.stmts body) scope (envX cn cs L a ccd cl) [dv] [] [] pos pos.line) Q E s := by
  have hm := N _ hP
  have hgs := T.g.keeps F.keep
  obtain ⟨bm, ob, b1, b2, b3, b4, b5, b6⟩ := T.bmain
  have hgP : mainGlobals ≠ P := fun e => by
    obtain ⟨o, es, ep, e1, hd, _⟩ := hgs
    rw [e, hm.1] at e1; cases e1; cases hd
  have hbP : bm ≠ P := fun e => by
    have e1 := F.keep _ _ b3
    rw [e, hm.1] at e1; cases e1; cases b4
  have hbG : bm ≠ mainGlobals := fun e => by
    obtain ⟨o, es, ep, e1, hd, _⟩ := T.g
    rw [e, e1] at b3; cases b3; rw [hd] at b6; cases b6
  rw [makeFunction_eq, hkw]
  simp only [List.zip_nil_left, List.filterMap_nil, List.isEmpty_nil, List.isEmpty_cons, if_true, pure_bind, Bool.false_eq_true, if_false]
  refine wpAny_bind (wpAny_newTextTuple ?_)
  unfold makeTail
  rw [hcl]
  refine wpAny_bind (wpAny_pure ?_)
  simp only [List.isEmpty_cons, Bool.false_eq_true, if_false]
  refine wpAny_bind (wpAny_newTextTuple ?_)
  generalize hT : s.heap.objs.size = T0
  have up : ∀ b o, s.heap.get? b = some o → ((s.heap.push { cls := .type "tuple", data := .seq [dv].toArray }).push { cls := .type "tuple", data := .seq (List.map (fun x => Value.ref x.2) ((q :: r).mergeSort fun a b => a.1.cps.toList ≤ b.1.cps.toList)).toArray }).get? b = some o := fun b o e => Heap.get?_push_of_some _ (Heap.get?_push_of_some _ e)
  have CK := C.keeps F.keep
  have hPP := up _ _ hm.1
  have hTget : ((s.heap.push { cls := .type "tuple", data := .seq [dv].toArray }).push { cls := .type "tuple", data := .seq (List.map (fun x => Value.ref x.2) ((q :: r).mergeSort fun a b => a.1.cps.toList ≤ b.1.cps.toList)).toArray }).get? T0 = some { cls := .type "tuple", data := .seq #[dv] } := by
    subst hT
    exact Heap.get?_push_of_some _ (Heap.get?_push_size _ rfl)
  refine wpAny_bind (wpAny_functionCodeX hcd ((CK.keeps up).code hPP ht) ((CK.keeps up).tab hPP) hnf fun c' h' tk hx hge hlt _ hrec htb _ => ?_)
  have hg' := (hgs.keeps up).extBut hx hgP
  refine wpAny_bind (wpAny_builtinsFor hg' b1 b2 (hx _ _ hbP (up _ _ (F.keep _ _ b3))) b4 b5 b6 ?_)
  refine wpAny_bind (wpAny_nsGet hg' ?_)
  rw [hdoc]
  refine wpAny_bind (wpAny_pure (wpAny_newObj_type ?_ (by size_fits)))
  obtain ⟨c₂, oc, vs, t, e2, hoc, hd, hv⟩ := hrec
  cases e2
  have hszT : T0 + 2 ≤ c' := by
    subst hT
    refine Nat.le_trans ?_ hge
    rw [Heap.size_push, Heap.size_push]
    exact Nat.le_refl _
  have hLs : @LT.lt Nat _ L T0 := hT ▸ F.ns.lt
  have hLc : @LT.lt Nat _ L c' := Nat.lt_of_lt_of_le hLs (Nat.le_trans (Nat.le_add_right _ 2) hszT)
  have hPT : neq T0 P := fun e => by
    have := Heap.lt_size hm.1
    rw [hT, e] at this
    exact Nat.lt_irrefl _ this
  have old : ∀ b o, h₀.get? b = some o → h'.get? b = some o := fun b o e => hx b o (fun e1 => by rw [e1, hm.2.2] at e; cases e) (up _ _ (F.keep b o e))
  have fresh : ∀ b : Nat, L < b → h₀.get? b = none := fun b hb => Heap.get?_none_of_le (Nat.le_trans F.above (Nat.le_of_lt hb))
  refine h h'.objs.size c' oc vs t (.ref (s.heap.push { cls := .type "tuple", data := .seq [dv].toArray }).objs.size) T0 _ tk ⟨((F.ns.keeps up).extBut hx hm.2.1.symm).push _, fun b o e => Heap.get?_push_of_some _ (old b o e), F.above⟩ (fun z hz => ?_) hd hv
    (fun z hz => hT ▸ Heap.lt_size (N z hz).1) (Nat.lt_of_lt_of_le (Nat.lt_succ_of_lt (Nat.lt_succ_self _)) hszT) hlt
  rcases List.mem_cons.mp hz with rfl | hz
  · exact ⟨Heap.get?_push_size _ rfl, Nat.ne_of_gt (Nat.lt_trans hLc hlt), fresh _ (Nat.lt_trans hLc hlt)⟩
  · rcases List.mem_cons.mp hz with rfl | hz
    · exact ⟨Heap.get?_push_of_some _ hoc, Nat.ne_of_gt hLc, fresh _ hLc⟩
    · rcases List.mem_cons.mp hz with rfl | hz
      · exact ⟨Heap.get?_push_of_some _ (hx _ _ hPT hTget), Nat.ne_of_gt hLs, fresh _ hLs⟩
      · rcases List.mem_cons.mp hz with rfl | hz
        · exact ⟨Heap.get?_push_of_some _ (hpf c' ▸ htb.2), hm.2⟩
        · have n := N z (hr z hz).1
          exact ⟨Heap.get?_push_of_some _ (hx _ _ (hr z hz).2 (up _ _ n.1)), n.2⟩
/-- the same, its code object known -/
theorem makeDhit {c' : Addr} (F : Fr h₀ L s.heap m) (N : News h₀ L s.heap news) (hP : (P, tabObj ps) ∈ news) (T : Top p loose mean mg mb h₀) (C : CodeHd h₀ c P) (hcd : ccd = .ref c) (ht : TriplesOk ps.toList) (hf : codeAmong pos ps.toList = some (.ref c'))
    (hcl : closureFor scope (envX cn cs L a ccd cl) = pure (q :: r)) (hdoc : docOf body = none) (hkw : params.kwonlyargs = [])
    (h : ∀ f ctv T h' tk, Fr h₀ L h' m → News h₀ L h' ((f, fnD name qual params body scope (q :: r) T ((mg "__name__").getD .none) c' ctv) :: (T, ({ cls := .type "tuple", data := .seq #[dv] } : Obj)) :: news) →
      (∀ z ∈ news, @LT.lt Nat _ z.1 T) → @LT.lt Nat _ T f → Q (.ref f) { s with heap := h', toks := tk }) :
    wpAny M A (makeFunction name qual params (.stmts body) scope (envX cn cs L a ccd cl) [dv] [] [] pos pos.line) Q E s := by
  have hm := N _ hP
  have hgs := T.g.keeps F.keep
  obtain ⟨bm, ob, b1, b2, b3, b4, b5, b6⟩ := T.bmain
  rw [makeFunction_eq, hkw]
  simp only [List.zip_nil_left, List.filterMap_nil, List.isEmpty_nil, List.isEmpty_cons, if_true, pure_bind, Bool.false_eq_true, if_false]
  refine wpAny_bind (wpAny_newTextTuple ?_)
  unfold makeTail
  rw [hcl]
  refine wpAny_bind (wpAny_pure ?_)
  simp only [List.isEmpty_cons, Bool.false_eq_true, if_false]
  refine wpAny_bind (wpAny_newTextTuple ?_)
  have F2 := (F.push { cls := .type "tuple", data := .seq [dv].toArray }).push { cls := .type "tuple", data := .seq (List.map (fun x => Value.ref x.2) ((q :: r).mergeSort fun a b => a.1.cps.toList ≤ b.1.cps.toList)).toArray }
  have N1 := N.push F { cls := .type "tuple", data := .seq [dv].toArray }
  have N2 := N1.push (F.push _) { cls := .type "tuple", data := .seq (List.map (fun x => Value.ref x.2) ((q :: r).mergeSort fun a b => a.1.cps.toList ≤ b.1.cps.toList)).toArray }
  have N3 := N2.push F2 (fnD name qual params body scope (q :: r) s.heap.objs.size ((mg "__name__").getD .none) c' (.ref (s.heap.push { cls := .type "tuple", data := .seq [dv].toArray }).objs.size))
  have CK := C.keeps F2.keep
  have hPP := (N2 _ (.tail _ (.tail _ hP))).1
  have hg' := T.g.keeps F2.keep
  refine wpAny_bind (wpAny_functionCode_hit hcd (CK.code hPP ht) hf ?_)
  refine wpAny_bind (wpAny_builtinsFor hg' b1 b2 (F2.keep _ _ b3) b4 b5 b6 ?_)
  refine wpAny_bind (wpAny_nsGet hg' ?_)
  rw [hdoc]
  refine wpAny_bind (wpAny_pure (wpAny_newObj_type ?_ (by size_fits)))
  refine h _ (.ref (s.heap.push { cls := .type "tuple", data := .seq [dv].toArray }).objs.size) s.heap.objs.size _ _ (F2.push _) (fun z hz => N3 z ?_) (fun z hz => Heap.lt_size (N z hz).1) ?_
  · rcases List.mem_cons.mp hz with rfl | hz
    · exact .head _
    · rcases List.mem_cons.mp hz with rfl | hz
      · exact .tail _ (.tail _ (.head _))
      · exact .tail _ (.tail _ (.tail _ hz))
  · show s.heap.objs.size < ((s.heap.push _).push _).objs.size
    rw [Heap.size_push, Heap.size_push]
    exact Nat.lt_succ_of_lt (Nat.lt_succ_self _)
end
end Mine

namespace Mine
section
variable {M : Model} {A : Around} {E : Value → Shared → Prop} {s : Shared}
theorem execDefD {name : Str} {params : Arguments} {body : List Stmt} {scope : Scope} {pos : Pos} {env : Env} {e : Expr} {Q : Flow → Shared → Prop} (hd0 : params.defaults = [e]) (hk0 : params.kw_defaults = []) (ha : annTrees params none env = [])
    (h : wpAny M A (eval e env) (fun d s₁ => wpAny M A (makeFunction name (qualnameIn env name name) params (.stmts body) scope env [d] [] [] pos pos.line) (fun v s' => wpAny M A (storeName env name v) (fun _ s'' => Q .next s'') E s') E s₁) E s) :
    wpAny M A (exec (.FunctionDef name params body [] none [] scope none name pos) env) Q E s := by
  rw [exec_def]
  refine wpAny_bind (wpAny_standAt (wpAny_bind (wpAny_holding ?_)))
  rw [defaultsOf_eq, hd0, hk0, ha]
  show wpAny M A (do let dv ← evalAll [eval e env]; _) _ _ _
  refine wpAny_bind ?_
  show wpAny M A (do let v ← eval e env; return v :: (← holding [v] (evalAll []))) _ _ _
  refine wpAny_bind (wpAny_mono h (fun d s₁ h₁ => ?_) fun _ _ x => x)
  refine wpAny_bind (wpAny_holding (wpAny_pure (wpAny_pure ?_)))
  refine wpAny_bind (wpAny_holding (wpAny_pure ?_))
  refine wpAny_holding (wpAny_bind (wpAny_pure ?_))
  exact wpAny_mono h₁ (fun v s' h' => wpAny_bind (wpAny_standAt (wpAny_bind (wpAny_bindName (wpAny_mono h' (fun _ _ h'' => wpAny_pure h'') fun _ _ x => x))))) fun _ _ x => x
end
end Mine

namespace Mine
section
variable {w : World} {c : Cx} {env : Env} {σ : Sg} {mu : Mu}
theorem eD_revL {value u : Expr} {p pos : Pos} {ds : List Dat} (hv : EvalD w c env σ value (.d (.list ds))) (hu : EvalD w c env σ u (.d (.int (-1)))) (hl : ds.length ≤ 1000000)
    (hs : ∀ a n, ∃ ops, subscripted (.Slice none none (some u) p) false (.ref a) (.ref n) = operate ops (getItem (.ref a) (.ref n)) := by intro _ _; exact ⟨_, by with_unfolding_all rfl⟩) : EvalD w c env σ (.Subscript value (.Slice none none (some u) p) pos) (.d (.list ds.reverse)) := fun fx m news t s Q E P k => by
  refine Subscript_ (hv.run P fun v1 hA tkA tlA tA PA UA hv1 => ?_)
  refine Mine.inL (show DatIn _ _ _ from hv1) fun _ _ _ hml hvl => ?_
  refine wpAny_Slice (wpAny_pure (wpAny_pure (hu.run PA fun v2 hB tkB tlB tB PB UB hv2 => ?_)))
  (first | refine Mine.inI (show DatIn _ _ _ from hv2) fun _ => ?_ | refine Mine.inS (show DatIn _ _ _ from hv2) fun _ => ?_ | refine Mine.inB (show DatIn _ _ _ from hv2) ?_ | refine Mine.inN (show DatIn _ _ _ from hv2) ?_)
  obtain ⟨ops, hs⟩ := hs _ hB.objs.size
  refine kba_turn (value' := .Name (Str.ofString "_") ⟨0, 0, 0, 0⟩) (fun _ => rfl) (rev_D (s := { s with heap := hB, toks := tkB }) PB.F PB.N (memR _ (memR _ (memL _ hml))) hvl hl (IsPart.int _ _) (fun R us h' F' N' l1 D' => ?_) hs fun _ => rfl)
  obtain ⟨PC, UC⟩ := PB.one F' N' l1
  exact ((k.after UA).after UB) _ h' tkB _ tB PC UC (.list (memR _ (.head _)) (D'.mono fun p hp => memL p (memL p hp)))
/-- return, the mutable list in sight -/
theorem xD_returnX {e : Expr} {x : Str} {ds : List Dat} {pos : Pos} {r : Vl} (ok : CxOk w c) (hmu : mu = some (x, ds)) (h : EvalD w c c.env (upd σ x (.d (.list ds))) e r) (hd : (x == ("__debug__" : Str)) = false := by decide) : ExecD w c σ mu (.Return (some e) pos) (.ret r) := fun ex n₀ tl s Q E I k => by
  obtain ⟨m, fx, t, I⟩ := I
  obtain ⟨q, a3, a4, PM⟩ := I.preM ok hmu hd
  refine wpAny_Return_some (h _ _ _ _ _ _ _ PM fun v h' tk' add t' P U hv => ?_)
  have I' := I.afterM a3 a4 P U
  refine k _ h' tk' add (OutOk.ofRet (σ₂ := σ) (add := add) I' (hv.mono fun p hp => ?_))
  simp only [List.mem_append, List.mem_singleton] at hp ⊢
  rcases hp with ((h | h) | h) | h
  · exact .inl h
  · exact .inr (.inr (.inl h))
  · exact .inr (.inl (h ▸ a3))
  · exact .inr (.inr (.inr h))
end
end Mine

namespace Mine
theorem gB_bytes (w : World) : nsIn (Mine.top.heap_1 w.params) mainGlobals (Str.ofString "bytes") = some none := by
  have hfill := Mine.fillT w
  revert hfill
  k_fill
  intro hfill
  clear hfill
  change _ = _
  k_is
theorem gB_list (w : World) : nsIn (Mine.top.heap_1 w.params) mainGlobals (Str.ofString "list") = some none := by
  have hfill := Mine.fillT w
  revert hfill
  k_fill
  intro hfill
  clear hfill
  change _ = _
  k_is
section
variable {w : World} {c : Cx} {env : Env} {σ : Sg} {mu : Mu} {d : Vl}
/-- a name of the builtins -/
theorem eD_nameB {x : Str} {v : Value} {pos : Pos} (ok : CxOk w c) (eo : EnvOk env) (hg : nsIn (Mine.top.heap_1 w.params) mainGlobals x = some none) (hv : bootBuiltins x = some v) (hn : x ≠ "__name__" := by decide) (hb : env.builtins = builtinsNs := by rfl) (hx : env.kindOf x = some .globalImplicit := by rfl) (hdb : (x == ("__debug__" : Str)) = false := by decide) :
    EvalD w c env σ (.Name x pos) (.raw v) := fun fx m news t s Q E P k => nameG_B P.F ok hg hv hn (k.same' P (show VIn w news v (.raw v) from rfl)) eo hb hx hdb
theorem cD_isiBytes {x : Str} : CallD w c env σ (.builtin "isinstance") [.d (.str x), .raw (.type "bytes")] (.d (.bool false)) := fun fx m news t s Q E vs P D k => by
  (first | refine Mine.all2 D fun _ _ u0z h2 => ?_ | refine Mine.dall2 D fun _ _ u0z h2 => ?_)
  (first | refine Mine.inI (show DatIn _ _ _ from u0z) fun _ => ?_ | refine Mine.inS (show DatIn _ _ _ from u0z) fun _ => ?_ | refine Mine.inB (show DatIn _ _ _ from u0z) ?_ | refine Mine.inN (show DatIn _ _ _ from u0z) ?_)
  have e := (show _ = _ from h2)
  subst e
  exact IsiPair.str_bytes (k.same P (.bool _) _)
theorem eD_tupT {es : List Expr} {kk : Nat} {pos : Pos} {vs : List Value} (h : ArgsD w c env σ es (vs.map .raw)) (hl : vs.length ≤ 1000000) : EvalD w c env σ (.Tuple es kk pos) (.tup vs) := fun fx m news t s Q E P k =>
  Tuple_ (h pos _ _ _ _ _ _ _ P fun us hA tkA tlA tA PA UA hvs => by
    have hus : us = vs := by
      clear k h hl
      induction vs generalizing us with
      | nil => cases hvs; rfl
      | cons v r ih =>
        obtain _ | ⟨h1, h2⟩ := hvs
        have e := (show _ = _ from h1)
        rw [e, ih _ h2]
    subst hus
    refine newTuple_N PA.F PA.N (fun h' F' N' => ?_) (by rw [sizeLine_eq]; lia)
    have U2 : Up (fx ++ (news ++ tlA)) [(hA.objs.size, ({ cls := .type "tuple", data := .seq us.toArray } : Obj))] := PA.up (fun p hp => by rw [List.mem_singleton.mp hp]; exact Nat.le_refl _)
    exact (k.after UA) _ h' tkA _ tA (PA.grow0 (tl := [(hA.objs.size, ({ cls := .type "tuple", data := .seq us.toArray } : Obj))]) F' N' U2) U2 ⟨_, rfl, memR _ (.head _)⟩)
theorem cD_isiList {ds : List Dat} : CallD w c env σ (.builtin "isinstance") [.d (.list ds), .tup [.type "list", .type "tuple"]] (.d (.bool true)) := fun fx m news t s Q E vs P D k => by
  (first | refine Mine.all2 D fun _ _ h1 h2 => ?_ | refine Mine.dall2 D fun _ _ h1 h2 => ?_)
  refine Mine.inL (show DatIn _ _ _ from h1) fun _ _ _ hml hvl => ?_
  obtain ⟨a, rfl, hm⟩ := h2
  refine IsiPair.tupleOf (Tx := "list") (cs := [.type "list", .type "tuple"]) (vs := [true, false]) ⟨Answers.of_true F.isi_meta_list F.sub_list_list, Answers.of_false_list (by decide +kernel) F.isi_meta_tuple F.sub_list_tuple, trivial⟩ ⟨_, (P.nnw _ hml).1, rfl⟩ (P.nnw _ hm).1 fun tk => k.same P (.bool _) tk
-- methods of texts
theorem mt_startswith {x : Str} (t : Tok) (pl : Sem Bool) (s : Shared) (Q : Value × List Value → Shared → Prop) (E : Value → Shared → Prop) (h : Q (.builtin "str.startswith", [.str x t]) s) : wpAny (theM w) c.A (getMethod (.str x t) (Str.ofString "startswith") pl) Q E s := GM.startswith h
theorem mt_endswith {x : Str} (t : Tok) (pl : Sem Bool) (s : Shared) (Q : Value × List Value → Shared → Prop) (E : Value → Shared → Prop) (h : Q (.builtin "str.endswith", [.str x t]) s) : wpAny (theM w) c.A (getMethod (.str x t) (Str.ofString "endswith") pl) Q E s := GM.endswith h
theorem mt_lstrip {x : Str} (t : Tok) (pl : Sem Bool) (s : Shared) (Q : Value × List Value → Shared → Prop) (E : Value → Shared → Prop) (h : Q (.builtin "str.lstrip", [.str x t]) s) : wpAny (theM w) c.A (getMethod (.str x t) (Str.ofString "lstrip") pl) Q E s := GM.lstrip h
theorem cD_startswith {x y : Str} : CallD w c env σ (.builtin "str.startswith") [.d (.str x), .d (.str y)] (.d (.bool (Txt.startswith x y))) := fun fx m news t s Q E vs P D k => by
  (first | refine Mine.all2 D fun _ _ u0z u1z => ?_ | refine Mine.dall2 D fun _ _ u0z u1z => ?_)
  (first | refine Mine.inI (show DatIn _ _ _ from u0z) fun _ => ?_ | refine Mine.inS (show DatIn _ _ _ from u0z) fun _ => ?_ | refine Mine.inB (show DatIn _ _ _ from u0z) ?_ | refine Mine.inN (show DatIn _ _ _ from u0z) ?_)
  (first | refine Mine.inI (show DatIn _ _ _ from u1z) fun _ => ?_ | refine Mine.inS (show DatIn _ _ _ from u1z) fun _ => ?_ | refine Mine.inB (show DatIn _ _ _ from u1z) ?_ | refine Mine.inN (show DatIn _ _ _ from u1z) ?_)
  exact SC.startswith (k.same' P (.bool _))
theorem cD_endswith {x y : Str} : CallD w c env σ (.builtin "str.endswith") [.d (.str x), .d (.str y)] (.d (.bool (Txt.endswith x y))) := fun fx m news t s Q E vs P D k => by
  (first | refine Mine.all2 D fun _ _ u0z u1z => ?_ | refine Mine.dall2 D fun _ _ u0z u1z => ?_)
  (first | refine Mine.inI (show DatIn _ _ _ from u0z) fun _ => ?_ | refine Mine.inS (show DatIn _ _ _ from u0z) fun _ => ?_ | refine Mine.inB (show DatIn _ _ _ from u0z) ?_ | refine Mine.inN (show DatIn _ _ _ from u0z) ?_)
  (first | refine Mine.inI (show DatIn _ _ _ from u1z) fun _ => ?_ | refine Mine.inS (show DatIn _ _ _ from u1z) fun _ => ?_ | refine Mine.inB (show DatIn _ _ _ from u1z) ?_ | refine Mine.inN (show DatIn _ _ _ from u1z) ?_)
  exact SC.endswith (k.same' P (.bool _))
theorem cD_lstrip {x y : Str} (hl : x.length ≤ 1000000) : CallD w c env σ (.builtin "str.lstrip") [.d (.str x), .d (.str y)] (.d (.str (Txt.lstripChars x y))) := fun fx m news t s Q E vs P D k => by
  (first | refine Mine.all2 D fun _ _ u0z u1z => ?_ | refine Mine.dall2 D fun _ _ u0z u1z => ?_)
  (first | refine Mine.inI (show DatIn _ _ _ from u0z) fun _ => ?_ | refine Mine.inS (show DatIn _ _ _ from u0z) fun _ => ?_ | refine Mine.inB (show DatIn _ _ _ from u0z) ?_ | refine Mine.inN (show DatIn _ _ _ from u0z) ?_)
  (first | refine Mine.inI (show DatIn _ _ _ from u1z) fun _ => ?_ | refine Mine.inS (show DatIn _ _ _ from u1z) fun _ => ?_ | refine Mine.inB (show DatIn _ _ _ from u1z) ?_ | refine Mine.inN (show DatIn _ _ _ from u1z) ?_)
  exact SCL.lstripChars (fun t' tk _ => k.same P (.str _ _) tk) (by rw [sizeLine_eq]; lia)
theorem tD_isNS {x : Str} : TreeD w c env σ (cmpT .Is) [.d (.str x), .d .none] (.d (.bool false)) := fun fx m news t s Q E vs P D k => by
  (first | refine Mine.all2 D fun _ _ u0z u1z => ?_ | refine Mine.dall2 D fun _ _ u0z u1z => ?_)
  (first | refine Mine.inI (show DatIn _ _ _ from u0z) fun _ => ?_ | refine Mine.inS (show DatIn _ _ _ from u0z) fun _ => ?_ | refine Mine.inB (show DatIn _ _ _ from u0z) ?_ | refine Mine.inN (show DatIn _ _ _ from u0z) ?_)
  (first | refine Mine.inI (show DatIn _ _ _ from u1z) fun _ => ?_ | refine Mine.inS (show DatIn _ _ _ from u1z) fun _ => ?_ | refine Mine.inB (show DatIn _ _ _ from u1z) ?_ | refine Mine.inN (show DatIn _ _ _ from u1z) ?_)
  exact wpAny_is_other (by rfl) (by intro x; cases x) (k.same' P (.bool _))
/-- try, where nothing is raised -/
theorem xD_try {body : List Stmt} {h0 : ExceptHandler} {hs : List ExceptHandler} {pos : Pos} {o : Out} (h : ExecsD w c σ mu body o) : ExecD w c σ mu (.Try body (h0 :: hs) [] [] pos) o := fun ex n₀ tl s Q E I k => by
  refine wpAny_Try_except (h ex n₀ tl s _ _ I fun f h' tk add hO => ?_)
  have hq := k f h' tk add hO
  cases o with
  | next σ' mu' =>
    obtain ⟨rfl, _⟩ := hO
    exact wpAny_execs_nil hq
  | cont σ' mu' =>
    obtain ⟨rfl, _⟩ := hO
    exact hq
  | brk σ' mu' =>
    obtain ⟨rfl, _⟩ := hO
    exact hq
  | ret r =>
    obtain ⟨v, m, t, fx, rfl, _⟩ := hO
    exact hq
theorem d_try {body rest : List Stmt} {h0 : ExceptHandler} {hs : List ExceptHandler} {pos : Pos} {K : Out → Prop} (h : Does w c σ mu body (After w c rest K)) : Does w c σ mu (.Try body (h0 :: hs) [] [] pos :: rest) K := by
  obtain ⟨o, ho, hk⟩ := h
  cases o with
  | next σ' mu' => exact d_cons (xD_try ho) hk
  | cont σ' mu' => exact ⟨_, xD_cont (xD_try ho), hk⟩
  | brk σ' mu' => exact ⟨_, xD_brk (xD_try ho), hk⟩
  | ret r => exact ⟨_, xD_ret (xD_try ho), hk⟩
end
end Mine

namespace Mine
inductive LoopE (w : World) (c : Cx) (x1 x2 : Str) (body : List Stmt) : Nat → List Dat → Sg → Out → Prop
  | nil {i : Nat} {σ : Sg} : LoopE w c x1 x2 body i [] σ (.next σ none)
  | next {i : Nat} {d : Dat} {ds : List Dat} {σ σ' : Sg} {o : Out} : ExecsD w c (upd (upd σ x1 (.d (.int i))) x2 (.d d)) none body (.next σ' none) → LoopE w c x1 x2 body (i + 1) ds σ' o → LoopE w c x1 x2 body i (d :: ds) σ o
  | brk {i : Nat} {d : Dat} {ds : List Dat} {σ σ' : Sg} : ExecsD w c (upd (upd σ x1 (.d (.int i))) x2 (.d d)) none body (.brk σ' none) → LoopE w c x1 x2 body i (d :: ds) σ (.next σ' none)
  | ret {i : Nat} {d : Dat} {ds : List Dat} {σ : Sg} {r : Vl} : ExecsD w c (upd (upd σ x1 (.d (.int i))) x2 (.d d)) none body (.ret r) → LoopE w c x1 x2 body i (d :: ds) σ (.ret r)
section
variable {w : World} {c : Cx} {σ : Sg} {o : Out} {ex n₀ : Lg}
theorem enum_core {x1 x2 : Str} {p1 p2 tp : Pos} {kk : Nat} {body : List Stmt} {s : Shared} {Q : Flow → Shared → Prop} {E : Value → Shared → Prop} {I : Nat} {l : Addr} {lo : Obj} (ok : CxOk w c) (hx1 : c.env.kindOf x1 = some .local) (hx2 : c.env.kindOf x2 = some .local)
    (hd1 : (x1 == ("__debug__" : Str)) = false) (hd2 : (x1 == ("__classdict__" : Str)) = false) (he1 : (x2 == ("__debug__" : Str)) = false) (he2 : (x2 == ("__classdict__" : Str)) = false) :
    ∀ (ds : List Dat) (i : Nat) (vs : List Value) (σ : Sg) (tl fx : Lg) (t : Tb) (m : Str → Option Value), LoopE w c x1 x2 body i ds σ o → InX w c ex n₀ tl σ none m fx t → DatAll (n₀ ++ tl) vs ds → (l, lo) ∈ n₀ ++ tl → (∀ p ∈ tabL t ++ ((fx ++ ex) ++ (n₀ ++ tl)), neq p.1 I ∧ neq p.1 (I + 1)) →
      (∀ f h tk add, OutOk w c ex n₀ (tl ++ add) o f h → Q f { s with heap := h, toks := tk }) →
      ItemsRest PySem.Challenge.rw_in0110_01.row.prog w c.A E c.h₀ c.env (.Tuple [.Name x1 p1, .Name x2 p2] kk tp) body Q s [(I + 1, "enumerate"), (I, "list_iterator")] [(l, lo)] (enumItems i vs) m (tabL t ++ ((fx ++ ex) ++ (n₀ ++ tl))) := by
  intro ds
  induction ds with
  | nil =>
    intro i vs σ tl fx t m hL X hD hk ap k
    cases hD
    cases hL
    exact ItemsRest.zero fun h tk F N => k .next h tk [] ⟨rfl, m, fx, t, by rw [List.append_nil]; exact X.at' F N⟩
  | cons d ds ih =>
    intro i vs σ tl fx t m hL X hD hkp ap k
    obtain _ | ⟨hv, hD⟩ := hD
    rename_i v0 vs0
    refine ItemsRest.pair fun T tt h tk hT F => AllObj.cons fun o1 c1 => AllObj.cons fun o2 c2 => AllObj.nil fun N => ?_
    have hI1 : ∀ p ∈ [(I + 1, o1), (I, o2)], ∀ q ∈ tabL t ++ ((fx ++ ex) ++ (n₀ ++ tl)), neq q.1 p.1 := fun p hp q hq => by
      rcases List.mem_cons.mp hp with rfl | hp
      · exact (ap q hq).2
      · rw [List.mem_singleton.mp hp]; exact (ap q hq).1
    have I0 : InAt w c (ex ++ [(I + 1, o1), (I, o2)]) n₀ tl σ none h m fx t := by
      refine ⟨F, fun p hp => N p (by exact Mine.viaSub hp (by walk_at "mSUB")), X.tab, fun p hp => ?_, X.rho, fun q hq p hp => ?_, X.dif, fun q hq p hp => ?_, X.nd, ⟨X.cells.1, fun p hp => memL p (X.cells.2 p hp)⟩, X.mutl⟩
      · have : p ∈ (fx ++ ex) ++ (n₀ ++ tl) ∨ p ∈ [(I + 1, o1), (I, o2)] := List.mem_append.mp (by
          exact Mine.viaSub hp (by walk_at "mSUB"))
        rcases this with h | h
        · exact X.hi p h
        · exact ⟨Ne.symm (hI1 p h (219, tabObj t.1) (memL _ (.head _))), Ne.symm (hI1 p h (226, tabObj t.2) (memL _ (.tail _ (.head _))))⟩
      · have : q ∈ ex ++ n₀ ∨ q ∈ [(I + 1, o1), (I, o2)] := List.mem_append.mp (by
          exact Mine.viaSub hq (by walk_at "mSUB"))
        rcases this with h | h
        · exact X.dis q h p hp
        · exact Ne.symm (hI1 q h p (memR p (memR p (memR p hp))))
      · rcases List.mem_append.mp hp with hp | hp
        · exact X.dex q hq p hp
        · exact hI1 p hp q (memR q (memL q (memL q hq)))
    refine unpackN_ I0.F I0.N hT rfl rfl rfl fun h2 F2 N2 => ?_
    show wpAny (theM w) c.A (assignInOrder [assign (.Name x1 p1) c.env, assign (.Name x2 p2) c.env] [_, _]) _ _ _
    unfold assignInOrder
    refine wpAny_bind (wpAny_holding (assign_Name (storeX_L F2 N2 (fun h3 F3 N3 => ?_) ok.k hx1)))
    unfold assignInOrder
    refine wpAny_bind (wpAny_holding (assign_Name (storeX_L F3 N3 (fun h4 F4 N4 => ?_) ok.k hx2)))
    have J1 := I0.set (h' := h3) (x := x1) (d := .d (.int i)) (v := .int (i : Int) tt) (.int _ _) hx1 (fun _ _ h => nomatch h) hd1 hd2 F3 N3
    have J2 := J1.set (h' := h4) (x := x2) (d := .d d) hv hx2 (fun _ _ h => nomatch h) he1 he2 F4 N4
    unfold assignInOrder
    refine wpAny_pure ?_
    have back : ∀ {h' : Heap} {tk' : Nat} {add : Lg} {σ' : Sg}, InSt w c (ex ++ [(I + 1, o1), (I, o2)]) n₀ (tl ++ add) σ' none h' → LoopE w c x1 x2 body (i + 1) ds σ' o →
        UnrEndW c.h₀ c.env.locals { s with heap := h, toks := tk } [(I + 1, o1), (I, o2)] (fun m' n' => SubL [(l, lo)] n' ∧ ItemsRest PySem.Challenge.rw_in0110_01.row.prog w c.A E c.h₀ c.env (.Tuple [.Name x1 p1, .Name x2 p2] kk tp) body Q s [(I + 1, "enumerate"), (I, "list_iterator")] [(l, lo)] (enumItems (i + 1) vs0) m' n') { s with heap := h', toks := tk' } := by
      rintro h' tk' add σ' ⟨m', fx', t', I'⟩ L'
      have ap' : ∀ p ∈ tabL t' ++ ((fx' ++ ex) ++ (n₀ ++ (tl ++ add))), ∀ q ∈ [(I + 1, o1), (I, o2)], neq p.1 q.1 := fun p hp q hq => by
        have hqe : q ∈ ex ++ [(I + 1, o1), (I, o2)] := memR q hq
        rcases List.mem_append.mp hp with hp | hp
        · have e := I'.hi q (memL q (memR q hqe))
          rcases List.mem_cons.mp hp with rfl | hp
          · exact Ne.symm e.1
          · rw [List.mem_singleton.mp hp]; exact Ne.symm e.2
        · rcases List.mem_append.mp hp with hp | hp
          · rcases List.mem_append.mp hp with hp | hp
            · exact I'.dex p hp q hqe
            · exact hI1 q hq p (memR p (memL p (memR p hp)))
          · rcases List.mem_append.mp hp with hp | hp
            · exact hI1 q hq p (memR p (memR p (memL p hp)))
            · exact Ne.symm (I'.dis q (memL q hqe) p hp)
      refine ⟨h', tk', m', tabL t' ++ ((fx' ++ ex) ++ (n₀ ++ (tl ++ add))), rfl, I'.F, fun p hp => I'.N p (by exact Mine.viaSub hp (by walk_at "mSUB")), ap', ⟨?_, trivial⟩, ?_⟩
      · refine memR _ (memR _ ?_)
        rw [← List.append_assoc]; exact memL _ hkp
      · refine ih (i + 1) vs0 σ' (tl ++ add) fx' t' m' L' ⟨I'.tab, fun p hp => I'.hi p (by exact Mine.viaSub hp (by walk_at "mSUB")), I'.rho, fun q hq p hp => I'.dis q (by exact Mine.viaSub hq (by walk_at "mSUB")) p hp, I'.dif, fun q hq p hp => I'.dex q hq p (memL p hp), I'.nd, ⟨I'.cells.1, X.cells.2⟩, I'.mutl⟩
          (hD.mono fun p hp => by rw [← List.append_assoc]; exact memL p hp) (by rw [← List.append_assoc]; exact memL _ hkp) (fun p hp => ⟨ap' p hp (I, o2) (.tail _ (.head _)), ap' p hp (I + 1, o1) (.head _)⟩) fun f h tk add' hO => k f h tk (add ++ add') (by rw [← List.append_assoc]; exact hO)
    cases hL with
    | next hb hr =>
      refine hb _ _ _ _ _ _ ⟨_, _, _, J2⟩ fun f h' tk' add hO => ?_
      obtain ⟨rfl, I'⟩ := hO
      exact back I' hr
    | brk hb =>
      refine hb _ _ _ _ _ _ ⟨_, _, _, J2⟩ fun f h' tk' add hO => ?_
      obtain ⟨rfl, m', fx', t', I'⟩ := hO
      refine k .next h' tk' add ⟨rfl, m', fx', t', ?_⟩
      exact ⟨I'.F, fun p hp => I'.N p (by exact Mine.viaSub hp (by walk_at "mSUB")), I'.tab, fun p hp => I'.hi p (by exact Mine.viaSub hp (by walk_at "mSUB")), I'.rho, fun q hq p hp => I'.dis q (by exact Mine.viaSub hq (by walk_at "mSUB")) p hp, I'.dif, fun q hq p hp => I'.dex q hq p (memL p hp), I'.nd, ⟨I'.cells.1, X.cells.2⟩, I'.mutl⟩
    | ret hb =>
      refine hb _ _ _ _ _ _ ⟨_, _, _, J2⟩ fun f h' tk' add hO => ?_
      obtain ⟨v', m', t', fx', rfl, F', N', T', U', V'⟩ := hO
      exact k _ h' tk' add ⟨v', m', t', fx', rfl, F', fun p hp => N' p (by exact Mine.viaSub hp (by walk_at "mSUB")), T', U'.sub (fun p hp => by exact Mine.viaSub hp (by walk_at "mSUB")), V'⟩
theorem xD_forE {x1 x2 : Str} {e : Expr} {body : List Stmt} {p1 p2 tp np cp pos : Pos} {kk : Nat} {ds : List Dat} (ok : CxOk w c) (eo : EnvOk c.env) (h : EvalD w c c.env σ e (.d (.list ds))) (hL : LoopE w c x1 x2 body 0 ds σ o) (hx1 : c.env.kindOf x1 = some .local := by rfl) (hx2 : c.env.kindOf x2 = some .local := by rfl)
    (hd1 : (x1 == ("__debug__" : Str)) = false := by decide) (hd2 : (x1 == ("__classdict__" : Str)) = false := by decide) (he1 : (x2 == ("__debug__" : Str)) = false := by decide) (he2 : (x2 == ("__classdict__" : Str)) = false := by decide)
    (hx : c.env.kindOf (Str.ofString "enumerate") = some .globalImplicit := by rfl) (he : starEach [e] c.env = (false, eval e c.env) :: starEach [] c.env := by rfl)
    (hs : ∀ x, foldedSetIterable (.Call (.Name (Str.ofString "enumerate") np) [e] [] cp) c.env x = pure x := by intro _; rfl) :
    ExecD w c σ none (.For (.Tuple [.Name x1 p1, .Name x2 p2] kk tp) (.Call (.Name (Str.ofString "enumerate") np) [e] [] cp) body [] pos) o := fun ex n₀ tl s Q E I k => by
  obtain ⟨m, fx, t, I⟩ := I
  refine wpAny_noRaise ?_
  refine For_turns I.F ?_ hs PassesOwn.never
  refine Call_ (nameG_B I.F ok (gB_enumerate w) (v := .type "enumerate") rfl (by decide) ?_ eo rfl hx (by decide)) rfl
  refine PyProof.Rows.callWith_type1 ((aD_cons h aD_nil he) cp _ _ _ _ _ _ _ (I.pre ok) fun us hA tkA tlA tA PA UA hvs => ?_) he rfl
  (first | refine Mine.all1 hvs fun _ h1 => ?_ | refine Mine.dall1 hvs fun _ h1 => ?_)
  refine Mine.inL (show DatIn _ _ _ from h1) fun _ _ _ hml hvl => ?_
  have I' := I.after PA UA
  rw [List.append_assoc] at hml hvl
  refine ktu_enum (s := { s with heap := hA, toks := tkA }) A_handled I'.F I'.N (memR _ (memR _ hml)) rfl rfl rfl fun I hI => ?_
  refine enum_core ok hx1 hx2 hd1 hd2 he1 he2 ds 0 _ σ _ fx tA m hL I'.x hvl hml (fun p hp => ⟨Nat.ne_of_lt (hI p hp), Nat.ne_of_lt (Nat.lt_succ_of_lt (hI p hp))⟩) fun f h' tk add hO => k f h' tk (tlA ++ add) (by rw [← List.append_assoc]; exact hO)
/-- a loop over numbered data, by what holds between two turns -/
theorem d_forE {x1 x2 : Str} {e : Expr} {body rest : List Stmt} {p1 p2 tp np cp pos : Pos} {kk : Nat} {ds : List Dat} {K : Out → Prop} (Inv : Nat → Sg → Prop) (ok : CxOk w c) (eo : EnvOk c.env) (h : EvalD w c c.env σ e (.d (.list ds))) (h0 : Inv 0 σ)
    (step : ∀ i d σ, ds[i]? = some d → Inv i σ → Does w c (upd (upd σ x1 (.d (.int i))) x2 (.d d)) none body (fun o => (∃ σ', o = .next σ' none ∧ Inv (i + 1) σ') ∨ (∃ σ', o = .brk σ' none ∧ Does w c σ' none rest K) ∨ (∃ r, o = .ret r ∧ K (.ret r)))) (hr : ∀ σ', Inv ds.length σ' → Does w c σ' none rest K)
    (hx1 : c.env.kindOf x1 = some .local := by rfl) (hx2 : c.env.kindOf x2 = some .local := by rfl)
    (hd1 : (x1 == ("__debug__" : Str)) = false := by decide) (hd2 : (x1 == ("__classdict__" : Str)) = false := by decide) (he1 : (x2 == ("__debug__" : Str)) = false := by decide) (he2 : (x2 == ("__classdict__" : Str)) = false := by decide)
    (hx : c.env.kindOf (Str.ofString "enumerate") = some .globalImplicit := by rfl) (he : starEach [e] c.env = (false, eval e c.env) :: starEach [] c.env := by rfl)
    (hs : ∀ x, foldedSetIterable (.Call (.Name (Str.ofString "enumerate") np) [e] [] cp) c.env x = pure x := by intro _; rfl) :
    Does w c σ none (.For (.Tuple [.Name x1 p1, .Name x2 p2] kk tp) (.Call (.Name (Str.ofString "enumerate") np) [e] [] cp) body [] pos :: rest) K := by
  have main : ∀ (r : List Dat) (k : Nat) (σ : Sg), Inv k σ → (∀ i d σ, r[i]? = some d → Inv (k + i) σ → Does w c (upd (upd σ x1 (.d (.int ((k + i : Nat) : Int)))) x2 (.d d)) none body (fun o => (∃ σ', o = .next σ' none ∧ Inv (k + i + 1) σ') ∨ (∃ σ', o = .brk σ' none ∧ Does w c σ' none rest K) ∨ (∃ r, o = .ret r ∧ K (.ret r)))) → (∀ σ', Inv (k + r.length) σ' → Does w c σ' none rest K) →
      (∃ σ', LoopE w c x1 x2 body k r σ (.next σ' none) ∧ Does w c σ' none rest K) ∨ ∃ v, LoopE w c x1 x2 body k r σ (.ret v) ∧ K (.ret v) := by
    intro r
    induction r with
    | nil => intro k σ hI _ hr; exact .inl ⟨σ, .nil, hr σ hI⟩
    | cons d r ih =>
      intro k σ hI step hr
      obtain ⟨o, hb, hK⟩ := step 0 d σ rfl hI
      rcases hK with ⟨σ', rfl, hI'⟩ | ⟨σ', rfl, hD⟩ | ⟨v, rfl, hK⟩
      · rcases ih (k + 1) σ' hI' (fun i d σ hi hI => by
          have := step (i + 1) d σ hi (by rw [show k + (i + 1) = k + 1 + i by lia]; exact hI)
          rw [show k + 1 + i = k + (i + 1) by lia]; exact this) (fun σ' h => hr σ' (by rw [List.length_cons, show k + (r.length + 1) = k + 1 + r.length by lia]; exact h)) with ⟨σ'', hL, hD⟩ | ⟨v, hL, hK⟩
        · exact .inl ⟨σ'', .next hb hL, hD⟩
        · exact .inr ⟨v, .next hb hL, hK⟩
      · exact .inl ⟨σ', .brk hb, hD⟩
      · exact .inr ⟨v, .ret hb, hK⟩
  rcases main ds 0 σ h0 (fun i d σ hi hI => by rw [Nat.zero_add] at hI ⊢; exact step i d σ hi hI) (fun σ' h => hr σ' (by rw [Nat.zero_add] at h; exact h)) with ⟨σ', hL, hD⟩ | ⟨v, hL, hK⟩
  · exact d_cons (xD_forE ok eo h hL hx1 hx2 hd1 hd2 he1 he2 hx he hs) hD
  · exact ⟨_, xD_ret (xD_forE ok eo h hL hx1 hx2 hd1 hd2 he1 he2 hx he hs), hK⟩
end
end Mine

namespace Mine
section
variable {prog : Program} {w : World} {A : Around} {E : Value → Shared → Prop} {s : Shared}
theorem max_two {l : Addr} {x0 x1 : Value} {b : Bool} {Q : Value → Shared → Prop} (hh : A.handled = none) (hl : s.heap.IsList l #[x0, x1])
    (hcmp : ∀ (s' : Shared) (Q' : Value → Shared → Prop) (E' : Value → Shared → Prop), (∀ a o, s.heap.get? a = some o → s'.heap.get? a = some o) → (∀ tk, Q' (.bool b) { s' with toks := tk }) → wpAny (model prog w) A.in1 (richCompare .Gt x1 x0) Q' E' s')
    (h : ∀ h' tk, (∀ a o, s.heap.get? a = some o → h'.get? a = some o) → Q (if b then x1 else x0) { s with heap := h', toks := tk }) : wpAny (model prog w) A (call (.builtin "max") [.ref l]) Q E s := by
  have hname : (toString "max" ++ toString ".loop" : String) = "max.loop" := by decide
  have hlt : l < s.heap.objs.size := by obtain ⟨_, e, _⟩ := hl; exact Heap.lt_size e
  refine call_function_tree F.kind_max F.plain_max F.entry_max (F.args_max1 _) ?_
  show wpAny _ A.in1 (Builtin.Builtins.bindParams "max" ["key", "default"] 0 ⟨[], []⟩ >>= _) _ _ s
  refine wpAny_bind (wpAny_of_eq (show Builtin.Builtins.bindParams "max" ["key", "default"] 0 ⟨[], []⟩ = pure [none, none] from rfl) ?_)
  refine wpAny_bind (wpAny_pure ?_)
  refine wpAny_bind (wpAny_pyIter_list hl ?_)
  refine wpAny_bind (wpAny_newObj_type ?_)
  rw [hname]
  generalize hI : s.heap.objs.size = I
  generalize hP1 : s.heap.push { cls := .type "list_iterator", data := .fields #[.ref l, .int 0 0] } = H1
  have hsz1 : H1.objs.size = I + 1 := by rw [← hP1, Heap.size_push, hI]
  have hlI : l ≠ I := hI ▸ Nat.ne_of_lt hlt
  have W := Walks.list (prog := prog) (w := w) (A := A.in1) hh I l hlI #[x0, x1]
  have old0 : ∀ a o, s.heap.get? a = some o → a ≠ I ∧ a ≠ H1.objs.size := fun a o e => by
    have := Heap.lt_size e
    rw [hI] at this
    exact ⟨Nat.ne_of_lt this, by rw [hsz1]; exact Nat.ne_of_lt (Nat.lt_succ_of_lt this)⟩
  have st0 : (H1.push { cls := .type "list", data := .seq ([] : List Value).toArray }).IsListIter I l 0 ∧ (H1.push { cls := .type "list", data := .seq ([] : List Value).toArray }).IsList l #[x0, x1] := by
    subst hP1
    subst hI
    exact ⟨⟨_, Heap.get?_push_of_some _ (Heap.get?_push_size _ rfl), rfl, rfl⟩, (hl.push _).push _⟩
  have hIS : I ≠ H1.objs.size := by rw [hsz1]; exact Nat.ne_of_lt (Nat.lt_succ_self _)
  have hlS : l ≠ H1.objs.size := by rw [hsz1, ← hI]; exact Nat.ne_of_lt (Nat.lt_succ_of_lt hlt)
  have old1 : ∀ a o, s.heap.get? a = some o → (H1.push { cls := .type "list", data := .seq ([] : List Value).toArray }).get? a = some o := fun a o e => by
    subst hP1
    exact Heap.get?_push_of_some _ (Heap.get?_push_of_some _ e)
  have hS0 : (H1.push { cls := .type "list", data := .seq ([] : List Value).toArray }).get? H1.objs.size = some { cls := .type "list", dict := none, data := .seq #[] 0, slots := #[] } := Heap.get?_push_size _ rfl
  generalize H1.objs.size = S at *
  generalize H1.push { cls := .type "list", data := .seq ([] : List Value).toArray } = H2 at *
  -- the first item
  refine wpAny_pure ⟨plainId_quiet F.plain_max_loop _, codeAny_builtin F.entry_max_loop ?_⟩
  rw [Around.under_plainId F.plain_max_loop _]
  show wpAny _ A.in1 (seqItems? (.ref S) >>= _) _ _ _
  refine wpAny_bind (wpAny_seqItems hS0 rfl ?_)
  show wpAny _ A.in1 (tryCatch (pyNext (.ref I)) _ >>= _) _ _ _
  refine wpAny_bind (wpAny_tryCatch (W.item 0 _ _ _ (by simp) st0 fun v h1 tk1 hv st1 hk1 => ?_))
  have hv0 : v = x0 := by simpa using hv.symm
  subst hv0
  have hS1 := hk1 S _ (by simpa using Ne.symm hIS) hS0
  show wpAny _ A.in1 (updateSeq S (fun _ => #[v, v]) >>= _) _ _ _
  refine wpAny_bind ?_
  refine wpAny_updateSeq hS1 rfl ?_
  rw [hname]
  have st1' := W.frame 1 _ (h1.update S (Obj.mapSeq fun _ => #[v, v])) st1 fun b hb o e => (Heap.get?_update_other _ _ (fun q : S = b => by
    rcases List.mem_cons.mp hb with hb | hb
    · exact hIS (hb.symm.trans q.symm)
    · rw [List.mem_singleton] at hb; exact hlS (hb.symm.trans q.symm))).trans e
  have old2 : ∀ a o, s.heap.get? a = some o → (h1.update S (Obj.mapSeq fun _ => #[v, v])).get? a = some o := fun a o e => (Heap.get?_update_other _ _ (Ne.symm (old0 a o e).2)).trans (hk1 a o (by simpa using (old0 a o e).1) (old1 a o e))
  have hS2 := Heap.get?_update_self (Obj.mapSeq fun _ => #[v, v]) hS1 rfl
  generalize h1.update S (Obj.mapSeq fun _ => #[v, v]) = H3 at *
  -- the second item
  refine wpAny_pure ⟨plainId_quiet F.plain_max_loop _, codeAny_builtin F.entry_max_loop ?_⟩
  rw [Around.under_plainId F.plain_max_loop _]
  show wpAny _ A.in1 (seqItems? (.ref S) >>= _) _ _ _
  refine wpAny_bind (wpAny_seqItems hS2 rfl ?_)
  show wpAny _ A.in1 (tryCatch (pyNext (.ref I)) _ >>= _) _ _ _
  refine wpAny_bind (wpAny_tryCatch (W.item 1 _ _ _ (by simp) st1' fun u h2 tk2 hu st2 hk2 => ?_))
  have hu1 : u = x1 := by simpa using hu.symm
  subst hu1
  have hS3 := hk2 S _ (by simpa using Ne.symm hIS) hS2
  show wpAny _ A.in1 (tryCatch (holding [u, u] (richCompare .Gt u v >>= _)) _ >>= _) _ _ _
  have old3 : ∀ a o, s.heap.get? a = some o → h2.get? a = some o := fun a o e => hk2 a o (by simpa using (old0 a o e).1) (old2 a o e)
  refine wpAny_bind (wpAny_tryCatch (wpAny_holding (wpAny_bind (hcmp _ _ _ old3 fun tk3 => ?_))))
  refine wpAny_bind (wpAny_holding (wpAny_truthy_bool ?_))
  refine wpAny_bind (wpAny_letGo (wpAny_pure ?_))
  have last : ∀ (H : Heap) (tk : Nat) (vb : Value) (cc : Nat), H.get? S = some { cls := .type "list", dict := none, data := .seq #[vb, vb] cc, slots := #[] } → (H.IsListIter I l 2 ∧ H.IsList l #[v, u]) → (∀ a o, s.heap.get? a = some o → H.get? a = some o) → (∀ h' tk, (∀ a o, s.heap.get? a = some o → h'.get? a = some o) → Q vb { s with heap := h', toks := tk }) →
      codeAny (model prog w) A (.builtin "max.loop" ⟨[.ref I, .none, .ref S], []⟩) (fun r s' => match r with | .ok (.ret v) => Q v s' | .ok _ => False | .error e => E e s') { s with heap := H, toks := tk } := by
    intro H tk vb cc hS4 st hold hq
    refine codeAny_builtin F.entry_max_loop ?_
    rw [Around.under_plainId F.plain_max_loop _]
    show wpAny _ A.in1 (seqItems? (.ref S) >>= _) _ _ _
    refine wpAny_bind (wpAny_seqItems hS4 rfl ?_)
    show wpAny _ A.in1 (tryCatch (pyNext (.ref I)) _ >>= _) _ _ _
    refine wpAny_bind (wpAny_tryCatch (W.done _ _ _ st fun h' tk' hk' => ?_))
    have hS5 := hk' S _ (by simpa using Ne.symm hIS) hS4
    show wpAny _ A.in1 (updateSeq S (fun _ => #[]) >>= _) _ _ _
    refine wpAny_bind ?_
    refine wpAny_updateSeq hS5 rfl (wpAny_bind (wpAny_letGo (wpAny_pure ?_)))
    exact hq _ tk' fun a o e => (Heap.get?_update_other _ _ (Ne.symm (old0 a o e).2)).trans (hk' a o (by simpa using (old0 a o e).1) (hold a o e))
  cases b with
  | true =>
    simp only [if_true] at h ⊢
    refine wpAny_bind ?_
    refine wpAny_updateSeq hS3 rfl (wpAny_bind (wpAny_letGo ?_))
    rw [hname]
    refine wpAny_pure ⟨plainId_quiet F.plain_max_loop _, last _ _ u _ (Heap.get?_update_self _ hS3 rfl) ?_ (fun a o e => (Heap.get?_update_other _ _ (Ne.symm (old0 a o e).2)).trans (old3 a o e)) h⟩
    exact W.frame 2 _ _ st2 fun b hb o e => (Heap.get?_update_other _ _ (fun q : S = b => by
      rcases List.mem_cons.mp hb with hb | hb
      · exact hIS (hb.symm.trans q.symm)
      · rw [List.mem_singleton] at hb; exact hlS (hb.symm.trans q.symm))).trans e
  | false =>
    simp only [Bool.false_eq_true, if_false] at h ⊢
    refine wpAny_bind (wpAny_letGo ?_)
    rw [hname]
    exact wpAny_pure ⟨plainId_quiet F.plain_max_loop _, last _ _ v _ hS3 st2 old3 h⟩
theorem min_two {l : Addr} {x0 x1 : Value} {b : Bool} {Q : Value → Shared → Prop} (hh : A.handled = none) (hl : s.heap.IsList l #[x0, x1])
    (hcmp : ∀ (s' : Shared) (Q' : Value → Shared → Prop) (E' : Value → Shared → Prop), (∀ a o, s.heap.get? a = some o → s'.heap.get? a = some o) → (∀ tk, Q' (.bool b) { s' with toks := tk }) → wpAny (model prog w) A.in1 (richCompare .Lt x1 x0) Q' E' s')
    (h : ∀ h' tk, (∀ a o, s.heap.get? a = some o → h'.get? a = some o) → Q (if b then x1 else x0) { s with heap := h', toks := tk }) : wpAny (model prog w) A (call (.builtin "min") [.ref l]) Q E s := by
  have hname : (toString "min" ++ toString ".loop" : String) = "min.loop" := by decide
  have hlt : l < s.heap.objs.size := by obtain ⟨_, e, _⟩ := hl; exact Heap.lt_size e
  refine call_function_tree F.kind_min F.plain_min F.entry_min (F.args_min1 _) ?_
  show wpAny _ A.in1 (Builtin.Builtins.bindParams "min" ["key", "default"] 0 ⟨[], []⟩ >>= _) _ _ s
  refine wpAny_bind (wpAny_of_eq (show Builtin.Builtins.bindParams "min" ["key", "default"] 0 ⟨[], []⟩ = pure [none, none] from rfl) ?_)
  refine wpAny_bind (wpAny_pure ?_)
  refine wpAny_bind (wpAny_pyIter_list hl ?_)
  refine wpAny_bind (wpAny_newObj_type ?_)
  rw [hname]
  generalize hI : s.heap.objs.size = I
  generalize hP1 : s.heap.push { cls := .type "list_iterator", data := .fields #[.ref l, .int 0 0] } = H1
  have hsz1 : H1.objs.size = I + 1 := by rw [← hP1, Heap.size_push, hI]
  have hlI : l ≠ I := hI ▸ Nat.ne_of_lt hlt
  have W := Walks.list (prog := prog) (w := w) (A := A.in1) hh I l hlI #[x0, x1]
  have old0 : ∀ a o, s.heap.get? a = some o → a ≠ I ∧ a ≠ H1.objs.size := fun a o e => by
    have := Heap.lt_size e
    rw [hI] at this
    exact ⟨Nat.ne_of_lt this, by rw [hsz1]; exact Nat.ne_of_lt (Nat.lt_succ_of_lt this)⟩
  have st0 : (H1.push { cls := .type "list", data := .seq ([] : List Value).toArray }).IsListIter I l 0 ∧ (H1.push { cls := .type "list", data := .seq ([] : List Value).toArray }).IsList l #[x0, x1] := by
    subst hP1
    subst hI
    exact ⟨⟨_, Heap.get?_push_of_some _ (Heap.get?_push_size _ rfl), rfl, rfl⟩, (hl.push _).push _⟩
  have hIS : I ≠ H1.objs.size := by rw [hsz1]; exact Nat.ne_of_lt (Nat.lt_succ_self _)
  have hlS : l ≠ H1.objs.size := by rw [hsz1, ← hI]; exact Nat.ne_of_lt (Nat.lt_succ_of_lt hlt)
  have old1 : ∀ a o, s.heap.get? a = some o → (H1.push { cls := .type "list", data := .seq ([] : List Value).toArray }).get? a = some o := fun a o e => by
    subst hP1
    exact Heap.get?_push_of_some _ (Heap.get?_push_of_some _ e)
  have hS0 : (H1.push { cls := .type "list", data := .seq ([] : List Value).toArray }).get? H1.objs.size = some { cls := .type "list", dict := none, data := .seq #[] 0, slots := #[] } := Heap.get?_push_size _ rfl
  generalize H1.objs.size = S at *
  generalize H1.push { cls := .type "list", data := .seq ([] : List Value).toArray } = H2 at *
  -- the first item
  refine wpAny_pure ⟨plainId_quiet F.plain_min_loop _, codeAny_builtin F.entry_min_loop ?_⟩
  rw [Around.under_plainId F.plain_min_loop _]
  show wpAny _ A.in1 (seqItems? (.ref S) >>= _) _ _ _
  refine wpAny_bind (wpAny_seqItems hS0 rfl ?_)
  show wpAny _ A.in1 (tryCatch (pyNext (.ref I)) _ >>= _) _ _ _
  refine wpAny_bind (wpAny_tryCatch (W.item 0 _ _ _ (by simp) st0 fun v h1 tk1 hv st1 hk1 => ?_))
  have hv0 : v = x0 := by simpa using hv.symm
  subst hv0
  have hS1 := hk1 S _ (by simpa using Ne.symm hIS) hS0
  show wpAny _ A.in1 (updateSeq S (fun _ => #[v, v]) >>= _) _ _ _
  refine wpAny_bind ?_
  refine wpAny_updateSeq hS1 rfl ?_
  rw [hname]
  have st1' := W.frame 1 _ (h1.update S (Obj.mapSeq fun _ => #[v, v])) st1 fun b hb o e => (Heap.get?_update_other _ _ (fun q : S = b => by
    rcases List.mem_cons.mp hb with hb | hb
    · exact hIS (hb.symm.trans q.symm)
    · rw [List.mem_singleton] at hb; exact hlS (hb.symm.trans q.symm))).trans e
  have old2 : ∀ a o, s.heap.get? a = some o → (h1.update S (Obj.mapSeq fun _ => #[v, v])).get? a = some o := fun a o e => (Heap.get?_update_other _ _ (Ne.symm (old0 a o e).2)).trans (hk1 a o (by simpa using (old0 a o e).1) (old1 a o e))
  have hS2 := Heap.get?_update_self (Obj.mapSeq fun _ => #[v, v]) hS1 rfl
  generalize h1.update S (Obj.mapSeq fun _ => #[v, v]) = H3 at *
  -- the second item
  refine wpAny_pure ⟨plainId_quiet F.plain_min_loop _, codeAny_builtin F.entry_min_loop ?_⟩
  rw [Around.under_plainId F.plain_min_loop _]
  show wpAny _ A.in1 (seqItems? (.ref S) >>= _) _ _ _
  refine wpAny_bind (wpAny_seqItems hS2 rfl ?_)
  show wpAny _ A.in1 (tryCatch (pyNext (.ref I)) _ >>= _) _ _ _
  refine wpAny_bind (wpAny_tryCatch (W.item 1 _ _ _ (by simp) st1' fun u h2 tk2 hu st2 hk2 => ?_))
  have hu1 : u = x1 := by simpa using hu.symm
  subst hu1
  have hS3 := hk2 S _ (by simpa using Ne.symm hIS) hS2
  show wpAny _ A.in1 (tryCatch (holding [u, u] (richCompare .Lt u v >>= _)) _ >>= _) _ _ _
  have old3 : ∀ a o, s.heap.get? a = some o → h2.get? a = some o := fun a o e => hk2 a o (by simpa using (old0 a o e).1) (old2 a o e)
  refine wpAny_bind (wpAny_tryCatch (wpAny_holding (wpAny_bind (hcmp _ _ _ old3 fun tk3 => ?_))))
  refine wpAny_bind (wpAny_holding (wpAny_truthy_bool ?_))
  refine wpAny_bind (wpAny_letGo (wpAny_pure ?_))
  have last : ∀ (H : Heap) (tk : Nat) (vb : Value) (cc : Nat), H.get? S = some { cls := .type "list", dict := none, data := .seq #[vb, vb] cc, slots := #[] } → (H.IsListIter I l 2 ∧ H.IsList l #[v, u]) → (∀ a o, s.heap.get? a = some o → H.get? a = some o) → (∀ h' tk, (∀ a o, s.heap.get? a = some o → h'.get? a = some o) → Q vb { s with heap := h', toks := tk }) →
      codeAny (model prog w) A (.builtin "min.loop" ⟨[.ref I, .none, .ref S], []⟩) (fun r s' => match r with | .ok (.ret v) => Q v s' | .ok _ => False | .error e => E e s') { s with heap := H, toks := tk } := by
    intro H tk vb cc hS4 st hold hq
    refine codeAny_builtin F.entry_min_loop ?_
    rw [Around.under_plainId F.plain_min_loop _]
    show wpAny _ A.in1 (seqItems? (.ref S) >>= _) _ _ _
    refine wpAny_bind (wpAny_seqItems hS4 rfl ?_)
    show wpAny _ A.in1 (tryCatch (pyNext (.ref I)) _ >>= _) _ _ _
    refine wpAny_bind (wpAny_tryCatch (W.done _ _ _ st fun h' tk' hk' => ?_))
    have hS5 := hk' S _ (by simpa using Ne.symm hIS) hS4
    show wpAny _ A.in1 (updateSeq S (fun _ => #[]) >>= _) _ _ _
    refine wpAny_bind ?_
    refine wpAny_updateSeq hS5 rfl (wpAny_bind (wpAny_letGo (wpAny_pure ?_)))
    exact hq _ tk' fun a o e => (Heap.get?_update_other _ _ (Ne.symm (old0 a o e).2)).trans (hk' a o (by simpa using (old0 a o e).1) (hold a o e))
  cases b with
  | true =>
    simp only [if_true] at h ⊢
    refine wpAny_bind ?_
    refine wpAny_updateSeq hS3 rfl (wpAny_bind (wpAny_letGo ?_))
    rw [hname]
    refine wpAny_pure ⟨plainId_quiet F.plain_min_loop _, last _ _ u _ (Heap.get?_update_self _ hS3 rfl) ?_ (fun a o e => (Heap.get?_update_other _ _ (Ne.symm (old0 a o e).2)).trans (old3 a o e)) h⟩
    exact W.frame 2 _ _ st2 fun b hb o e => (Heap.get?_update_other _ _ (fun q : S = b => by
      rcases List.mem_cons.mp hb with hb | hb
      · exact hIS (hb.symm.trans q.symm)
      · rw [List.mem_singleton] at hb; exact hlS (hb.symm.trans q.symm))).trans e
  | false =>
    simp only [Bool.false_eq_true, if_false] at h ⊢
    refine wpAny_bind (wpAny_letGo ?_)
    rw [hname]
    exact wpAny_pure ⟨plainId_quiet F.plain_min_loop _, last _ _ v _ hS3 st2 old3 h⟩
end
end Mine

namespace Mine
open Builtin
noncomputable def ltL : List Str → List Str → Bool
  | [], ys => decide (0 < ys.length)
  | _ :: _, [] => false
  | x :: xs, y :: ys => if x = y then ltL xs ys else decide (x.cps.toList < y.cps.toList)
noncomputable def gtL : List Str → List Str → Bool
  | [], _ => false
  | _ :: _, [] => true
  | x :: xs, y :: ys => if x = y then gtL xs ys else decide (y.cps.toList < x.cps.toList)
theorem lt_loop (l b : Addr) (items items2 : Array Value) (n n2 : Nat) (xs ys : List Str) (hx : ∀ (j : Nat) (x : Str), xs[j]? = some x → ∃ t, items[j]? = some (Value.str x t)) (hy : ∀ (j : Nat) (y : Str), ys[j]? = some y → ∃ t, items2[j]? = some (Value.str y t)) (hxl : items.size = xs.length) (hyl : items2.size = ys.length) (k : Nat) :
    ∀ i : Nat, xs.length - i = k → i ≤ xs.length → i ≤ ys.length → Meets (Builtin.«list.__eq__.loop» ⟨[.ref l, .ref b, rawInt i, rawInt 0], []⟩)
      (fun _ R s => s.heap.get? l = some { cls := .type "list", dict := none, data := .seq items n, slots := #[] } ∧ s.heap.get? b = some { cls := .type "list", dict := none, data := .seq items2 n2, slots := #[] } ∧
        ∀ tk, R (.ok (.ret (.bool (ltL (xs.drop i) (ys.drop i))))) { s with toks := tk }) := by
  have stop : ∀ i : Nat, i ≤ xs.length → i ≤ ys.length → (xs[i]? = none ∨ ys[i]? = none) → ltL (xs.drop i) (ys.drop i) = decide (xs.length < ys.length) := by
    intro i h1 h2 hn
    rcases hn with hn | hn
    · have e := List.getElem?_eq_none_iff.mp hn
      have : i = xs.length := Nat.le_antisymm h1 e
      rw [List.drop_of_length_le e]
      cases hq : ys.drop i with
      | nil =>
        have := congrArg List.length hq
        simp at this
        unfold ltL
        simp; lia
      | cons y r =>
        have := congrArg List.length hq
        simp at this
        unfold ltL
        simp; lia
    · have e := List.getElem?_eq_none_iff.mp hn
      have : i = ys.length := Nat.le_antisymm h2 e
      rw [List.drop_of_length_le e]
      cases hq : xs.drop i with
      | nil =>
        have := congrArg List.length hq
        simp at this
        unfold ltL
        simp; lia
      | cons y r =>
        have := congrArg List.length hq
        simp at this
        unfold ltL
        simp; lia
  have fin : ∀ i : Nat, i ≤ xs.length → i ≤ ys.length → (xs[i]? = none ∨ ys[i]? = none) → Meets (Builtin.«list.__eq__.loop» ⟨[.ref l, .ref b, rawInt i, rawInt 0], []⟩)
      (fun _ R s => s.heap.get? l = some { cls := .type "list", dict := none, data := .seq items n, slots := #[] } ∧ s.heap.get? b = some { cls := .type "list", dict := none, data := .seq items2 n2, slots := #[] } ∧
        ∀ tk, R (.ok (.ret (.bool (ltL (xs.drop i) (ys.drop i))))) { s with toks := tk }) := by
    intro i h1 h2 hn prog w A R s h
    obtain ⟨hp, g, d, tk, os⟩ := s; obtain ⟨hl, hb, h⟩ := h
    rw [stop i h1 h2 hn] at h
    have e1 : items[((i : Nat) : Int).toNat]? = items[i]? := by simp
    have e2 : items2[((i : Nat) : Int).toNat]? = items2[i]? := by simp
    wp_walk using AutoSeq1.wpAny_loadPart' hl, AutoSeq1.wpAny_loadPart' hb
    rw [e1, e2]
    have hs : ∀ (a : Option Value) (c : Option Value), (a = none ∨ c = none) → a = items[i]? → c = items2[i]? → True := fun _ _ _ _ _ => trivial
    rcases hn with hn | hn
    · have : items[i]? = none := by rw [Array.getElem?_eq_none_iff, hxl]; exact List.getElem?_eq_none_iff.mp hn
      rw [this]
      wp_walk using AutoSeq1.wpAny_loadPart' hl, AutoSeq1.wpAny_loadPart' hb
      show R (.ok (.ret (.bool (items.size < items2.size)))) _
      rw [hxl, hyl]
      exact h _
    · have e3 : items2[i]? = none := by rw [Array.getElem?_eq_none_iff, hyl]; exact List.getElem?_eq_none_iff.mp hn
      rw [e3]
      cases items[i]? with
      | none =>
        wp_walk using AutoSeq1.wpAny_loadPart' hl, AutoSeq1.wpAny_loadPart' hb
        show R (.ok (.ret (.bool (items.size < items2.size)))) _
        rw [hxl, hyl]
        exact h _
      | some v =>
        wp_walk using AutoSeq1.wpAny_loadPart' hl, AutoSeq1.wpAny_loadPart' hb
        show R (.ok (.ret (.bool (items.size < items2.size)))) _
        rw [hxl, hyl]
        exact h _
  induction k with
  | zero =>
    intro i hk h1 h2
    exact fin i h1 h2 (.inl (List.getElem?_eq_none (by lia)))
  | succ k ih =>
    intro i hk h1 h2
    by_cases hy' : ys.length ≤ i
    · exact fin i h1 h2 (.inr (List.getElem?_eq_none hy'))
    · intro prog w A R s h
      obtain ⟨hp, g, d, tk, os⟩ := s; obtain ⟨hl, hb, h⟩ := h
      have hlt : i < xs.length := by lia
      have hlt2 : i < ys.length := by lia
      obtain ⟨t1, i1⟩ := hx i xs[i] (List.getElem?_eq_getElem hlt)
      obtain ⟨t2, i2⟩ := hy i ys[i] (List.getElem?_eq_getElem hlt2)
      have e1 : items[((i : Nat) : Int).toNat]? = some (.str xs[i] t1) := by simpa using i1
      have e2 : items2[((i : Nat) : Int).toNat]? = some (.str ys[i] t2) := by simpa using i2
      have hc : ((i : Int) + 1) = ((i + 1 : Nat) : Int) := by push_cast; rfl
      rw [List.drop_eq_getElem_cons hlt, List.drop_eq_getElem_cons hlt2] at h
      wp_walk using AutoSeq1.wpAny_loadPart' hl, AutoSeq1.wpAny_loadPart' hb
      rw [e1, e2]
      refine wpAny_bind (wpAny_eqBool_str ?_)
      by_cases hq : xs[i] = ys[i]
      · rw [decide_eq_true hq]
        wp_walk
        rw [hc]
        refine ⟨plainId_quiet MeetsSeq3.plain_eq_loop _, codeAny_builtin MeetsSeq3.entry_eq_loop ?_⟩
        rw [Around.under_plainId MeetsSeq3.plain_eq_loop _]
        refine ih (i + 1) (by lia) hlt hlt2 prog w A R _ ⟨hl, hb, fun tk => ?_⟩
        have := h tk
        rw [ltL, if_pos hq] at this
        exact this
      · rw [decide_eq_false hq]
        wp_walk using AutoSeq1.wpAny_loadPart' hl, AutoSeq1.wpAny_loadPart' hb
        rw [e1, e2]
        show wpAny _ _ (compareOp .Lt (.str xs[i] t1) (.str ys[i] t2) >>= _) _ _ _
        refine wpAny_bind (PySem.P.lt_str ?_)
        refine wpAny_pure ?_
        have := h tk
        rw [ltL, if_neg hq] at this
        exact this
theorem gt_loop (l b : Addr) (items items2 : Array Value) (n n2 : Nat) (xs ys : List Str) (hx : ∀ (j : Nat) (x : Str), xs[j]? = some x → ∃ t, items[j]? = some (Value.str x t)) (hy : ∀ (j : Nat) (y : Str), ys[j]? = some y → ∃ t, items2[j]? = some (Value.str y t)) (hxl : items.size = xs.length) (hyl : items2.size = ys.length) (k : Nat) :
    ∀ i : Nat, xs.length - i = k → i ≤ xs.length → i ≤ ys.length → Meets (Builtin.«list.__eq__.loop» ⟨[.ref l, .ref b, rawInt i, rawInt 4], []⟩)
      (fun _ R s => s.heap.get? l = some { cls := .type "list", dict := none, data := .seq items n, slots := #[] } ∧ s.heap.get? b = some { cls := .type "list", dict := none, data := .seq items2 n2, slots := #[] } ∧
        ∀ tk, R (.ok (.ret (.bool (gtL (xs.drop i) (ys.drop i))))) { s with toks := tk }) := by
  have stop : ∀ i : Nat, i ≤ xs.length → i ≤ ys.length → (xs[i]? = none ∨ ys[i]? = none) → gtL (xs.drop i) (ys.drop i) = decide (xs.length > ys.length) := by
    intro i h1 h2 hn
    rcases hn with hn | hn
    · have e := List.getElem?_eq_none_iff.mp hn
      have : i = xs.length := Nat.le_antisymm h1 e
      rw [List.drop_of_length_le e]
      cases hq : ys.drop i with
      | nil =>
        have := congrArg List.length hq
        simp at this
        unfold gtL
        simp; lia
      | cons y r =>
        have := congrArg List.length hq
        simp at this
        unfold gtL
        simp; lia
    · have e := List.getElem?_eq_none_iff.mp hn
      have : i = ys.length := Nat.le_antisymm h2 e
      rw [List.drop_of_length_le e]
      cases hq : xs.drop i with
      | nil =>
        have := congrArg List.length hq
        simp at this
        unfold gtL
        simp; lia
      | cons y r =>
        have := congrArg List.length hq
        simp at this
        unfold gtL
        simp; lia
  have fin : ∀ i : Nat, i ≤ xs.length → i ≤ ys.length → (xs[i]? = none ∨ ys[i]? = none) → Meets (Builtin.«list.__eq__.loop» ⟨[.ref l, .ref b, rawInt i, rawInt 4], []⟩)
      (fun _ R s => s.heap.get? l = some { cls := .type "list", dict := none, data := .seq items n, slots := #[] } ∧ s.heap.get? b = some { cls := .type "list", dict := none, data := .seq items2 n2, slots := #[] } ∧
        ∀ tk, R (.ok (.ret (.bool (gtL (xs.drop i) (ys.drop i))))) { s with toks := tk }) := by
    intro i h1 h2 hn prog w A R s h
    obtain ⟨hp, g, d, tk, os⟩ := s; obtain ⟨hl, hb, h⟩ := h
    rw [stop i h1 h2 hn] at h
    have e1 : items[((i : Nat) : Int).toNat]? = items[i]? := by simp
    have e2 : items2[((i : Nat) : Int).toNat]? = items2[i]? := by simp
    wp_walk using AutoSeq1.wpAny_loadPart' hl, AutoSeq1.wpAny_loadPart' hb
    rw [e1, e2]
    have hs : ∀ (a : Option Value) (c : Option Value), (a = none ∨ c = none) → a = items[i]? → c = items2[i]? → True := fun _ _ _ _ _ => trivial
    rcases hn with hn | hn
    · have : items[i]? = none := by rw [Array.getElem?_eq_none_iff, hxl]; exact List.getElem?_eq_none_iff.mp hn
      rw [this]
      wp_walk using AutoSeq1.wpAny_loadPart' hl, AutoSeq1.wpAny_loadPart' hb
      show R (.ok (.ret (.bool (items.size > items2.size)))) _
      rw [hxl, hyl]
      exact h _
    · have e3 : items2[i]? = none := by rw [Array.getElem?_eq_none_iff, hyl]; exact List.getElem?_eq_none_iff.mp hn
      rw [e3]
      cases items[i]? with
      | none =>
        wp_walk using AutoSeq1.wpAny_loadPart' hl, AutoSeq1.wpAny_loadPart' hb
        show R (.ok (.ret (.bool (items.size > items2.size)))) _
        rw [hxl, hyl]
        exact h _
      | some v =>
        wp_walk using AutoSeq1.wpAny_loadPart' hl, AutoSeq1.wpAny_loadPart' hb
        show R (.ok (.ret (.bool (items.size > items2.size)))) _
        rw [hxl, hyl]
        exact h _
  induction k with
  | zero =>
    intro i hk h1 h2
    exact fin i h1 h2 (.inl (List.getElem?_eq_none (by lia)))
  | succ k ih =>
    intro i hk h1 h2
    by_cases hy' : ys.length ≤ i
    · exact fin i h1 h2 (.inr (List.getElem?_eq_none hy'))
    · intro prog w A R s h
      obtain ⟨hp, g, d, tk, os⟩ := s; obtain ⟨hl, hb, h⟩ := h
      have hlt : i < xs.length := by lia
      have hlt2 : i < ys.length := by lia
      obtain ⟨t1, i1⟩ := hx i xs[i] (List.getElem?_eq_getElem hlt)
      obtain ⟨t2, i2⟩ := hy i ys[i] (List.getElem?_eq_getElem hlt2)
      have e1 : items[((i : Nat) : Int).toNat]? = some (.str xs[i] t1) := by simpa using i1
      have e2 : items2[((i : Nat) : Int).toNat]? = some (.str ys[i] t2) := by simpa using i2
      have hc : ((i : Int) + 1) = ((i + 1 : Nat) : Int) := by push_cast; rfl
      rw [List.drop_eq_getElem_cons hlt, List.drop_eq_getElem_cons hlt2] at h
      wp_walk using AutoSeq1.wpAny_loadPart' hl, AutoSeq1.wpAny_loadPart' hb
      rw [e1, e2]
      refine wpAny_bind (wpAny_eqBool_str ?_)
      by_cases hq : xs[i] = ys[i]
      · rw [decide_eq_true hq]
        wp_walk
        rw [hc]
        refine ⟨plainId_quiet MeetsSeq3.plain_eq_loop _, codeAny_builtin MeetsSeq3.entry_eq_loop ?_⟩
        rw [Around.under_plainId MeetsSeq3.plain_eq_loop _]
        refine ih (i + 1) (by lia) hlt hlt2 prog w A R _ ⟨hl, hb, fun tk => ?_⟩
        have := h tk
        rw [gtL, if_pos hq] at this
        exact this
      · rw [decide_eq_false hq]
        wp_walk using AutoSeq1.wpAny_loadPart' hl, AutoSeq1.wpAny_loadPart' hb
        rw [e1, e2]
        show wpAny _ _ (compareOp .Gt (.str xs[i] t1) (.str ys[i] t2) >>= _) _ _ _
        refine wpAny_bind (PySem.P.gt_str ?_)
        refine wpAny_pure ?_
        have := h tk
        rw [gtL, if_neg hq] at this
        exact this
theorem lt_body (l b : Addr) (items items2 : Array Value) (n n2 : Nat) (xs ys : List Str) (hx : ∀ (j : Nat) (x : Str), xs[j]? = some x → ∃ t, items[j]? = some (Value.str x t)) (hy : ∀ (j : Nat) (y : Str), ys[j]? = some y → ∃ t, items2[j]? = some (Value.str y t)) (hxl : items.size = xs.length) (hyl : items2.size = ys.length) :
    Meets (Builtin.«list.__lt__» ⟨[.ref l, .ref b], []⟩)
      (fun _ R s => s.heap.get? l = some { cls := .type "list", dict := none, data := .seq items n, slots := #[] } ∧ s.heap.get? b = some { cls := .type "list", dict := none, data := .seq items2 n2, slots := #[] } ∧
        ∀ tk, R (.ok (.ret (.bool (ltL xs ys)))) { s with toks := tk }) := by
  intro prog w A R s h
  obtain ⟨hp, g, d, tk, os⟩ := s; obtain ⟨hl, hb, h⟩ := h
  have f3 := AutoSeq1.sub_list_list
  wp_walk using AutoSeq1.wpAny_loadPart' hl, AutoSeq1.wpAny_loadPart' hb
  refine ⟨plainId_quiet MeetsSeq3.plain_eq_loop _, codeAny_builtin MeetsSeq3.entry_eq_loop ?_⟩
  rw [Around.under_plainId MeetsSeq3.plain_eq_loop _]
  exact lt_loop l b items items2 n n2 xs ys hx hy hxl hyl _ 0 rfl (Nat.zero_le _) (Nat.zero_le _) prog w A R _ ⟨hl, hb, h⟩
theorem lt_cmp {prog : Program} {w : World} {A : Around} {E : Value → Shared → Prop} {s : Shared} {Q : Value → Shared → Prop} {l b : Addr} {items items2 : Array Value} {n n2 : Nat} {xs ys : List Str} (hx : ∀ (j : Nat) (x : Str), xs[j]? = some x → ∃ t, items[j]? = some (Value.str x t)) (hy : ∀ (j : Nat) (y : Str), ys[j]? = some y → ∃ t, items2[j]? = some (Value.str y t)) (hxl : items.size = xs.length) (hyl : items2.size = ys.length)
    (hl : s.heap.get? l = some { cls := .type "list", dict := none, data := .seq items n, slots := #[] }) (hb : s.heap.get? b = some { cls := .type "list", dict := none, data := .seq items2 n2, slots := #[] }) (hu : A.units < cLine) (h : ∀ tk, Q (.bool (ltL xs ys)) { s with toks := tk }) :
    wpAny (model prog w) A (richCompare .Lt (.ref l) (.ref b)) Q E s :=
  richCompare_meets_room (op := .Lt) ⟨_, hl, rfl⟩ ⟨_, hb, rfl⟩ F.slot_list_lt F.entry_list_lt (F.args_list_lt_2 _ _) (lt_body l b items items2 n n2 xs ys hx hy hxl hyl) ⟨hl, hb, fun tk => ⟨(fun e => nomatch e), h tk⟩⟩ hu
theorem gt_body (l b : Addr) (items items2 : Array Value) (n n2 : Nat) (xs ys : List Str) (hx : ∀ (j : Nat) (x : Str), xs[j]? = some x → ∃ t, items[j]? = some (Value.str x t)) (hy : ∀ (j : Nat) (y : Str), ys[j]? = some y → ∃ t, items2[j]? = some (Value.str y t)) (hxl : items.size = xs.length) (hyl : items2.size = ys.length) :
    Meets (Builtin.«list.__gt__» ⟨[.ref l, .ref b], []⟩)
      (fun _ R s => s.heap.get? l = some { cls := .type "list", dict := none, data := .seq items n, slots := #[] } ∧ s.heap.get? b = some { cls := .type "list", dict := none, data := .seq items2 n2, slots := #[] } ∧
        ∀ tk, R (.ok (.ret (.bool (gtL xs ys)))) { s with toks := tk }) := by
  intro prog w A R s h
  obtain ⟨hp, g, d, tk, os⟩ := s; obtain ⟨hl, hb, h⟩ := h
  have f3 := AutoSeq1.sub_list_list
  wp_walk using AutoSeq1.wpAny_loadPart' hl, AutoSeq1.wpAny_loadPart' hb
  refine ⟨plainId_quiet MeetsSeq3.plain_eq_loop _, codeAny_builtin MeetsSeq3.entry_eq_loop ?_⟩
  rw [Around.under_plainId MeetsSeq3.plain_eq_loop _]
  exact gt_loop l b items items2 n n2 xs ys hx hy hxl hyl _ 0 rfl (Nat.zero_le _) (Nat.zero_le _) prog w A R _ ⟨hl, hb, h⟩
theorem gt_cmp {prog : Program} {w : World} {A : Around} {E : Value → Shared → Prop} {s : Shared} {Q : Value → Shared → Prop} {l b : Addr} {items items2 : Array Value} {n n2 : Nat} {xs ys : List Str} (hx : ∀ (j : Nat) (x : Str), xs[j]? = some x → ∃ t, items[j]? = some (Value.str x t)) (hy : ∀ (j : Nat) (y : Str), ys[j]? = some y → ∃ t, items2[j]? = some (Value.str y t)) (hxl : items.size = xs.length) (hyl : items2.size = ys.length)
    (hl : s.heap.get? l = some { cls := .type "list", dict := none, data := .seq items n, slots := #[] }) (hb : s.heap.get? b = some { cls := .type "list", dict := none, data := .seq items2 n2, slots := #[] }) (hu : A.units < cLine) (h : ∀ tk, Q (.bool (gtL xs ys)) { s with toks := tk }) :
    wpAny (model prog w) A (richCompare .Gt (.ref l) (.ref b)) Q E s :=
  richCompare_meets_room (op := .Gt) ⟨_, hl, rfl⟩ ⟨_, hb, rfl⟩ F.slot_list_gt F.entry_list_gt (F.args_list_gt_2 _ _) (gt_body l b items items2 n n2 xs ys hx hy hxl hyl) ⟨hl, hb, fun tk => ⟨(fun e => nomatch e), h tk⟩⟩ hu
theorem datStr {lg : Lg} {vs : List Value} {xs : List Str} (h : DatAll lg vs (xs.map .str)) : ∀ (j : Nat) (x : Str), xs[j]? = some x → ∃ t, vs.toArray[j]? = some (Value.str x t) := by
  intro j x hj
  obtain ⟨hlt, e⟩ := List.getElem?_eq_some_iff.mp hj
  obtain ⟨v, hv, hD⟩ := h.get (k := j) (by rw [List.length_map]; exact hlt)
  rw [List.getElem_map, e] at hD
  obtain ⟨⟩ | ⟨⟩ := hD
  exact ⟨_, by simpa using hv⟩
section
variable {w : World} {c : Cx} {env : Env} {σ : Sg}
theorem cD_max2 {xs ys : List Str} (hu : Rm c 1) : CallD w c env σ (.builtin "max") [.d (.list [.list (xs.map .str), .list (ys.map .str)])] (.d (.list (if gtL ys xs then ys.map .str else xs.map .str))) := fun fx m news t s Q E vs P D k => by
  (first | refine Mine.all1 D fun _ h1 => ?_ | refine Mine.dall1 D fun _ h1 => ?_)
  refine Mine.inL (show DatIn _ _ _ from h1) fun _ _ _ hml hvl => ?_
  revert hml
  (first | refine Mine.all2 hvl fun _ _ g1 g2 => ?_ | refine Mine.dall2 hvl fun _ _ g1 g2 => ?_)
  intro hml
  obtain ⟨⟩ | ⟨⟩ | ⟨⟩ | ⟨⟩ | ⟨⟩ | ⟨⟩ | ⟨m1, w1⟩ := g1
  obtain ⟨⟩ | ⟨⟩ | ⟨⟩ | ⟨⟩ | ⟨⟩ | ⟨⟩ | ⟨m2, w2⟩ := g2
  have hls := News.isList P.nnw hml
  have hu' : c.A.in1.units < cLine := by have := hu.u; show c.un + 1 < cLine; lia
  refine max_two (b := gtL ys xs) A_handled hls (fun s' Q' E' keep q => gt_cmp (datStr w2) (datStr w1) (by rw [List.size_toArray, w2.length, List.length_map]) (by rw [List.size_toArray, w1.length, List.length_map]) (keep _ _ (P.nnw _ m2).1) (keep _ _ (P.nnw _ m1).1) hu' q) fun h' tk keep => ?_
  have P' : Pre w c env fx m news t σ h' := ⟨P.F.grownK keep, P.N.grown keep, P.tab, P.hi, P.rho⟩
  cases hq : gtL ys xs with
  | true =>
    rw [hq, if_pos rfl] at k
    exact k.heap P' (.list m2 w2)
  | false =>
    rw [hq, if_neg Bool.false_ne_true] at k
    exact k.heap P' (.list m1 w1)
theorem cD_min2 {xs ys : List Str} (hu : Rm c 1) : CallD w c env σ (.builtin "min") [.d (.list [.list (xs.map .str), .list (ys.map .str)])] (.d (.list (if ltL ys xs then ys.map .str else xs.map .str))) := fun fx m news t s Q E vs P D k => by
  (first | refine Mine.all1 D fun _ h1 => ?_ | refine Mine.dall1 D fun _ h1 => ?_)
  refine Mine.inL (show DatIn _ _ _ from h1) fun _ _ _ hml hvl => ?_
  revert hml
  (first | refine Mine.all2 hvl fun _ _ g1 g2 => ?_ | refine Mine.dall2 hvl fun _ _ g1 g2 => ?_)
  intro hml
  obtain ⟨⟩ | ⟨⟩ | ⟨⟩ | ⟨⟩ | ⟨⟩ | ⟨⟩ | ⟨m1, w1⟩ := g1
  obtain ⟨⟩ | ⟨⟩ | ⟨⟩ | ⟨⟩ | ⟨⟩ | ⟨⟩ | ⟨m2, w2⟩ := g2
  have hls := News.isList P.nnw hml
  have hu' : c.A.in1.units < cLine := by have := hu.u; show c.un + 1 < cLine; lia
  refine min_two (b := ltL ys xs) A_handled hls (fun s' Q' E' keep q => lt_cmp (datStr w2) (datStr w1) (by rw [List.size_toArray, w2.length, List.length_map]) (by rw [List.size_toArray, w1.length, List.length_map]) (keep _ _ (P.nnw _ m2).1) (keep _ _ (P.nnw _ m1).1) hu' q) fun h' tk keep => ?_
  have P' : Pre w c env fx m news t σ h' := ⟨P.F.grownK keep, P.N.grown keep, P.tab, P.hi, P.rho⟩
  cases hq : ltL ys xs with
  | true =>
    rw [hq, if_pos rfl] at k
    exact k.heap P' (.list m2 w2)
  | false =>
    rw [hq, if_neg Bool.false_ne_true] at k
    exact k.heap P' (.list m1 w1)
end
end Mine

namespace Mine
theorem bind_rest {M : Model} {A : Around} {E : Value → Shared → Prop} {s : Shared} {name qual : Str} {an pn : Str} {p1 p2 : Pos} {ann1 ann2 : Option Expr} {body : List Stmt} {scope : Scope} {kV doc pm cdv ct : Value} {an' : Option Addr} {v0 : Value} {vs : List Value} {Q : List (Str × Value) → Shared → Prop} (hl : vs.length ≤ 100000)
    (h : Q [(an, v0), (pn, .ref s.heap.objs.size)] { s with heap := s.heap.push { cls := .type "tuple", data := .seq vs.toArray } }) :
    wpAny M A (bindArgs (fnOf name qual { posonlyargs := [], args := [{ arg := an, annotation := ann1, pos := p1 }], vararg := some { arg := pn, annotation := ann2, pos := p2 }, kwonlyargs := [], kw_defaults := [], kwarg := none, defaults := [] } body scope .none kV doc pm an' cdv ct) ⟨v0 :: vs, []⟩) Q E s := by
  unfold bindArgs
  simp only [List.map_cons, List.map_nil, List.nil_append, List.length_cons, List.length_nil, Option.isNone_some, Bool.and_false, Bool.false_eq_true, if_false, List.forIn_nil, pure_bind, List.zip_cons_cons, List.zip_nil_left]
  refine wpAny_bind (wpAny_pure ?_)
  simp only [Option.getD_none, List.toList_toArray, List.length_nil, Nat.zero_sub, List.drop_nil, Nat.zero_add, Nat.sub_zero, List.take_succ_cons, List.take_zero, List.filter_cons, List.filter_nil, List.lookup_cons_self, Option.isNone_some, Bool.false_eq_true, if_false, List.isEmpty_nil, Bool.not_true, List.zip_nil_right, List.forIn_nil, pure_bind, List.append_nil, List.filterMap_cons, List.filterMap_nil, Option.map_some, List.drop_succ_cons, List.drop_zero]
  exact wpAny_bind (wpAny_newTuple (wpAny_pure h) (by rw [sizeLine_eq]; lia))
theorem enterR {w : World} {name qual : Str} {an pn : Str} {p1 p2 : Pos} {ann1 ann2 : Option Expr} {body : List Stmt} {scope : Scope} {kV doc pm cdv ct oc : Value} {an' od : Option Addr} {osl : Array (Option Value)} {f : Addr} {n : Nat} {r : Vl} {c : Cx} {a0 : Dat} {as : List Dat}
    (ho : (Mine.top.heap_1 w.params).lookup f = some ⟨oc, od, .func (fnOf name qual { posonlyargs := [], args := [{ arg := an, annotation := ann1, pos := p1 }], vararg := some { arg := pn, annotation := ann2, pos := p2 }, kwonlyargs := [], kw_defaults := [], kwarg := none, defaults := [] } body scope .none kV doc pm an' cdv ct), osl⟩)
    (hcd : codeIn (Mine.top.heap_1 w.params) cdv qual = true) (h1 : scope.names.lookup an = some .local) (h2 : scope.names.lookup pn = some .local) (hnd : an ≠ pn) (hb1 : (an == ("__debug__" : Str)) = false ∧ (an == ("__classdict__" : Str)) = false) (hb2 : (pn == ("__debug__" : Str)) = false ∧ (pn == ("__classdict__" : Str)) = false)
    (hl : as.length ≤ 100000) (hn : 1 ≤ n) (ok : CxOk w c) (rm : Rm c n)
    (h : ∀ L g, CxOk w (c.into qual scope L f cdv g) → Rm (c.into qual scope L f cdv g) (n - 1) → ExecsD w (c.into qual scope L f cdv g) (upd (upd (fun _ => none) an (.d a0)) pn (.d (.tuple as))) none body (.ret r))
    (hco : scope.isCoroutine = false := by rfl) (hgen : scope.isGenerator = false := by rfl) (hk : scope.kind = .function := by rfl) (hcell : ∀ x ∈ scope.names, x.2 ≠ .cell := by decide) : CallIn w c f (.d a0 :: as.map .d) r := by
  intro fx m news t s Q E vs F N T H D k
  obtain _ | ⟨hv0, D⟩ := D
  rename_i v0 vs
  have hD := VAll.dat D
  have hlen := hD.length
  refine wpAny_call ?_
  refine codeAny_call_function (fd := fnOf name qual { posonlyargs := [], args := [{ arg := an, annotation := ann1, pos := p1 }], vararg := some { arg := pn, annotation := ann2, pos := p2 }, kwonlyargs := [], kw_defaults := [], kwarg := none, defaults := [] } body scope .none kV doc pm an' cdv ct) (body := body) (by have := rm.d; show c.dp < _; lia) ((ok.X.keeps F.keep) _ _ ho) rfl hco hgen rfl (codeRec_of (ok.X.keeps F.keep) hcd) ?_
  refine bind_rest (by lia) ?_
  have F1 := F.push { cls := .type "tuple", data := .seq vs.toArray }
  have N1 := N.push F { cls := .type "tuple", data := .seq vs.toArray }
  have lt : ∀ p ∈ tabL t ++ (fx ++ news), p.1 < s.heap.objs.size := fun p hp => Heap.lt_size (N p hp).1
  generalize s.heap.objs.size = D0 at *
  refine kp_frame (cl := []) (s := { s with heap := s.heap.push { cls := .type "tuple", data := .seq vs.toArray } }) ok.B F1 N1 ok.T.nolimit rfl rfl ok.k (fun y hy => ?_) (fun g L' h₁ FG FL NG BG st => ?_) hcell hk
  · rcases List.mem_cons.mp hy with rfl | hy
    · exact h1
    · rw [List.mem_singleton.mp hy]; exact h2
  have ok' : CxOk w (c.into qual scope L' f cdv g) := ⟨BG, ok.X.keeps st, ok.T.keeps st, hk⟩
  have rm' : Rm (c.into qual scope L' f cdv g) (n - 1) := ⟨by have := rm.d; show c.dp + 1 + (n - 1) < _; lia, by have := rm.u; show c.un + 3 + 8 * (n - 1) + 64 < _; lia⟩
  have e0 : ∀ y, (([(an, v0), (pn, Value.ref D0)] : List (Str × Value)).reverse.lookup y) = if y = pn then some (Value.ref D0) else if y = an then some v0 else none := fun y => by
    show ([(pn, Value.ref D0), (an, v0)] : List (Str × Value)).lookup y = _
    rw [List.lookup_cons, List.lookup_cons]
    by_cases hy : y = pn
    · subst hy; simp
    · rw [if_neg hy, beq_eq_false_iff_ne.mpr hy]
      by_cases hy2 : y = an
      · subst hy2; simp
      · rw [if_neg hy2, beq_eq_false_iff_ne.mpr hy2]; rfl
  have I : InAt w (c.into qual scope L' f cdv g) fx news [(D0, ({ cls := .type "tuple", data := .seq vs.toArray } : Obj))] (upd (upd (fun _ => none) an (.d a0)) pn (.d (.tuple as))) none h₁ (fun y => ([(an, v0), (pn, Value.ref D0)] : List (Str × Value)).reverse.lookup y) [] t := by
    refine ⟨FL, fun p hp => NG p ?_, T.mono memL, fun p hp => ?_, fun x d hx => ?_, fun q hq p hp => ?_, fun _ _ _ h => (nomatch h), fun _ h => (nomatch h), List.nodup_nil, ⟨fun _ _ _ h => (nomatch h), fun _ h => (nomatch h)⟩, fun _ _ h => (nomatch h)⟩
    · rcases List.mem_append.mp hp with hp | hp
      · exact .tail _ (memL p hp)
      · rw [List.nil_append] at hp
        rcases List.mem_append.mp hp with hp | hp
        · exact .tail _ (memR p (memL p hp))
        · rcases List.mem_append.mp hp with hp | hp
          · exact .tail _ (memR p (memR p hp))
          · rw [List.mem_singleton.mp hp]; exact .head _
    · simp only [List.nil_append, List.mem_append, List.mem_singleton] at hp
      rcases hp with h | h | h
      · exact H p (memL p h)
      · exact H p (memR p h)
      · subst h
        exact ⟨Nat.ne_of_gt (lt (219, tabObj t.1) (memL _ (.head _))), Nat.ne_of_gt (lt (226, tabObj t.2) (memL _ (.tail _ (.head _))))⟩
    · unfold upd at hx
      by_cases hxp : x = pn
      · subst hxp
        rw [if_pos rfl] at hx; cases hx
        exact ⟨hb2.1, hb2.2, .ref D0, .tuple (memR _ (.head _)) (hD.mono memL), .inl ⟨h2, by rw [e0, if_pos rfl]⟩⟩
      · rw [if_neg hxp] at hx
        by_cases hxa : x = an
        · subst hxa
          rw [if_pos rfl] at hx; cases hx
          exact ⟨hb1.1, hb1.2, v0, hv0.mono memL, .inl ⟨h1, by rw [e0, if_neg hxp, if_pos rfl]⟩⟩
        · rw [if_neg hxa] at hx; cases hx
    · rw [List.mem_singleton.mp hp]
      exact Nat.ne_of_lt (lt q (memR q hq))
  refine h L' g ok' rm' fx news _ _ _ _ ⟨_, _, _, I⟩ fun fl h' tk' add hO => ?_
  obtain ⟨v, m', t', fx', rfl, F2, N2, T2, U2, V2⟩ := hO
  refine leaveK_ (L' := L') (m' := m') F2 N2 fun F3 N3 => ?_
  exact k v h' tk' _ t' F3 N3 T2 U2 V2
end Mine

namespace Mine
/-- a loop over the items of a tuple, each turn to its end -/
inductive LoopT (w : World) (c : Cx) (x : Str) (body : List Stmt) : List Dat → Sg → Sg → Prop
  | nil {σ : Sg} : LoopT w c x body [] σ σ
  | next {d : Dat} {ds : List Dat} {σ σ' σe : Sg} : ExecsD w c (upd σ x (.d d)) none body (.next σ' none) → LoopT w c x body ds σ' σe → LoopT w c x body (d :: ds) σ σe
section
variable {w : World} {c : Cx} {σ σe : Sg} {ex n₀ : Lg}
theorem tup_core {x1 : Str} {p1 : Pos} {body : List Stmt} {s : Shared} {Q : Flow → Shared → Prop} {E : Value → Shared → Prop} {I : Nat} {l : Addr} {lo : Obj} (ok : CxOk w c) (hx1 : c.env.kindOf x1 = some .local) 
    (hd1 : (x1 == ("__debug__" : Str)) = false) (hd2 : (x1 == ("__classdict__" : Str)) = false) :
    ∀ (ds : List Dat) (vs : List Value) (σ : Sg) (tl fx : Lg) (t : Tb) (m : Str → Option Value), LoopT w c x1 body ds σ σe → InX w c ex n₀ tl σ none m fx t → DatAll (n₀ ++ tl) vs ds → (l, lo) ∈ n₀ ++ tl → (∀ p ∈ tabL t ++ ((fx ++ ex) ++ (n₀ ++ tl)), neq p.1 I) →
      (∀ f h tk add, OutOk w c ex n₀ (tl ++ add) (.next σe none) f h → Q f { s with heap := h, toks := tk }) →
      ItemsRest PySem.Challenge.rw_in0110_01.row.prog w c.A E c.h₀ c.env (.Name x1 p1) body Q s [(I, "tuple_iterator")] [(l, lo)] (vs.map .val) m (tabL t ++ ((fx ++ ex) ++ (n₀ ++ tl))) := by
  intro ds
  induction ds with
  | nil =>
    intro vs σ tl fx t m hL X hD hk ap k
    cases hD
    cases hL
    exact ItemsRest.zero fun h tk F N => k .next h tk [] ⟨rfl, m, fx, t, by rw [List.append_nil]; exact X.at' F N⟩
  | cons d ds ih =>
    intro vs σ tl fx t m hL X hD hkp ap k
    obtain _ | ⟨hv, hD⟩ := hD
    rename_i v0 vs0
    refine ItemsRest.val fun h tk F => AllObj.cons fun o2 c2 => AllObj.nil fun N => ?_
    have hI1 : ∀ p ∈ [(I, o2)], ∀ q ∈ tabL t ++ ((fx ++ ex) ++ (n₀ ++ tl)), neq q.1 p.1 := fun p hp q hq => by
      rw [List.mem_singleton.mp hp]; exact ap q hq
    have I0 : InAt w c (ex ++ [(I, o2)]) n₀ tl σ none h m fx t := by
      refine ⟨F, fun p hp => N p (by exact Mine.viaSub hp (by walk_at "mSUB")), X.tab, fun p hp => ?_, X.rho, fun q hq p hp => ?_, X.dif, fun q hq p hp => ?_, X.nd, ⟨X.cells.1, fun p hp => memL p (X.cells.2 p hp)⟩, X.mutl⟩
      · have : p ∈ (fx ++ ex) ++ (n₀ ++ tl) ∨ p ∈ [(I, o2)] := List.mem_append.mp (by
          exact Mine.viaSub hp (by walk_at "mSUB"))
        rcases this with h | h
        · exact X.hi p h
        · exact ⟨Ne.symm (hI1 p h (219, tabObj t.1) (memL _ (.head _))), Ne.symm (hI1 p h (226, tabObj t.2) (memL _ (.tail _ (.head _))))⟩
      · have : q ∈ ex ++ n₀ ∨ q ∈ [(I, o2)] := List.mem_append.mp (by
          exact Mine.viaSub hq (by walk_at "mSUB"))
        rcases this with h | h
        · exact X.dis q h p hp
        · exact Ne.symm (hI1 q h p (memR p (memR p (memR p hp))))
      · rcases List.mem_append.mp hp with hp | hp
        · exact X.dex q hq p hp
        · exact hI1 p hp q (memR q (memL q (memL q hq)))
    refine assign_Name (storeX_L I0.F I0.N (fun h4 F4 N4 => ?_) ok.k hx1)
    have J2 := I0.set (h' := h4) (x := x1) (d := .d d) hv hx1 (fun _ _ h => nomatch h) hd1 hd2 F4 N4
    have back : ∀ {h' : Heap} {tk' : Nat} {add : Lg} {σ' : Sg}, InSt w c (ex ++ [(I, o2)]) n₀ (tl ++ add) σ' none h' → LoopT w c x1 body ds σ' σe →
        UnrEndW c.h₀ c.env.locals { s with heap := h, toks := tk } [(I, o2)] (fun m' n' => SubL [(l, lo)] n' ∧ ItemsRest PySem.Challenge.rw_in0110_01.row.prog w c.A E c.h₀ c.env (.Name x1 p1) body Q s [(I, "tuple_iterator")] [(l, lo)] (vs0.map .val) m' n') { s with heap := h', toks := tk' } := by
      rintro h' tk' add σ' ⟨m', fx', t', I'⟩ L'
      have ap' : ∀ p ∈ tabL t' ++ ((fx' ++ ex) ++ (n₀ ++ (tl ++ add))), ∀ q ∈ [(I, o2)], neq p.1 q.1 := fun p hp q hq => by
        have hqe : q ∈ ex ++ [(I, o2)] := memR q hq
        rcases List.mem_append.mp hp with hp | hp
        · have e := I'.hi q (memL q (memR q hqe))
          rcases List.mem_cons.mp hp with rfl | hp
          · exact Ne.symm e.1
          · rw [List.mem_singleton.mp hp]; exact Ne.symm e.2
        · rcases List.mem_append.mp hp with hp | hp
          · rcases List.mem_append.mp hp with hp | hp
            · exact I'.dex p hp q hqe
            · exact hI1 q hq p (memR p (memL p (memR p hp)))
          · rcases List.mem_append.mp hp with hp | hp
            · exact hI1 q hq p (memR p (memR p (memL p hp)))
            · exact Ne.symm (I'.dis q (memL q hqe) p hp)
      refine ⟨h', tk', m', tabL t' ++ ((fx' ++ ex) ++ (n₀ ++ (tl ++ add))), rfl, I'.F, fun p hp => I'.N p (by exact Mine.viaSub hp (by walk_at "mSUB")), ap', ⟨?_, trivial⟩, ?_⟩
      · refine memR _ (memR _ ?_)
        rw [← List.append_assoc]; exact memL _ hkp
      · refine ih vs0 σ' (tl ++ add) fx' t' m' L' ⟨I'.tab, fun p hp => I'.hi p (by exact Mine.viaSub hp (by walk_at "mSUB")), I'.rho, fun q hq p hp => I'.dis q (by exact Mine.viaSub hq (by walk_at "mSUB")) p hp, I'.dif, fun q hq p hp => I'.dex q hq p (memL p hp), I'.nd, ⟨I'.cells.1, X.cells.2⟩, I'.mutl⟩
          (hD.mono fun p hp => by rw [← List.append_assoc]; exact memL p hp) (by rw [← List.append_assoc]; exact memL _ hkp) (fun p hp => ap' p hp (I, o2) (.head _)) fun f h tk add' hO => k f h tk (add ++ add') (by rw [← List.append_assoc]; exact hO)
    cases hL with
    | next hb hr =>
      refine hb _ _ _ _ _ _ ⟨_, _, _, J2⟩ fun f h' tk' add hO => ?_
      obtain ⟨rfl, I'⟩ := hO
      exact back I' hr
theorem xD_forT {x : Str} {iter : Expr} {body : List Stmt} {xp pos : Pos} {ds : List Dat} (ok : CxOk w c) (h : EvalD w c c.env σ iter (.d (.tuple ds))) (hL : LoopT w c x body ds σ σe) (hx : c.env.kindOf x = some .local := by rfl) (hd1 : (x == ("__debug__" : Str)) = false := by decide) (hd2 : (x == ("__classdict__" : Str)) = false := by decide)
    (hs : ∀ x, foldedSetIterable iter c.env x = pure x := by intro _; rfl) : ExecD w c σ none (.For (.Name x xp) iter body [] pos) (.next σe none) := fun ex n₀ tl s Q E I k => by
  obtain ⟨m, fx, t, I⟩ := I
  refine wpAny_noRaise ?_
  refine For_turns I.F (h _ _ _ _ _ _ _ (I.pre ok) fun v hA tkA tlA tA PA UA hv => ?_) hs PassesOwn.never
  refine Mine.inT (show DatIn _ _ _ from hv) fun _ _ _ hml hvl => ?_
  have I' := I.after PA UA
  rw [List.append_assoc] at hml hvl
  refine iter_tupTurns (s := { s with heap := hA, toks := tkA }) A_handled I'.F I'.N (memR _ (memR _ hml)) rfl rfl fun I hI => ?_
  exact tup_core ok hx hd1 hd2 ds _ σ _ fx tA m hL I'.x hvl hml (fun p hp => Nat.ne_of_lt (hI p hp)) fun f h' tk add hO => k f h' tk (tlA ++ add) (by rw [← List.append_assoc]; exact hO)
theorem d_forT {x : Str} {iter : Expr} {body rest : List Stmt} {xp pos : Pos} {ds : List Dat} {K : Out → Prop} (Inv : Nat → Sg → Prop) (ok : CxOk w c) (h : EvalD w c c.env σ iter (.d (.tuple ds))) (h0 : Inv 0 σ)
    (step : ∀ i d σ, ds[i]? = some d → Inv i σ → Does w c (upd σ x (.d d)) none body (fun o => ∃ σ', o = .next σ' none ∧ Inv (i + 1) σ')) (hr : ∀ σ', Inv ds.length σ' → Does w c σ' none rest K)
    (hx : c.env.kindOf x = some .local := by rfl) (hd1 : (x == ("__debug__" : Str)) = false := by decide) (hd2 : (x == ("__classdict__" : Str)) = false := by decide) (hs : ∀ x, foldedSetIterable iter c.env x = pure x := by intro _; rfl) : Does w c σ none (.For (.Name x xp) iter body [] pos :: rest) K := by
  have main : ∀ (r : List Dat) (k : Nat) (σ : Sg), Inv k σ → (∀ i d σ, r[i]? = some d → Inv (k + i) σ → Does w c (upd σ x (.d d)) none body (fun o => ∃ σ', o = .next σ' none ∧ Inv (k + i + 1) σ')) → ∃ σ', LoopT w c x body r σ σ' ∧ Inv (k + r.length) σ' := by
    intro r
    induction r with
    | nil => intro k σ hI _; exact ⟨σ, .nil, hI⟩
    | cons d r ih =>
      intro k σ hI step
      obtain ⟨o, hb, σ', rfl, hI'⟩ := step 0 d σ rfl hI
      obtain ⟨σ'', hL, hI2⟩ := ih (k + 1) σ' hI' fun i d σ hi hI => by
        have := step (i + 1) d σ hi (by rw [show k + (i + 1) = k + 1 + i by lia]; exact hI)
        rw [show k + 1 + i + 1 = k + (i + 1) + 1 by lia]; exact this
      exact ⟨σ'', .next hb hL, by rw [List.length_cons, show k + (r.length + 1) = k + 1 + r.length by lia]; exact hI2⟩
  obtain ⟨σ', hL, hI⟩ := main ds 0 σ h0 fun i d σ hi hI => by rw [Nat.zero_add] at hI ⊢; exact step i d σ hi hI
  rw [Nat.zero_add] at hI
  exact d_cons (xD_forT ok h hL hx hd1 hd2 hs) (hr σ' hI)
/-- a text is set behind what a name holds -/
theorem xD_augS {x : Str} {e : Expr} {xp pos : Pos} {a b : Str} (ok : CxOk w c) (h0 : σ x = some (.d (.str a))) (h : EvalD w c c.env σ e (.d (.str b))) (hl : a.length + b.length ≤ 16000000) (hx : c.env.kindOf x = some .local := by rfl)
    (hd1 : (x == ("__debug__" : Str)) = false := by decide) (hd2 : (x == ("__classdict__" : Str)) = false := by decide) : ExecD w c σ none (.AugAssign (.Name x xp) .Add e pos) (.next (upd σ x (.d (.str (a ++ b)))) none) := fun ex n₀ tl s Q E I k => by
  obtain ⟨m, fx, t, I⟩ := I
  obtain ⟨_, _, v, hv, hs⟩ := I.rho x _ h0
  rcases hs with ⟨_, hm⟩ | ⟨_, _, hk, _⟩
  · revert hm
    (first | refine Mine.inI (show DatIn _ _ _ from hv) fun _ => ?_ | refine Mine.inS (show DatIn _ _ _ from hv) fun _ => ?_ | refine Mine.inB (show DatIn _ _ _ from hv) ?_ | refine Mine.inN (show DatIn _ _ _ from hv) ?_)
    intro hm
    refine wpAny_AugAssign_Name (wpAny_loadName_local ok.k hx I.F.ns hm (h _ _ _ _ _ _ _ (I.pre ok) fun v2 h' tk' add t' P U hv2 => ?_))
    (first | refine Mine.inI (show DatIn _ _ _ from hv2) fun _ => ?_ | refine Mine.inS (show DatIn _ _ _ from hv2) fun _ => ?_ | refine Mine.inB (show DatIn _ _ _ from hv2) ?_ | refine Mine.inN (show DatIn _ _ _ from hv2) ?_)
    have I' := I.after P U
    refine PyProof.Rows.iadd_str (fun t' tk => ?_) (by rw [sizeLine_eq]; lia)
    exact storeX_L I'.F I'.N (fun h'' F'' N'' => k .next h'' _ add ⟨rfl, _, _, _, I'.set (d := .d (.str (a ++ b))) (.str _ _) hx (fun _ _ h => nomatch h) hd1 hd2 F'' N''⟩) ok.k hx
  · rw [hx] at hk; rcases hk with h | h <;> cases h
end
end Mine

namespace Mine
theorem sub_map : isSubtype (.type "map") (.type "map") = pure true := by rw [isSubtype_type]; kernel_rfl
theorem owner_map : Manifest.owners.lookup (String.ofList ['p', 'a', 'm'].reverse) = some Manifest.sig_map := by kernel_rfl
theorem mro_map : mroOf (.type "map") = pure [.type "map", .type "object"] := by rw [mroOf_type]; kernel_rfl
theorem lookup_map_new : typeLookup (.type "map") "__new__" = pure (some (.builtin "map.__new__")) := by rw [typeLookup_type, builtinLookup_eq_fast]; kernel_rfl
theorem slot_map_init : Slot "map" "__init__" "object.__init__" :=
  .of (owner := "object") (n := "__init__") (by rw [typeLookup_type, builtinLookup_eq_fast]; kernel_rfl) (by decide +kernel) (by decide +kernel) (by decide +kernel)
    (by first | exact .inl (by decide +kernel) | exact .inr (by decide +kernel)) (by rw [isSubtype_type]; kernel_rfl)
theorem slot_map_iter : Slot "map" "__iter__" "map.__iter__" :=
  .of (owner := "map") (n := "__iter__") (by rw [typeLookup_type, builtinLookup_eq_fast]; kernel_rfl) (by decide +kernel) (by decide +kernel) (by decide +kernel)
    (by first | exact .inl (by decide +kernel) | exact .inr (by decide +kernel)) (by rw [isSubtype_type]; kernel_rfl)
theorem slot_map_next : Slot "map" "__next__" "map.__next__" :=
  .of (owner := "map") (n := "__next__") (by rw [typeLookup_type, builtinLookup_eq_fast]; kernel_rfl) (by decide +kernel) (by decide +kernel) (by decide +kernel)
    (by first | exact .inl (by decide +kernel) | exact .inr (by decide +kernel)) (by rw [isSubtype_type]; kernel_rfl)
theorem args_map_iter (a : Value) : argsOk "map.__iter__" ⟨[a], []⟩ := by
  unfold argsOk; rw [signature?_of (id := "map.__iter__") (n := ['_', '_', 'r', 'e', 't', 'i', '_', '_']) (o := ['p', 'a', 'm']) (by kernel_rfl) owner_map]; kernel_rfl
theorem args_map_next (a : Value) : argsOk "map.__next__" ⟨[a], []⟩ := by
  unfold argsOk; rw [signature?_of (id := "map.__next__") (n := ['_', '_', 't', 'x', 'e', 'n', '_', '_']) (o := ['p', 'a', 'm']) (by kernel_rfl) owner_map]; kernel_rfl
theorem entry_map_iter : entryFor table "map.__iter__" = some Builtin.«dict_keyiterator.__iter__» :=
  entryFor_alias (id' := "dict_keyiterator.__iter__") (by kernel_rfl) (by first | rfl | decide +kernel | (unfold String.splitOn; simp +decide [String.splitOnAux])) (by decide +kernel) (by kernel_rfl)
theorem entry_map_new : entryFor table "map.__new__" = some Builtin.«map.__new__» := entryFor_of_tree (by kernel_rfl)
theorem entry_map_next : entryFor table "map.__next__" = some Builtin.«map.__next__» := entryFor_of_tree (by kernel_rfl)
theorem called_map : TypeCalled "map" "map.__new__" "object.__init__" :=
  ⟨by decide +kernel, by decide +kernel, ⟨_, _, mro_map⟩, madeBy_type mro_map lookup_map_new (by decide +kernel), by decide +kernel, by rw [isSubtype_type]; kernel_rfl, slot_map_init⟩
theorem typeCall_map_2 (a b : Value) : checkTypeCall "map" ⟨[a, b], []⟩ = pure () := by kernel_rfl
theorem newCall_map_2 (a b : Value) : checkBuiltinCall "map.__new__" ⟨[.type "map", a, b], []⟩ = pure () := by kernel_rfl
/-- a map object of one iterator: map at a, its tuple of iterators at t, the list iterator at it -/
noncomputable def IsMap (h : Heap) (a t it : Addr) (f : Value) : Prop :=
  (∃ sl dc, h.get? a = some { cls := .type "map", dict := dc, data := .fields #[.ref t, f], slots := sl }) ∧ h.IsTuple t #[.ref it]
theorem meets_map_new (l : Addr) (f : Value) (items : Array Value) (n : Nat) (dct : Option Addr) (sl : Array (Option Value)) :
    Meets (Builtin.«map.__new__» ⟨[.type "map", f, .ref l], []⟩) (fun _ R s => s.heap.get? l = some { cls := .type "list", dict := dct, data := .seq items n, slots := sl } ∧
      R (.ok (.ret (.ref (s.heap.objs.size + 2))))
        { s with heap := ((s.heap.push { cls := .type "list_iterator", data := .fields #[.ref l, .int 0 0] }).push { cls := .type "tuple", data := .seq #[.ref s.heap.objs.size] }).push { cls := .type "map", data := .fields #[.ref (s.heap.objs.size + 1), f] } }) :=
  .of_wp fun prog w A R s h => by
    obtain ⟨hh, g, dd, t, os⟩ := s
    obtain ⟨hl, h⟩ := h
    have hT : (⟨hh, g, dd, t, os⟩ : Shared).TypeIs (.ref l) "list" := ⟨_, hl, rfl⟩
    have f1 := sub_map
    have hls : hh.IsList l items := ⟨_, hl, rfl, n, rfl⟩
    have z1 : (hh.push { cls := .type "list_iterator", data := .fields #[.ref l, .int 0 0] }).objs.size = hh.objs.size + 1 := Heap.size_push ..
    have z2 : ((hh.push { cls := .type "list_iterator", data := .fields #[.ref l, .int 0 0] }).push { cls := .type "tuple", data := .seq #[.ref hh.objs.size] }).objs.size = hh.objs.size + 2 := by rw [Heap.size_push, z1]
    repeat (any_goals (first | assumption | ((with_reducible show wpAny _ _ (pyIter _) _ _ _); refine wpAny_pyIter_list hls ?_) | wp_step))
    refine ⟨_, rfl, ?_⟩
    have h' := h
    simp only [z1] at h' ⊢
    rw [← z2] at h'
    exact h'
section
variable {prog : Program} {w : World} {A : Around} {E : Value → Shared → Prop} {s : Shared}
theorem map_iter {m t it : Addr} {f : Value} {Q : Value → Shared → Prop} (hm : IsMap s.heap m t it f) (h : Q (.ref m) s) : wpAny (model prog w) A (pyIter (.ref m)) Q E s := by
  obtain ⟨⟨sl, dc, hm⟩, _⟩ := hm
  have hT : s.TypeIs (.ref m) "map" := ⟨_, hm, rfl⟩
  refine wpAny_pyIter_slot hT slot_map_iter (wpAny_call_entry slot_map_iter hT entry_map_iter ?_ (args_map_iter _))
  show wpAny _ _ (ret (.ref m)) _ _ s
  exact wpAny_pure ⟨_, rfl, "map", _, hT, slot_map_next.lookup, h⟩
theorem map_next_item {m t it l : Addr} {f : Value} {i : Nat} {items : Array Value} {x : Value} {Q : Option Value → Shared → Prop} (hm : IsMap s.heap m t it f) (hit : s.heap.IsListIter it l i) (hl : s.heap.IsList l items) (hx : items[i]? = some x) (hne : m ≠ it)
    (h : ∀ h' E', h'.IsListIter it l (i + 1) → Heap.SameBut it s.heap h' → wpAny (model prog w) A.in1 (call f [x]) (fun v s' => Q (some v) s') E' { s with heap := h' }) : wpAny (model prog w) A (pyNext (.ref m)) Q E s := by
  obtain ⟨⟨sl, dc, hm⟩, ot, hot, hct, nt, hdt⟩ := hm
  have hT : s.TypeIs (.ref m) "map" := ⟨_, hm, rfl⟩
  unfold pyNext
  refine wpAny_bind (wpAny_attempt (wpAny_callSpecial?_slot (name := Str.ofString "__next__") hT slot_map_next
    (wpAny_call_entry slot_map_next hT entry_map_next ?_ (args_map_next _))))
  show wpAny _ _ (field (.ref m) 0 >>= _) _ _ _
  refine wpAny_bind (wpAny_field hm rfl (x := .ref t) rfl ?_)
  refine wpAny_bind (wpAny_seqItems hot hdt ?_)
  repeat (any_goals (first | assumption | ((with_reducible show wpAny _ _ (Builtin.SmallTypes.nextOf _) _ _ _); refine wpAny_nextOf_list_item hit hl hx ?_; intro h1 hit1 hs1; have hm1 := (hs1.2 _ hne).trans hm) | ((with_reducible show wpAny _ _ (field (.ref m) 1) _ _ _); refine wpAny_field hm1 rfl (x := f) rfl ?_) | ((with_reducible show wpAny _ _ (call f _) _ _ _); refine wpAny_mono (h _ _ hit1 hs1) (fun v s' hv => ?_) (fun _ _ q => q)) | ((with_reducible show wpAny _ _ (letGo _ _) _ _ _); refine wpAny_letGo ?_) | wp_step))
  exact ⟨_, rfl, wpAny_pure hv⟩
theorem map_next_end {m t it l : Addr} {f : Value} {i : Nat} {items : Array Value} {Q : Option Value → Shared → Prop} (hh : A.handled = none) (hm : IsMap s.heap m t it f) (hit : s.heap.IsListIter it l i) (hl : s.heap.IsList l items) (hx : items[i]? = none)
    (h : ∀ h', Heap.ExtBut it s.heap h' → Q none { s with heap := h' }) : wpAny (model prog w) A (pyNext (.ref m)) Q E s := by
  obtain ⟨⟨sl, dc, hm⟩, ot, hot, hct, nt, hdt⟩ := hm
  have hT : s.TypeIs (.ref m) "map" := ⟨_, hm, rfl⟩
  unfold pyNext
  refine wpAny_bind (wpAny_attempt (wpAny_callSpecial?_slot (name := Str.ofString "__next__") hT slot_map_next
    (wpAny_call_entry slot_map_next hT entry_map_next ?_ (args_map_next _))))
  show wpAny _ _ (field (.ref m) 0 >>= _) _ _ _
  refine wpAny_bind (wpAny_field hm rfl (x := .ref t) rfl ?_)
  refine wpAny_bind (wpAny_seqItems hot hdt ?_)
  repeat (any_goals (first | assumption | ((with_reducible show wpAny _ _ (Builtin.SmallTypes.nextOf _) _ _ _); refine wpAny_nextOf_list_end hh hit hl hx ?_; intro h1 e1 he1 hx1; obtain ⟨o, ho, hc⟩ := hx1; refine wpAny_bind (wpAny_isInstance (T := "StopIteration") (b := true) ⟨o, ho, hc⟩ isSubtype_stop ?_); exact wpAny_pure (h _ he1)) | wp_step))
end
end Mine

namespace Mine
noncomputable abbrev mapO (t : Addr) (f : Value) : Obj := { cls := .type "map", data := .fields #[.ref t, f] }
noncomputable abbrev mapT (it : Addr) : Obj := { cls := .type "tuple", data := .seq #[.ref it] }
noncomputable abbrev mapI (l : Addr) : Obj := { cls := .type "list_iterator", data := .fields #[.ref l, .int 0 0] }
noncomputable abbrev mapL (D t it : Addr) (f : Value) (o : Obj) (rest : Lg) : Lg := (D, mapO t f) :: (t, mapT it) :: (it, o) :: rest
noncomputable def IterO (o : Obj) (l : Addr) (i : Nat) : Prop := o.cls = .type "list_iterator" ∧ o.data = .fields #[.ref l, .int i 0]
section
variable {prog : Program} {w : World} {A : Around} {E : Value → Shared → Prop} {s : Shared} {h₀ : Heap} {L : Addr} {m : Str → Option Value} {rest : Lg}
/-- a call of f with x comes back with a value of P, ledger and frame as they were -/
noncomputable def Turns (prog : Program) (w : World) (A : Around) (h₀ : Heap) (L : Addr) (m : Str → Option Value) (news : Lg) (f x : Value) (P : Value → Prop) : Prop :=
  ∀ (s : Shared) (Q E : Value → Shared → Prop), Fr h₀ L s.heap m → News h₀ L s.heap news → (∀ v h' tk, P v → Fr h₀ L h' m → News h₀ L h' news → Q v { s with heap := h', toks := tk }) → wpAny (model prog w) A (call f [x]) Q E s
theorem map_call {l : Addr} {f : Value} {items : Array Value} {n : Nat} {Q : Value → Shared → Prop} (F : Fr h₀ L s.heap m) (N : News h₀ L s.heap rest) (hl : s.heap.get? l = some { cls := .type "list", data := .seq items n })
    (h : ∀ D h', Fr h₀ L h' m → News h₀ L h' (mapL (D + 2) (D + 1) D f (mapI l) rest) → (∀ p ∈ rest, p.1 < D) → Q (.ref (D + 2)) { s with heap := h' }) : wpAny (model prog w) A (call (.type "map") [f, .ref l]) Q E s := by
  refine callType_new called_map (by decide) (typeCall_map_2 _ _) (newCall_map_2 _ _) (fun obj => PySem.F.args_object_init_3 obj _ _) entry_map_new (meets_map_new l f items n none #[]) ⟨hl, ?_⟩
  have z1 : (s.heap.push { cls := .type "list_iterator", data := .fields #[.ref l, .int 0 0] }).objs.size = s.heap.objs.size + 1 := Heap.size_push ..
  have z2 : ((s.heap.push { cls := .type "list_iterator", data := .fields #[.ref l, .int 0 0] }).push { cls := .type "tuple", data := .seq #[.ref s.heap.objs.size] }).objs.size = s.heap.objs.size + 2 := by rw [Heap.size_push, z1]
  have F1 := F.push (mapI l)
  have N1 := N.push F (mapI l)
  have F2 := F1.push (mapT s.heap.objs.size)
  have N2 := N1.push F1 (mapT s.heap.objs.size)
  have F3 := F2.push (mapO (s.heap.objs.size + 1) f)
  have N3 := N2.push F2 (mapO (s.heap.objs.size + 1) f)
  rw [z1, z2] at N3
  exact ⟨⟨_, (N3 _ (.head _)).1, rfl⟩, h _ _ F3 N3 fun p hp => Heap.lt_size (N p hp).1⟩
theorem mapK {D t it : Addr} {f : Value} {o : Obj} (N : News h₀ L s.heap (mapL D t it f o rest)) : IsMap s.heap D t it f :=
  ⟨⟨_, _, (N _ (.head _)).1⟩, _, (N _ (.tail _ (.head _))).1, rfl, _, rfl⟩
theorem map_nextK {D t it l : Addr} {f : Value} {o : Obj} {i : Nat} {items : Array Value} {x : Value} {P : Value → Prop} {Q : Option Value → Shared → Prop} (F : Fr h₀ L s.heap m) (N : News h₀ L s.heap (mapL D t it f o rest)) (ho : IterO o l i) (hl : s.heap.IsList l items) (hx : items[i]? = some x) (h1 : D ≠ it) (h2 : t ≠ it) (h3 : ∀ p ∈ rest, p.1 ≠ it)
    (hf : ∀ o', IterO o' l (i + 1) → Turns prog w A.in1 h₀ L m (mapL D t it f o' rest) f x P)
    (h : ∀ v h' tk o', P v → IterO o' l (i + 1) → Fr h₀ L h' m → News h₀ L h' (mapL D t it f o' rest) → Q (some v) { s with heap := h', toks := tk }) : wpAny (model prog w) A (pyNext (.ref D)) Q E s := by
  have No := N (it, o) (.tail _ (.tail _ (.head _)))
  refine map_next_item (mapK N) ⟨o, No.1, ho⟩ hl hx h1 fun h' E' hit hs => ?_
  obtain ⟨o', ho', hI⟩ := hit
  have N' : News h₀ L h' (mapL D t it f o' rest) := News.setAt (own := [(D, mapO t f), (t, mapT it)]) N (fun p hp => by
    rcases List.mem_cons.mp hp with rfl | hp
    · exact h1
    · rw [List.mem_singleton.mp hp]; exact h2) h3 hs ho'
  exact hf o' hI _ _ _ (F.change hs No.2.1 No.2.2) N' fun v h'' tk hv F'' N'' => h v h'' tk o' hv hI F'' N''
theorem map_endK {D t it l : Addr} {f : Value} {o : Obj} {i : Nat} {items : Array Value} {Q : Option Value → Shared → Prop} (hh : A.handled = none) (F : Fr h₀ L s.heap m) (N : News h₀ L s.heap (mapL D t it f o rest)) (ho : IterO o l i) (hl : s.heap.IsList l items) (hx : items[i]? = none) (h3 : ∀ p ∈ rest, p.1 ≠ it)
    (h : ∀ h', Fr h₀ L h' m → News h₀ L h' rest → Q none { s with heap := h' }) : wpAny (model prog w) A (pyNext (.ref D)) Q E s := by
  have No := N (it, o) (.tail _ (.tail _ (.head _)))
  refine map_next_end hh (mapK N) ⟨o, No.1, ho⟩ hl hx fun h' he => h h' ?_ fun p hp => ?_
  · have hLit : L ≠ it := fun e => No.2.1 e.symm
    exact ⟨F.ns.extBut he hLit, fun c x e => he c x (fun q => by rw [q, No.2.2] at e; cases e) (F.keep c x e), F.above⟩
  · have z := N p (.tail _ (.tail _ (.tail _ hp)))
    exact ⟨he _ _ (h3 p hp) z.1, z.2⟩
theorem map_unpack2 {env : Env} {elts : List Expr} {k} {pos : Pos} {D t it l : Addr} {f : Value} {o : Obj} {x y : Value} {n : Nat} {P1 P2 : Value → Prop} {Q : Unit → Shared → Prop} (F : Fr h₀ L s.heap m) (N : News h₀ L s.heap (mapL D t it f o rest)) (ho : IterO o l 0) (hl : (l, listOf #[x, y] n) ∈ rest) (h1 : D ≠ it) (h2 : t ≠ it) (h3 : ∀ p ∈ rest, p.1 ≠ it)
    (hh : A.handled = none) (hn : (assignEach elts env).length = 2) (hstar : (assignEach elts env).findIdx? (·.1) = none)
    (hf1 : ∀ o', IterO o' l 1 → Turns prog w A.in1 h₀ L m (mapL D t it f o' rest) f x P1) (hf2 : ∀ o', IterO o' l 2 → Turns prog w A.in1 h₀ L m (mapL D t it f o' rest) f y P2)
    (h : ∀ v1 v2 h' tk, P1 v1 → P2 v2 → Fr h₀ L h' m → News h₀ L h' rest → wpAny (model prog w) A (assignInOrder ((assignEach elts env).map (·.2)) [v1, v2]) Q E { s with heap := h', toks := tk }) :
    wpAny (model prog w) A (assign (.Tuple elts k pos) env (.ref D)) Q E s := by
  rw [assign_Tuple]
  refine wpAny_bind (wpAny_standAt ?_)
  unfold unpack
  rw [hn, hstar]
  refine wpAny_bind (wpAny_holding ?_)
  unfold unpackItems
  have hT : s.TypeIs (.ref D) "map" := ⟨_, (N _ (.head _)).1, rfl⟩
  refine wpAny_bind ?_
  unfold notIterableAtAll
  refine wpAny_bind (wpAny_specialOf hT slot_map_iter.lookup ?_)
  refine wpAny_pure ?_
  simp only [Bool.false_eq_true, if_false]
  refine wpAny_bind (wpAny_holding (map_iter (mapK N) ?_))
  have hls : ∀ {h : Heap} {o : Obj}, News h₀ L h (mapL D t it f o rest) → h.IsList l #[x, y] := fun N => ⟨_, (N _ (.tail _ (.tail _ (.tail _ hl)))).1, rfl, _, rfl⟩
  refine wpAny_bind (wpAny_holding ?_)
  show wpAny _ _ (pyNext (.ref D) >>= _) _ E s
  refine wpAny_bind (map_nextK (i := 0) F N ho (hls N) (x := x) rfl h1 h2 h3 hf1 fun v1 hA tkA oA hv1 hoA FA NA => ?_)
  refine wpAny_bind (wpAny_holding ?_)
  show wpAny _ _ (pyNext (.ref D) >>= _) _ E _
  refine wpAny_bind (map_nextK (s := { s with heap := hA, toks := tkA }) (i := 1) FA NA hoA (hls NA) (x := y) rfl h1 h2 h3 hf2 fun v2 hB tkB oB hv2 hoB FB NB => ?_)
  refine wpAny_bind (wpAny_holding (wpAny_pure (wpAny_pure (wpAny_pure ?_))))
  rw [if_neg (by simp)]
  refine wpAny_bind (wpAny_holding (map_endK (s := { s with heap := hB, toks := tkB }) (i := 2) hh FB NB hoB (hls NB) rfl h3 fun hC FC NC => ?_))
  exact wpAny_pure (h v1 v2 hC tkB hv1 hv2 FC NC)
end
end Mine

namespace Mine
theorem turn_int {prog : Program} {w : World} {A : Around} {h₀ : Heap} {L : Addr} {m : Str → Option Value} {news : Lg} {n : Int} {t : Tok} (h0 : 0 ≤ n) (h1 : n < 10 ^ 10) : Turns prog w A h₀ L m news (.type "int") (.str (Str.ofString (toString n)) t) (fun v => ∃ tk, v = .int n tk) :=
  fun s Q E F N h => KIN.call_num h0 h1 (h _ s.heap _ ⟨_, rfl⟩ F N)
end Mine
namespace Mine
end Mine

namespace Mine
theorem EvalD.to {w : World} {c : Cx} {env : Env} {σ : Sg} {e : Expr} {d d' : Vl} (h : EvalD w c env σ e d) (q : d = d') : EvalD w c env σ e d' := q ▸ h
theorem EvalX {w : World} {c : Cx} {σ σ1 σ2 : Sg} {mu mu' : Mu} {st : Stmt} (h : ExecD w c σ mu st (.next σ1 mu')) (q : σ1 = σ2) : ExecD w c σ mu st (.next σ2 mu') := q ▸ h
theorem EvalT {w : World} {c : Cx} {env : Env} {σ : Sg} {e : Expr} {b b' : Bool} (h : TestD w c env σ e b) (q : b = b') : TestD w c env σ e b' := q ▸ h
theorem mem_wt {a : Str} {l : List Str} (h : a ∈ l) : a.length ≤ wt l := by
  induction l with
  | nil => cases h
  | cons b r ih =>
    have e : wt (b :: r) = wt r + b.length + 1 := by unfold wt; simp only [List.map_cons, List.sum_cons, List.length_cons]; lia
    rcases List.mem_cons.mp h with rfl | h
    · lia
    · have := ih h; lia
section
variable {w : World} {c : Cx} {env : Env} {σ σ' : Sg} {mu mu' : Mu} {d : Vl} {K : Out → Prop} {rest : List Stmt}
theorem mt_rfind {x : Str} (t : Tok) (pl : Sem Bool) (s : Shared) (Q : Value × List Value → Shared → Prop) (E : Value → Shared → Prop) (h : Q (.builtin "str.rfind", [.str x t]) s) : wpAny (theM w) c.A (getMethod (.str x t) (Str.ofString "rfind") pl) Q E s := GM.rfind h
theorem mt_rstrip {x : Str} (t : Tok) (pl : Sem Bool) (s : Shared) (Q : Value × List Value → Shared → Prop) (E : Value → Shared → Prop) (h : Q (.builtin "str.rstrip", [.str x t]) s) : wpAny (theM w) c.A (getMethod (.str x t) (Str.ofString "rstrip") pl) Q E s := GM.rstrip h
theorem cD_rfind {x y : Str} : CallD w c env σ (.builtin "str.rfind") [.d (.str x), .d (.str y)] (.d (.int (Txt.rfind x y))) := fun fx m news t s Q E vs P D k => by
  (first | refine Mine.all2 D fun _ _ u0z u1z => ?_ | refine Mine.dall2 D fun _ _ u0z u1z => ?_)
  (first | refine Mine.inI (show DatIn _ _ _ from u0z) fun _ => ?_ | refine Mine.inS (show DatIn _ _ _ from u0z) fun _ => ?_ | refine Mine.inB (show DatIn _ _ _ from u0z) ?_ | refine Mine.inN (show DatIn _ _ _ from u0z) ?_)
  (first | refine Mine.inI (show DatIn _ _ _ from u1z) fun _ => ?_ | refine Mine.inS (show DatIn _ _ _ from u1z) fun _ => ?_ | refine Mine.inB (show DatIn _ _ _ from u1z) ?_ | refine Mine.inN (show DatIn _ _ _ from u1z) ?_)
  exact SC.rfind (k.same P (.int _ _) _)
theorem cD_rstrip {x y : Str} (hl : x.length ≤ 1000000) : CallD w c env σ (.builtin "str.rstrip") [.d (.str x), .d (.str y)] (.d (.str (Txt.rstripChars x y))) := fun fx m news t s Q E vs P D k => by
  (first | refine Mine.all2 D fun _ _ u0z u1z => ?_ | refine Mine.dall2 D fun _ _ u0z u1z => ?_)
  (first | refine Mine.inI (show DatIn _ _ _ from u0z) fun _ => ?_ | refine Mine.inS (show DatIn _ _ _ from u0z) fun _ => ?_ | refine Mine.inB (show DatIn _ _ _ from u0z) ?_ | refine Mine.inN (show DatIn _ _ _ from u0z) ?_)
  (first | refine Mine.inI (show DatIn _ _ _ from u1z) fun _ => ?_ | refine Mine.inS (show DatIn _ _ _ from u1z) fun _ => ?_ | refine Mine.inB (show DatIn _ _ _ from u1z) ?_ | refine Mine.inN (show DatIn _ _ _ from u1z) ?_)
  exact SCL.rstripChars (fun t' tk _ => k.same P (.str _ _) tk) (by rw [sizeLine_eq]; lia)
theorem tD_mulS {x : Str} {n : Int} (hok : MulOk x n) : TreeD w c env σ (binT .Mult) [.d (.str x), .d (.int n)] (.d (.str (Txt.mul x n))) := fun fx m news t s Q E vs P D k => by
  (first | refine Mine.all2 D fun _ _ u0z u1z => ?_ | refine Mine.dall2 D fun _ _ u0z u1z => ?_)
  (first | refine Mine.inI (show DatIn _ _ _ from u0z) fun _ => ?_ | refine Mine.inS (show DatIn _ _ _ from u0z) fun _ => ?_ | refine Mine.inB (show DatIn _ _ _ from u0z) ?_ | refine Mine.inN (show DatIn _ _ _ from u0z) ?_)
  (first | refine Mine.inI (show DatIn _ _ _ from u1z) fun _ => ?_ | refine Mine.inS (show DatIn _ _ _ from u1z) fun _ => ?_ | refine Mine.inB (show DatIn _ _ _ from u1z) ?_ | refine Mine.inN (show DatIn _ _ _ from u1z) ?_)
  exact SB.mul hok fun t' tk => k.same P (.str _ _) tk
/-- two pairs of numbers, one not behind the other -/
theorem tD_leT {i j k l : Int} (rm : Rm c 1) : TreeD w c env σ (cmpT .LtE) [.d (.tuple [.int i, .int j]), .d (.tuple [.int k, .int l])] (.d (.bool (decide (i < k ∨ (i = k ∧ j ≤ l))))) := fun fx m news t s Q E vs P D kk => by
  (first | refine Mine.all2 D fun _ _ h1 h2 => ?_ | refine Mine.dall2 D fun _ _ h1 h2 => ?_)
  refine Mine.inT (show DatIn _ _ _ from h1) fun _ _ _ m1 v1 => ?_
  refine Mine.inT (show DatIn _ _ _ from h2) fun _ _ _ m2 v2 => ?_
  revert m1 m2
  (first | refine Mine.all2 v1 fun _ _ a1 a2 => ?_ | refine Mine.dall2 v1 fun _ _ a1 a2 => ?_)
  (first | refine Mine.all2 v2 fun _ _ b1 b2 => ?_ | refine Mine.dall2 v2 fun _ _ b1 b2 => ?_)
  (first | refine Mine.inI (show DatIn _ _ _ from a1) fun _ => ?_ | refine Mine.inS (show DatIn _ _ _ from a1) fun _ => ?_ | refine Mine.inB (show DatIn _ _ _ from a1) ?_ | refine Mine.inN (show DatIn _ _ _ from a1) ?_)
  (first | refine Mine.inI (show DatIn _ _ _ from a2) fun _ => ?_ | refine Mine.inS (show DatIn _ _ _ from a2) fun _ => ?_ | refine Mine.inB (show DatIn _ _ _ from a2) ?_ | refine Mine.inN (show DatIn _ _ _ from a2) ?_)
  (first | refine Mine.inI (show DatIn _ _ _ from b1) fun _ => ?_ | refine Mine.inS (show DatIn _ _ _ from b1) fun _ => ?_ | refine Mine.inB (show DatIn _ _ _ from b1) ?_ | refine Mine.inN (show DatIn _ _ _ from b1) ?_)
  (first | refine Mine.inI (show DatIn _ _ _ from b2) fun _ => ?_ | refine Mine.inS (show DatIn _ _ _ from b2) fun _ => ?_ | refine Mine.inB (show DatIn _ _ _ from b2) ?_ | refine Mine.inN (show DatIn _ _ _ from b2) ?_)
  intro m1 m2
  exact tup_le P.nnw m1 m2 (by have := rm.u; show c.un < _; lia) (kk.same' P (.bool _))
/-- the first three of four -/
theorem eD_sliceT3 {value u : Expr} {p pos : Pos} {d0 d1 d2 d3 : Dat} (hv : EvalD w c env σ value (.d (.tuple [d0, d1, d2, d3]))) (hu : EvalD w c env σ u (.d (.int 3))) (hg : ∀ a r, letTemporaryGo value (.ref a) r = pure () := by intro _ _; with_unfolding_all rfl)
    (hs : ∀ a n, subscripted (.Slice none (some u) none p) false (.ref a) (.ref n) = operate [.ref n, .ref a] (getItem (.ref a) (.ref n)) := by intro _ _; with_unfolding_all rfl) : EvalD w c env σ (.Subscript value (.Slice none (some u) none p) pos) (.d (.tuple [d0, d1, d2])) := fun fx m news t s Q E P k => by
  refine Subscript_ (hv.run P fun v1 hA tkA tlA tA PA UA hv1 => ?_)
  refine Mine.inT (show DatIn _ _ _ from hv1) fun _ _ _ hml hvl => ?_
  refine wpAny_Slice (wpAny_pure (hu.run PA fun v2 hB tkB tlB tB PB UB hv2 => wpAny_pure ?_))
  (first | refine Mine.inI (show DatIn _ _ _ from hv2) fun _ => ?_ | refine Mine.inS (show DatIn _ _ _ from hv2) fun _ => ?_ | refine Mine.inB (show DatIn _ _ _ from hv2) ?_ | refine Mine.inN (show DatIn _ _ _ from hv2) ?_)
  cases hvl with | cons g0 hvl =>
  revert hml
  (first | refine Mine.all3 hvl fun _ _ _ g1 g2 g3 => ?_ | refine Mine.dall3 hvl fun _ _ _ g1 g2 g3 => ?_)
  intro hml
  refine slice_tuple_3 (s := { s with heap := hB, toks := tkB }) PB.F PB.N (memR _ (memR _ (memL _ hml))) (fun D h' F' N' l1 => ?_) (hs _ _) (hg _)
  obtain ⟨PC, UC⟩ := PB.one F' N' l1
  exact ((k.after UA).after UB) _ h' tkB _ tB PC UC (.tuple (memR _ (.head _)) (DatAll.mono (fun p hp => memL p (memL p hp)) (.cons g0 (.cons g1 (.cons g2 .nil)))))
/-- a loop whose turns may go on early -/
theorem d_cont {pos : Pos} (hk : K (.cont σ mu)) : Does w c σ mu (.Continue pos :: rest) K :=
  ⟨_, xD_cont (σ' := σ) (mu' := mu) (fun ex n₀ tl s Q E I k => by
    have e : exec (.Continue pos) c.env = (do standAt pos; pure .cont) := rfl
    rw [e]
    exact wpAny_bind (wpAny_standAt (wpAny_pure (k .cont s.heap s.toks [] ⟨rfl, by rw [List.append_nil]; exact I⟩)))), hk⟩
noncomputable def Nc (R : Sg → Mu → Prop) : Out → Prop
  | .next σ' mu' => R σ' mu'
  | .cont σ' mu' => R σ' mu'
  | _ => False
theorem d_loopC {x : Str} {body : List Stmt} (Inv : Nat → Sg → Mu → Prop) (hmu : ∀ i σ mu, Inv i σ mu → MuNe mu x) : ∀ (ds : List Vl) (k : Nat) (σ : Sg) (mu : Mu), Inv k σ mu →
    (∀ i d σ mu, ds[i]? = some d → Inv (k + i) σ mu → Does w c (upd σ x d) mu body (Nc (Inv (k + i + 1)))) → ∃ σ' mu', LoopD w c x body ds σ mu (.next σ' mu') ∧ Inv (k + ds.length) σ' mu' := by
  intro ds
  induction ds with
  | nil => intro k σ mu h _; exact ⟨σ, mu, .nil, h⟩
  | cons d r ih =>
    intro k σ mu h step
    have go : ∀ σ' mu', Inv (k + 1) σ' mu' → ∃ σ'' mu'', LoopD w c x body r σ' mu' (.next σ'' mu'') ∧ Inv (k + (d :: r).length) σ'' mu'' := fun σ' mu' h' => by
      rw [List.length_cons, show k + (r.length + 1) = k + 1 + r.length by lia]
      refine ih (k + 1) σ' mu' h' fun i d σ mu hi hI => ?_
      have := step (i + 1) d σ mu hi (by rw [show k + (i + 1) = k + 1 + i by lia]; exact hI)
      rw [show k + 1 + i + 1 = k + (i + 1) + 1 by lia]; exact this
    obtain ⟨o, hb, h'⟩ := step 0 d σ mu rfl h
    cases o with
    | next σ' mu' => exact (go σ' mu' h').imp fun _ ⟨mu'', hL, hI⟩ => ⟨mu'', .next (hmu _ _ _ h) hb hL, hI⟩
    | cont σ' mu' => exact (go σ' mu' h').imp fun _ ⟨mu'', hL, hI⟩ => ⟨mu'', .cont (hmu _ _ _ h) hb hL, hI⟩
    | brk _ _ => exact h'.elim
    | ret _ => exact h'.elim
theorem d_forC {x : Str} {iter : Expr} {body : List Stmt} {xp pos : Pos} {ds : List Dat} (Inv : Nat → Sg → Mu → Prop) (ok : CxOk w c) (h : EvalD w c c.env σ iter (.d (.list ds))) (h0 : Inv 0 σ mu) (hmu : ∀ i σ mu, Inv i σ mu → MuNe mu x)
    (step : ∀ i d σ mu, ds[i]? = some d → Inv i σ mu → Does w c (upd σ x (.d d)) mu body (Nc (Inv (i + 1)))) (hr : ∀ σ' mu', Inv ds.length σ' mu' → Does w c σ' mu' rest K)
    (hx : c.env.kindOf x = some .local := by rfl) (hd1 : (x == ("__debug__" : Str)) = false := by decide) (hd2 : (x == ("__classdict__" : Str)) = false := by decide) (hs : ∀ x, foldedSetIterable iter c.env x = pure x := by intro _; rfl) : Does w c σ mu (.For (.Name x xp) iter body [] pos :: rest) K := by
  obtain ⟨σ', mu', hL, hI⟩ := d_loopC (w := w) (c := c) (x := x) (body := body) Inv hmu (ds.map .d) 0 σ mu h0 fun i d σ mu hi hI => by
    rw [List.getElem?_map] at hi
    obtain ⟨e, he, rfl⟩ := Option.map_eq_some_iff.mp hi
    rw [Nat.zero_add] at hI ⊢
    exact step i e σ mu he hI
  rw [Nat.zero_add, List.length_map] at hI
  exact d_cons (xD_for ok h hL hx hd1 hd2 hs) (hr σ' mu' hI)
/-- the last item of the list is dropped -/
theorem xD_pop {x : Str} {np ap cp pos : Pos} {ds : List Dat} {a : Str} (ok : CxOk w c) (hlast : ds.getLast? = some (.str a)) (hl : ds.length ≤ 1000000) (hd : (x == ("__debug__" : Str)) = false := by decide) (hi : interactive c.env = false := by rfl)
    (hs : swapsWith (.Call (.Attribute (.Name x np) (Str.ofString "pop") ap) [] [] cp) none pos.line c.env = pure false := by rfl) {pl : Sem Bool} (hev : eval (.Call (.Attribute (.Name x np) (Str.ofString "pop") ap) [] [] cp) c.env = (do
      let ov ← eval (.Name x np) c.env
      standAt ap.atName
      let (f, first) ← holding [ov] (getMethod ov (Str.ofString "pop") pl)
      callWith cp f first (backTo cp (starEach [] c.env)) []) := by rfl) :
    ExecD w c σ (some (x, ds)) (.Expr (.Call (.Attribute (.Name x np) (Str.ofString "pop") ap) [] [] cp) pos) (.next σ (some (x, ds.dropLast))) := fun ex n₀ tl s Q E I k => by
  obtain ⟨m, fx, t, I⟩ := I
  obtain ⟨aL, vs, n, l1, l2, e12, h2, h3, hD, hN, hne⟩ := I.split
  refine wpAny_Expr ?_ hi hs
  refine MethodCall_ (nameX_L I.F h2 ?_ ok.k h3 hd) hev
  refine listMethod_K hN (.head _) PySem.F.slot_list_pop PySem.F.type_list_pop ?_
  refine callWith_method0 (pop_D I.F hN hne hD hlast hl fun h'' v us F'' N'' D'' hv => ?_)
  (first | refine Mine.inI (show DatIn _ _ _ from hv) fun _ => ?_ | refine Mine.inS (show DatIn _ _ _ from hv) fun _ => ?_ | refine Mine.inB (show DatIn _ _ _ from hv) ?_ | refine Mine.inN (show DatIn _ _ _ from hv) ?_)
  have J := I.put (x := x) e12 h2 h3 F'' N'' D''
  have z : OutOk w c ex n₀ (tl ++ []) (.next σ (some (x, ds.dropLast))) .next h'' := by
    rw [List.append_nil]
    exact ⟨rfl, m, _, t, J⟩
  exact k .next h'' s.toks [] z
/-- a local is given what is reckoned with the mutable list in sight -/
theorem xD_assignM {x y : Str} {e : Expr} {yp pos : Pos} {ds : List Dat} {a : Dat} (ok : CxOk w c) (hm : mu = some (x, ds)) (h : EvalD w c c.env (upd σ x (.d (.list ds))) e (.d a)) (ha : isAtom a = true) (hne : x ≠ y) (hy : c.env.kindOf y = some .local := by rfl) (hd : (x == ("__debug__" : Str)) = false := by decide)
    (hd1 : (y == ("__debug__" : Str)) = false := by decide) (hd2 : (y == ("__classdict__" : Str)) = false := by decide) (hs : swapsWith e (some (.Name y yp)) pos.line c.env = pure false := by rfl) : ExecD w c σ mu (.Assign [.Name y yp] e pos) (.next (upd σ y (.d a)) mu) := fun ex n₀ tl s Q E I k => by
  obtain ⟨m, fx, t, I⟩ := I
  obtain ⟨q, a3, a4, PM⟩ := I.preM ok hm hd
  refine wpAny_Assign_Name (h _ _ _ _ _ _ _ PM fun v h' tk' add t' P U hv => ?_) hs
  have I' := I.afterM a3 a4 P U
  exact storeX_L I'.F I'.N (fun h'' F'' N'' => k .next h'' _ add ⟨rfl, _, _, _, I'.set (d := .d a) (atom_any ha hv) hy (fun z ds' e => by rw [hm] at e; cases e; exact hne) hd1 hd2 F'' N''⟩) ok.k hy
noncomputable def drop1 (σ : Sg) (y : Str) : Sg := fun z => if z = y then none else σ z
/-- the mutable list goes under another name -/
theorem xD_rename {x y : Str} {xp yp pos : Pos} {ds : List Dat} (ok : CxOk w c) (hm : mu = some (x, ds)) (hy : c.env.kindOf y = some .local := by rfl) (hd : (x == ("__debug__" : Str)) = false := by decide)
    (hs : swapsWith (.Name x xp) (some (.Name y yp)) pos.line c.env = pure false := by rfl) : ExecD w c σ mu (.Assign [.Name y yp] (.Name x xp) pos) (.next (drop1 σ y) (some (y, ds))) := fun ex n₀ tl s Q E I k => by
  obtain ⟨m, fx, t, I⟩ := I
  obtain ⟨a, vs, n, h1, h2, h3, h4⟩ := I.mutl x ds hm
  refine wpAny_Assign_Name (nameX_L I.F h2 ?_ ok.k h3 hd) hs
  refine storeX_L I.F I.N (fun h'' F'' N'' => k .next h'' _ [] ⟨rfl, (fun z => if z = y then some (.ref a) else m z), fx, t, ?_⟩) ok.k hy
  rw [List.append_nil]
  refine ⟨F'', N'', I.tab, I.hi, fun z q hq => ?_, I.dis, I.dif, I.dex, I.nd, I.cells, fun z ds' e => ?_⟩
  · unfold drop1 at hq
    by_cases hz : z = y
    · rw [if_pos hz] at hq; cases hq
    · rw [if_neg hz] at hq
      obtain ⟨g1, g2, v', hv', hs⟩ := I.rho z q hq
      exact ⟨g1, g2, v', hv', hs.imp (fun ⟨a, b⟩ => ⟨a, (if_neg hz).trans b⟩) id⟩
  · cases e
    exact ⟨a, vs, n, h1, if_pos rfl, hy, h4⟩
/-- three names are given the items of a triple -/
theorem xD_unpack3 {x y z : Str} {e : Expr} {xp yp zp tp pos : Pos} {kk : Nat} {d1 d2 d3 : Dat} (ok : CxOk w c) (h : EvalD w c c.env σ e (.d (.tuple [d1, d2, d3]))) (hx : c.env.kindOf x = some .local := by rfl) (hy : c.env.kindOf y = some .local := by rfl) (hz : c.env.kindOf z = some .local := by rfl) (hmu : mu = none := by rfl)
    (hd : (x == ("__debug__" : Str)) = false ∧ (x == ("__classdict__" : Str)) = false := by decide) (he : (y == ("__debug__" : Str)) = false ∧ (y == ("__classdict__" : Str)) = false := by decide) (hf : (z == ("__debug__" : Str)) = false ∧ (z == ("__classdict__" : Str)) = false := by decide)
    (hs : swapsWithSole [.Tuple [.Name x xp, .Name y yp, .Name z zp] kk tp] e pos.line c.env = pure false := by rfl) (hw : swappedStores [.Tuple [.Name x xp, .Name y yp, .Name z zp] kk tp] e c.env = pure none := by rfl) :
    ExecD w c σ mu (.Assign [.Tuple [.Name x xp, .Name y yp, .Name z zp] kk tp] e pos) (.next (upd (upd (upd σ x (.d d1)) y (.d d2)) z (.d d3)) mu) := fun ex n₀ tl s Q E I k => by
  obtain ⟨m, fx, t, I⟩ := I
  subst hmu
  refine Assign_Tuple (h _ _ _ _ _ _ _ (I.pre ok) fun v h' tk' add t' P U hv => ?_) hs hw
  have I' := I.after P U
  rw [List.append_assoc] at hv
  refine Mine.inT (show DatIn _ _ _ from hv) fun _ _ _ hml hvl => ?_
  revert hml
  (first | refine Mine.all3 hvl fun _ _ _ b1 b2 b3 => ?_ | refine Mine.dall3 hvl fun _ _ _ b1 b2 b3 => ?_)
  intro hml
  refine unpackN_ I'.F I'.N (News.isTup I'.N (memR _ (memR _ hml))) rfl rfl rfl fun h2 F2 N2 => ?_
  show wpAny (theM w) c.A (assignInOrder [assign (.Name x xp) c.env, assign (.Name y yp) c.env, assign (.Name z zp) c.env] [_, _, _]) _ _ _
  unfold assignInOrder
  refine wpAny_bind (wpAny_holding (assign_Name (storeX_L F2 N2 (fun h3 F3 N3 => ?_) ok.k hx)))
  unfold assignInOrder
  refine wpAny_bind (wpAny_holding (assign_Name (storeX_L F3 N3 (fun h4 F4 N4 => ?_) ok.k hy)))
  unfold assignInOrder
  refine wpAny_bind (wpAny_holding (assign_Name (storeX_L F4 N4 (fun h5 F5 N5 => ?_) ok.k hz)))
  have J1 := I'.set (h' := h3) (x := x) (d := .d d1) b1 hx (fun _ _ h => nomatch h) hd.1 hd.2 F3 N3
  have J2 := J1.set (h' := h4) (x := y) (d := .d d2) b2 hy (fun _ _ h => nomatch h) he.1 he.2 F4 N4
  have J3 := J2.set (h' := h5) (x := z) (d := .d d3) b3 hz (fun _ _ h => nomatch h) hf.1 hf.2 F5 N5
  unfold assignInOrder
  exact wpAny_pure (k .next h5 _ add ⟨rfl, _, _, _, J3⟩)
end
end Mine

namespace Mine
theorem gF_get_sep (w : World) : nsIn (Mine.top.heap_1 w.params) mainGlobals (Str.ofString "_get_sep") = some (some (.ref 129)) := by
  have hfill := Mine.fillT w
  revert hfill
  k_fill
  intro hfill
  clear hfill
  change _ = _
  k_is
theorem gK_get_sep (w : World) : keepIn (Mine.top.heap_1 w.params) (.ref 129) = true := by
  have hfill := Mine.fillT w
  revert hfill
  k_fill
  intro hfill
  clear hfill
  change _ = _
  k_is
theorem fn_getsep (w : World) : FnV w 129 4 (fun ds r => ∃ x, ds = [.d (.str x)] ∧ r = .d (.str (Str.ofString "/"))) := by
  have hfill := Mine.fillT w
  revert hfill
  k_fill
  intro hfill
  clear hfill
  refine' fnV_of [Str.ofString "path"] ?ho ?hcd ?hb ?hloc ?hnd ?hdb ?hlen (by decide) ?h ?hco ?hgen ?hk ?hcell
  case ho => k_is
  case hcd => k_is
  case hb => intro s vs hv; obtain _ | ⟨v1, _ | ⟨v2, _ | ⟨v3, _ | ⟨v4, _ | ⟨v5, vs⟩⟩⟩⟩⟩ := vs <;> first | (simp at hv; done) | exact BindsTo.of_eq rfl
  case hloc => decide
  case hnd => decide
  case hdb => decide
  case hco => rfl
  case hgen => rfl
  case hk => rfl
  case hcell => decide
  case hlen => rintro ds r ⟨x, rfl, _⟩; rfl
  rintro c L g ds r ok rm ⟨x, rfl, rfl⟩
  have eo := envOk ok.k
  refine Does.body ?_
  generalize hσ0 : lkL _ = σ0
  have s1 : σ0 (Str.ofString "path") = some (.d (.str x)) := by subst hσ0; rfl
  clear hσ0
  refine d_if ok (testX (Mine.tT_val (Mine.eD_callB2 (id := "isinstance") (by assumption) (by walk_at "mEOK") (Mine.gB_isinstance w) rfl (Mine.aD_cons (Mine.eD_name (by walk_at "mELK")) (Mine.aD_cons (Mine.eD_nameB (by assumption) (by walk_at "mEOK") (Mine.gB_bytes w) rfl) Mine.aD_nil)) Mine.cD_isiBytes) Mine.trB)) (fun h => (nomatch h)) (fun _ => ?_)
  exact d_ret (xD_return ok Mine.eD_str) rfl
section
variable {w : World} {c : Cx} {env : Env} {σ : Sg}
theorem cF_fspath {x : Str} (ok : CxOk w c) (rm : Rm c 4) : CallD w c env σ (.ref 108) [.d (.str x)] (.d (.str x)) := cD_fn ok (FnV.of (fn_fspath w)) rm ⟨[.str x], _, rfl, rfl, x, rfl, rfl⟩
theorem cF_getsep {x : Str} (ok : CxOk w c) (rm : Rm c 4) : CallD w c env σ (.ref 129) [.d (.str x)] (.d (.str (Str.ofString "/"))) := cD_fn ok (fn_getsep w) rm ⟨x, rfl, rfl⟩
variable {mu : Mu}
/-- two names are given two values that stand side by side -/
theorem xD_pair {x y : Str} {e : Expr} {xp yp tp pos : Pos} {kk : Nat} {d1 d2 : Dat} (ok : CxOk w c) (h : EvalD w c c.env σ e (.d (.tuple [d1, d2]))) (hx : c.env.kindOf x = some .local := by rfl) (hy : c.env.kindOf y = some .local := by rfl) (hmu : mu = none := by rfl)
    (hd : (x == ("__debug__" : Str)) = false ∧ (x == ("__classdict__" : Str)) = false := by decide) (he : (y == ("__debug__" : Str)) = false ∧ (y == ("__classdict__" : Str)) = false := by decide)
    (hs : swapsWithSole [.Tuple [.Name x xp, .Name y yp] kk tp] e pos.line c.env = pure false := by rfl) (hw : swappedStores [.Tuple [.Name x xp, .Name y yp] kk tp] e c.env = pure (some [x, y]) := by rfl) :
    ExecD w c σ mu (.Assign [.Tuple [.Name x xp, .Name y yp] kk tp] e pos) (.next (upd (upd σ y (.d d2)) x (.d d1)) mu) := fun ex n₀ tl s Q E I k => by
  obtain ⟨m, fx, t, I⟩ := I
  subst hmu
  refine Assign_Tuple_swapped (h _ _ _ _ _ _ _ (I.pre ok) fun v h' tk' add t' P U hv => ?_) hs hw
  have I' := I.after P U
  rw [List.append_assoc] at hv
  refine Mine.inT (show DatIn _ _ _ from hv) fun _ _ _ hml hvl => ?_
  revert hml
  (first | refine Mine.all2 hvl fun _ _ b1 b2 => ?_ | refine Mine.dall2 hvl fun _ _ b1 b2 => ?_)
  intro hml
  refine unpackItemsN_ I'.F I'.N (News.isTup I'.N (memR _ (memR _ hml))) rfl rfl fun h2 F2 N2 => ?_
  show wpAny (theM w) c.A (assignInOrder [bindName c.env y, bindName c.env x] [_, _]) _ _ _
  unfold assignInOrder
  refine wpAny_bind (wpAny_holding (bindName_ (storeX_L F2 N2 (fun h3 F3 N3 => ?_) ok.k hy)))
  unfold assignInOrder
  refine wpAny_bind (wpAny_holding (bindName_ (storeX_L F3 N3 (fun h4 F4 N4 => ?_) ok.k hx)))
  have J1 := I'.set (h' := h3) (x := y) (d := .d d2) b2 hy (fun _ _ h => nomatch h) he.1 he.2 F3 N3
  have J2 := J1.set (h' := h4) (x := x) (d := .d d1) b1 hx (fun _ _ h => nomatch h) hd.1 hd.2 F4 N4
  unfold assignInOrder
  exact wpAny_pure (k .next h4 _ add ⟨rfl, _, _, _, J2⟩)
end
theorem mulSl {n : Nat} (h : n ≤ 1000000) : MulOk (Str.ofString "/") (n : Int) := by
  refine ⟨?_, fun h1 _ => ?_, fun h1 _ => ?_⟩
  · rw [Bool.or_eq_false_iff]; exact ⟨decide_eq_false (by lia), decide_eq_false (by lia)⟩
  · have e : ((Str.ofString "/").length : Int) = 1 := rfl
    rw [e]
    have := (Int.le_ediv_iff_mul_le (a := 1) (b := 2 ^ 63 - 1) (c := (n : Int)) (by lia)).mpr (by lia)
    lia
  · refine decide_eq_false ?_
    show ¬ (1 * (n : Int).toNat > sizeLine)
    rw [sizeLine_eq]; lia
theorem pHead0_len {x : Str} (h : x.length ≤ 100000) : (pHead0 x).length ≤ 1000000 := Nat.le_trans (PyProof.Txt.length_slice_le _ _ _) (by lia)
theorem fn_split (w : World) : FnV w 143 8 (fun ds r => ∃ x, ds = [.d (.str x)] ∧ r = .d (.tuple [.str (pHead x), .str (pTail x)]) ∧ x.length ≤ 100000) := by
  have hfill := Mine.fillT w
  revert hfill
  k_fill
  intro hfill
  clear hfill
  refine' fnV_of [Str.ofString "p"] ?ho ?hcd ?hb ?hloc ?hnd ?hdb ?hlen (by decide) ?h ?hco ?hgen ?hk ?hcell
  case ho => k_is
  case hcd => k_is
  case hb => intro s vs hv; obtain _ | ⟨v1, _ | ⟨v2, _ | ⟨v3, _ | ⟨v4, _ | ⟨v5, vs⟩⟩⟩⟩⟩ := vs <;> first | (simp at hv; done) | exact BindsTo.of_eq rfl
  case hloc => decide
  case hnd => decide
  case hdb => decide
  case hco => rfl
  case hgen => rfl
  case hk => rfl
  case hcell => decide
  case hlen => rintro ds r ⟨x, rfl, _⟩; rfl
  rintro c L g ds r ok rm ⟨x, rfl, rfl, hl⟩
  have eo := envOk ok.k
  have hl2 : x.length ≤ 16000000 := by lia
  have hh := pHead0_len hl
  have hh2 : (pHead0 x).length ≤ 16000000 := by lia
  have hm := mulSl hh
  refine Does.body ?_
  generalize hσ0 : lkL _ = σ0
  have s1 : σ0 (Str.ofString "p") = some (.d (.str x)) := by subst hσ0; rfl
  clear hσ0
  refine d_cons (xD_assign ok (Mine.eD_callG2 (by assumption) (by walk_at "mEOK") (Mine.gF_fspath w) (Mine.gK_fspath w) (Mine.aD_cons (Mine.eD_name (by walk_at "mELK")) Mine.aD_nil) (cF_fspath (by assumption) (by walk_at "mROOM")))) ?_
  refine d_cons (xD_assign ok (Mine.eD_callG2 (by assumption) (by walk_at "mEOK") (Mine.gF_get_sep w) (Mine.gK_get_sep w) (Mine.aD_cons (Mine.eD_name (by walk_at "mELK")) Mine.aD_nil) (cF_getsep (by assumption) (by walk_at "mROOM")))) ?_
  refine d_cons (xD_assign ok (Mine.eD_bin (Mine.eD_meth2 (Mine.eD_name (by walk_at "mELK")) Mine.mt_rfind (Mine.aD_cons (Mine.eD_name (by walk_at "mELK")) Mine.aD_nil) Mine.cD_rfind) Mine.eD_int Mine.tD_addI)) ?_
  refine d_cons (xD_pair (d1 := .str (pHead0 x)) (d2 := .str (pTail x)) ok (Mine.eD_tuple (ds := [_, _]) (Mine.ad_cons (Mine.eD_sliceS_ns (Mine.eD_name (by walk_at "mELK")) (Mine.eD_name (by walk_at "mELK")) (by walk_at "mEBOUND")) (Mine.ad_cons (Mine.eD_sliceS_sn (Mine.eD_name (by walk_at "mELK")) (Mine.eD_name (by walk_at "mELK")) (by walk_at "mEBOUND")) Mine.ad_nil)) (Nat.le_of_ble_eq_true rfl))) ?_
  unfold pHead
  by_cases h0 : ((pHead0 x).length : Int) ≠ 0 ∧ (pHead0 x != Txt.mul (Str.ofString "/") (pHead0 x).length) = true
  · rw [if_pos h0]
    refine d_if ok (testX (Mine.tT_and (Mine.tT_val (Mine.eD_name (by walk_at "mELK")) (Mine.trS (by walk_at "mEBOUND"))) (fun _ => (Mine.tT_and (Mine.tT_cmp (Mine.eD_name (by walk_at "mELK")) (Mine.eD_bin (Mine.eD_name (by walk_at "mELK")) (Mine.eD_callB2 (id := "len") (by assumption) (by walk_at "mEOK") (Mine.gB_len w) rfl (Mine.aD_cons (Mine.eD_name (by walk_at "mELK")) Mine.aD_nil) (Mine.cD_strlen (by walk_at "mEBOUND"))) (Mine.tD_mulS (by assumption))) Mine.tD_neS) (fun _ => Mine.tT_and0))))) (fun _ => ?_) (fun h => absurd h (by rw [h0.2, Bool.and_true, Bool.and_true, bne_eq_false_iff_eq]; exact h0.1))
    refine d_cons (xD_assign ok (Mine.eD_meth2 (Mine.eD_name (by walk_at "mELK")) Mine.mt_rstrip (Mine.aD_cons (Mine.eD_name (by walk_at "mELK")) Mine.aD_nil) (Mine.cD_rstrip (by walk_at "mEBOUND")))) (d_nil ?_)
    exact d_ret (xD_return ok (Mine.eD_tuple (ds := [_, _]) (Mine.ad_cons (Mine.eD_name (by walk_at "mELK")) (Mine.ad_cons (Mine.eD_name (by walk_at "mELK")) Mine.ad_nil)) (Nat.le_of_ble_eq_true rfl))) rfl
  · rw [if_neg h0]
    refine d_if ok (testX (Mine.tT_and (Mine.tT_val (Mine.eD_name (by walk_at "mELK")) (Mine.trS (by walk_at "mEBOUND"))) (fun _ => (Mine.tT_and (Mine.tT_cmp (Mine.eD_name (by walk_at "mELK")) (Mine.eD_bin (Mine.eD_name (by walk_at "mELK")) (Mine.eD_callB2 (id := "len") (by assumption) (by walk_at "mEOK") (Mine.gB_len w) rfl (Mine.aD_cons (Mine.eD_name (by walk_at "mELK")) Mine.aD_nil) (Mine.cD_strlen (by walk_at "mEBOUND"))) (Mine.tD_mulS (by assumption))) Mine.tD_neS) (fun _ => Mine.tT_and0))))) (fun h => absurd h (by simpa using h0)) (fun _ => d_nil ?_)
    exact d_ret (xD_return ok (Mine.eD_tuple (ds := [_, _]) (Mine.ad_cons (Mine.eD_name (by walk_at "mELK")) (Mine.ad_cons (Mine.eD_name (by walk_at "mELK")) Mine.ad_nil)) (Nat.le_of_ble_eq_true rfl))) rfl
end Mine

namespace Mine
section
variable {w : World} {c : Cx} {env : Env} {σ : Sg}
end
noncomputable def jStep (path b : Str) : Str := if (Txt.startswith b (Str.ofString "/") || (!(((path.length : Int) != 0)) || false)) = true then b else if Txt.endswith path (Str.ofString "/") = true then path ++ b else path ++ (Str.ofString "/" ++ b)
theorem in_join {w : World} {c : Cx} {a : Str} {ss : List Str} (ok : CxOk w c) (rm : Rm c 6) (hl : ss.length ≤ 1000) (hb : ∀ i, ((ss.take i).foldl jStep a).length ≤ 100000) (hs : ∀ x ∈ ss, x.length ≤ 100000) : CallIn w c 136 (.d (.str a) :: (ss.map Dat.str).map .d) (.d (.str (ss.foldl jStep a))) := by
  have hfill := Mine.fillT w
  revert hfill
  k_fill
  intro hfill
  clear hfill
  refine' enterR (n := 6) ?ho ?hcd ?h1 ?h2 ?hnd ?hb1 ?hb2 ?hl ?hn ?ok ?rm ?h ?hco ?hgen ?hk ?hcell
  case ho => k_is
  case hcd => k_is
  case h1 => decide
  case h2 => decide
  case hnd => decide
  case hb1 => decide
  case hb2 => decide
  case hl => rw [List.length_map]; lia
  case hn => decide
  case ok => assumption
  case rm => assumption
  case hco => rfl
  case hgen => rfl
  case hk => rfl
  case hcell => decide
  intro L g ok rm
  have eo := envOk ok.k
  refine Does.body ?_
  generalize hσ0 : upd _ _ _ = σ0
  have s1 : σ0 (Str.ofString "a") = some (.d (.str a)) := by subst hσ0; rfl
  have s2 : σ0 (Str.ofString "p") = some (.d (.tuple (ss.map .str))) := by subst hσ0; rfl
  clear hσ0
  have ha : a.length ≤ 100000 := by have := hb 0; rwa [List.take_zero] at this
  refine d_cons (xD_assign ok (Mine.eD_callG2 (by assumption) (by walk_at "mEOK") (Mine.gF_fspath w) (Mine.gK_fspath w) (Mine.aD_cons (Mine.eD_name (by walk_at "mELK")) Mine.aD_nil) (cF_fspath (by assumption) (by walk_at "mROOM")))) ?_
  refine d_cons (xD_assign ok (Mine.eD_callG2 (by assumption) (by walk_at "mEOK") (Mine.gF_get_sep w) (Mine.gK_get_sep w) (Mine.aD_cons (Mine.eD_name (by walk_at "mELK")) Mine.aD_nil) (cF_getsep (by assumption) (by walk_at "mROOM")))) ?_
  refine d_cons (xD_assign ok (Mine.eD_name (by walk_at "mELK"))) ?_
  refine d_try ?_
  refine d_forT (ds := ss.map .str) (fun i σ => σ (Str.ofString "sep") = some (.d (.str (Str.ofString "/"))) ∧ σ (Str.ofString "path") = some (.d (.str ((ss.take i).foldl jStep a)))) ok (Mine.eD_name (by walk_at "mELK")) ⟨by walk_at "mELK", by walk_at "mELK"⟩ ?_ ?_
  · rintro i d σ hi ⟨q1, q2⟩
    rw [List.getElem?_map] at hi
    obtain ⟨x, hix, rfl⟩ := Option.map_eq_some_iff.mp hi
    have hx := hs x (List.mem_of_getElem? hix)
    have hp := hb i
    have hnext : (ss.take (i + 1)).foldl jStep a = jStep ((ss.take i).foldl jStep a) x := by rw [take_get hix, List.foldl_append]; rfl
    rw [hnext]
    generalize (ss.take i).foldl jStep a = path at *
    have hp2 : path.length ≤ 16000000 := by lia
    have e1 : (Str.ofString "/" ++ x).length = x.length + 1 := by rw [Str.length_append]; show 1 + _ = _; lia
    have e2 : (Str.ofString "/").length = 1 := rfl
    refine d_cons (xD_assign ok (Mine.eD_callG2 (by assumption) (by walk_at "mEOK") (Mine.gF_fspath w) (Mine.gK_fspath w) (Mine.aD_cons (Mine.eD_name (by walk_at "mELK")) Mine.aD_nil) (cF_fspath (by assumption) (by walk_at "mROOM")))) ?_
    refine d_if (bb := (Txt.startswith x (Str.ofString "/") || (!(((path.length : Int) != 0)) || false))) ok (testX (tT_or (tT_val (eD_meth2 (Mine.eD_name (by walk_at "mELK")) mt_startswith (aD_cons (Mine.eD_name (by walk_at "mELK")) aD_nil) cD_startswith) trB) (fun _ => tT_or (Mine.tT_not (Mine.tT_val (Mine.eD_name (by walk_at "mELK")) (Mine.trS (by walk_at "mEBOUND")))) (fun _ => tT_or0)))) (fun h => ?_) (fun h => ?_)
    · refine d_cons (xD_assign ok (Mine.eD_name (by walk_at "mELK"))) (d_nil (d_nil ⟨_, rfl, by walk_at "mELK", ?_⟩))
      unfold jStep
      rw [if_pos h]
      walk_at "mELK"
    · have h' : ¬ (Txt.startswith x (Str.ofString "/") || (!(((path.length : Int) != 0)) || false)) = true := by rw [h]; decide
      unfold jStep
      rw [if_neg h']
      refine d_if (bb := Txt.endswith path (Str.ofString "/")) ok (testX (tT_val (eD_meth2 (Mine.eD_name (by walk_at "mELK")) mt_endswith (aD_cons (Mine.eD_name (by walk_at "mELK")) aD_nil) cD_endswith) trB)) (fun h2 => ?_) (fun h2 => ?_)
      · rw [if_pos h2]
        exact d_cons (xD_augS ok (by walk_at "mELK") (Mine.eD_name (by walk_at "mELK")) (by lia)) (d_nil (d_nil (d_nil ⟨_, rfl, by walk_at "mELK", by walk_at "mELK"⟩)))
      · rw [if_neg (by rw [h2]; decide)]
        exact d_cons (xD_augS ok (by walk_at "mELK") (Mine.eD_bin (Mine.eD_name (by walk_at "mELK")) (Mine.eD_name (by walk_at "mELK")) (Mine.tD_addS (by walk_at "mEBOUND"))) (by lia)) (d_nil (d_nil (d_nil ⟨_, rfl, by walk_at "mELK", by walk_at "mELK"⟩)))
  · rintro σ ⟨q1, q2⟩
    refine d_nil ?_
    refine d_ret (xD_return ok (Mine.eD_name (by walk_at "mELK"))) ?_
    rw [List.length_map, List.take_length]
end Mine

namespace Mine
theorem map_no_len : typeLookup (.type "map") "__len__" = pure none := by rw [typeLookup_type, builtinLookup_eq_fast]; kernel_rfl
theorem map_no_hint : typeLookup (.type "map") "__length_hint__" = pure none := by rw [typeLookup_type, builtinLookup_eq_fast]; kernel_rfl
section
variable {prog : Program} {w : World} {A : Around} {E : Value → Shared → Prop} {s : Shared} {h₀ : Heap} {L : Addr} {m : Str → Option Value} {rest : Lg}
theorem loop_end_map {R : Result → Shared → Prop} {S D t it l : Addr} {f res : Value} {o : Obj} {i : Nat} {items : Array Value} (hh : A.handled = none) (F : Fr h₀ L s.heap m) (N : News h₀ L s.heap (mapL D t it f o rest)) (ho : IterO o l i) (hl : s.heap.IsList l items) (hx : items[i]? = none) (h3 : ∀ p ∈ rest, p.1 ≠ it)
    (h : ∀ h', Fr h₀ L h' m → News h₀ L h' rest → R (.ok (.ret res)) { s with heap := h' }) : codeAny (model prog w) A (.builtin "list.extend.loop" ⟨[.ref S, .ref D, res], []⟩) R s := by
  refine codeAny_builtin PySem.F.entry_extend_loop ?_
  rw [Around.under_plainId PySem.F.plain_extend_loop _]
  show wpAny _ A.in1 (pyNext (.ref D) >>= _) _ _ s
  exact wpAny_bind (map_endK hh F N ho hl hx h3 fun h' F' N' => wpAny_pure (h h' F' N'))
theorem loop_item_map {R : Result → Shared → Prop} {S D t it l : Addr} {f res : Value} {o : Obj} {i c : Nat} {items acc : Array Value} {x : Value} {P : Value → Prop} (F : Fr h₀ L s.heap m) (N : News h₀ L s.heap (mapL D t it f o ((S, listOf acc c) :: rest))) (ho : IterO o l i) (hl : ∃ n, (l, listOf items n) ∈ rest) (hx : items[i]? = some x) (h1 : D ≠ it) (h2 : t ≠ it) (h3 : ∀ p ∈ rest, p.1 ≠ it) (hS : it < S) (hD : D < S) (ht : t < S) (hr : ∀ p ∈ rest, p.1 < S) (hz : acc.size < 1000)
    (hf : ∀ o', IterO o' l (i + 1) → Turns prog w A.in1.in1 h₀ L m (mapL D t it f o' ((S, listOf acc c) :: rest)) f x P)
    (h : ∀ v h' tk o' c', P v → IterO o' l (i + 1) → Fr h₀ L h' m → News h₀ L h' (mapL D t it f o' ((S, listOf (acc.push v) c') :: rest)) → codeAny (model prog w) A (.builtin "list.extend.loop" ⟨[.ref S, .ref D, res], []⟩) R { s with heap := h', toks := tk }) :
    codeAny (model prog w) A (.builtin "list.extend.loop" ⟨[.ref S, .ref D, res], []⟩) R s := by
  refine codeAny_builtin PySem.F.entry_extend_loop ?_
  rw [Around.under_plainId PySem.F.plain_extend_loop _]
  show wpAny _ A.in1 (pyNext (.ref D) >>= _) _ _ s
  obtain ⟨n, hl⟩ := hl
  refine wpAny_bind (map_nextK (rest := (S, listOf acc c) :: rest) F N ho ⟨_, (N _ (.tail _ (.tail _ (.tail _ (.tail _ hl))))).1, rfl, _, rfl⟩ hx h1 h2 (List.forall_mem_cons.mpr ⟨Nat.ne_of_gt hS, h3⟩) hf fun v h' tk o' hv hI F' N' => ?_)
  have hS' := (N' (S, listOf acc c) (.tail _ (.tail _ (.tail _ (.head _))))).1
  have nS := (N' (S, listOf acc c) (.tail _ (.tail _ (.tail _ (.head _))))).2
  show wpAny _ A.in1 (updateSeq S (·.push v) >>= _) _ _ _
  refine wpAny_bind (wpAny_updateSeq hS' rfl (wpAny_pure ⟨plainId_quiet PySem.F.plain_extend_loop _, h v _ _ o' _ hv hI (F'.change (Heap.SameBut.update ..) nS.1 nS.2) (News.setAt (own := [(D, mapO t f), (t, mapT it), (it, o')]) N' (fun p hp => ?_) (fun p hp => Nat.ne_of_lt (hr p hp)) (Heap.SameBut.update ..) (Heap.get?_update_self _ hS' rfl))⟩) (by unfold sizeLine; lia) (by show (acc.push v).size ≤ sizeLine + 1; rw [Array.size_push]; unfold sizeLine; lia))
  rcases List.mem_cons.mp hp with rfl | hp
  · exact Nat.ne_of_lt hD
  · rcases List.mem_cons.mp hp with rfl | hp
    · exact Nat.ne_of_lt ht
    · rw [List.mem_singleton.mp hp]; exact Nat.ne_of_lt hS
theorem collect_map2 {Q : List Value → Shared → Prop} {D t it l : Addr} {f : Value} {o : Obj} {x y : Value} {P1 P2 : Value → Prop} (hh : A.handled = none) (F : Fr h₀ L s.heap m) (N : News h₀ L s.heap (mapL D t it f o rest)) (ho : IterO o l 0) (hl : ∃ n, (l, listOf #[x, y] n) ∈ rest) (h1 : D ≠ it) (h2 : t ≠ it) (h3 : ∀ p ∈ rest, p.1 ≠ it)
    (hf1 : ∀ S o' acc c, IterO o' l 1 → Turns prog w A.in1.in1 h₀ L m (mapL D t it f o' ((S, listOf acc c) :: rest)) f x P1) (hf2 : ∀ S o' acc c, IterO o' l 2 → Turns prog w A.in1.in1 h₀ L m (mapL D t it f o' ((S, listOf acc c) :: rest)) f y P2)
    (h : ∀ v1 v2 h' tk, P1 v1 → P2 v2 → Fr h₀ L h' m → News h₀ L h' rest → Q [v1, v2] { s with heap := h', toks := tk }) : wpAny (model prog w) A (collect (.ref D)) Q E s := by
  have hlt : ∀ p ∈ mapL D t it f o rest, p.1 < s.heap.objs.size := fun p hp => Heap.lt_size (N p hp).1
  unfold collect
  refine wpAny_bind (wpAny_runValue (codeAny_builtin PySem.F.entry_proto_collect ?_))
  rw [Around.under_plainId PySem.F.plain_proto_collect _]
  show wpAny _ A.in1 (newList [] >>= fun l => again (.builtin "list.__iadd__" ⟨[l, .ref D], []⟩)) _ _ s
  refine wpAny_bind (wpAny_newObj_type ?_)
  refine wpAny_pure ⟨plainId_quiet PySem.F.plain_list_iadd _, codeAny_builtin PySem.F.entry_list_iadd ?_⟩
  rw [Around.under_plainId PySem.F.plain_list_iadd _]
  show wpAny _ A.in1 (Builtin.List.listExtendWith (.ref s.heap.objs.size) (.ref D) (.ref s.heap.objs.size)) _ _ _
  have F1 := F.push (listOf #[] 0)
  have N1 := N.push F (listOf #[] 0)
  have hD := hlt _ (.head _)
  have ht := hlt _ (.tail _ (.head _))
  have hi := hlt _ (.tail _ (.tail _ (.head _)))
  have hr : ∀ p ∈ rest, p.1 < s.heap.objs.size := fun p hp => hlt p (.tail _ (.tail _ (.tail _ hp)))
  have hT : Shared.TypeIs { s with heap := s.heap.push (listOf #[] 0) } (.ref D) "map" := ⟨_, (N1 _ (.tail _ (.head _))).1, rfl⟩
  unfold Builtin.List.listExtendWith
  refine wpAny_bind (wpAny_typeOf hT ?_)
  have hSD : s.heap.objs.size ≠ D := Nat.ne_of_gt hD
  have h1' : Builtin.List.listSameRef (.ref s.heap.objs.size) (.ref D) = false := by simp [Builtin.List.listSameRef, hSD]
  have h2' : (Value.type "map" == Value.type "list") = false := by decide
  have h3' : (Value.type "map" == Value.type "tuple") = false := by decide
  simp only [h1', h2', h3', Bool.or_false, Bool.false_eq_true, if_false]
  refine wpAny_bind (map_iter (s := { s with heap := s.heap.push (listOf #[] 0) }) (mapK (rest := rest) (s := { s with heap := s.heap.push (listOf #[] 0) }) (h₀ := h₀) (L := L) fun p hp => N1 p (.tail _ hp)) ?_)
  refine wpAny_bind (wpAny_holding ?_)
  unfold Builtin.List.listLengthHint
  refine wpAny_bind (wpAny_specialOf hT map_no_len ?_)
  show wpAny _ A.in1 (specialOf (Value.ref D) (Str.ofString "__length_hint__") >>= _) _ _ _
  refine wpAny_bind (wpAny_specialOf hT map_no_hint ?_)
  refine wpAny_pure ?_
  show wpAny _ A.in1 (rule "list.extend.makes-room" >>= fun _ => Builtin.List.listTouch (.ref s.heap.objs.size) >>= fun _ =>
    again (.builtin "list.extend.loop" ⟨[.ref s.heap.objs.size, .ref D, .ref s.heap.objs.size], []⟩)) _ _ _
  refine wpAny_bind (wpAny_rule ?_)
  have nS := (N1 (s.heap.objs.size, listOf #[] 0) (.head _)).2
  have hS₁ := (N1 (s.heap.objs.size, listOf #[] 0) (.head _)).1
  refine wpAny_bind ?_
  show wpAny _ A.in1 (updateSeq s.heap.objs.size (·.push .none) >>= fun _ => updateSeq s.heap.objs.size (·.pop)) _ _ _
  refine wpAny_bind (wpAny_updateSeq hS₁ rfl ?_)
  have hS₂ := Heap.get?_update_self (Obj.mapSeq (·.push Value.none)) hS₁ rfl
  refine wpAny_updateSeq hS₂ rfl ?_
  have hS₃ := Heap.get?_update_self (Obj.mapSeq (·.pop)) hS₂ rfl
  have F3 := (F1.change (Heap.SameBut.update _ _ (Obj.mapSeq (·.push Value.none))) nS.1 nS.2).change (Heap.SameBut.update _ _ (Obj.mapSeq (·.pop))) nS.1 nS.2
  have N3 := (N1.setHead (fun p hp => Nat.ne_of_lt (hlt p hp)) (Heap.SameBut.update _ _ (Obj.mapSeq (·.push Value.none))) hS₂).setHead (fun p hp => Nat.ne_of_lt (hlt p hp)) (Heap.SameBut.update _ _ (Obj.mapSeq (·.pop))) hS₃
  have hre : ∀ {h : Heap} {S : Addr} {c : Nat}, News h₀ L h ((S, listOf #[] c) :: mapL D t it f o rest) → News h₀ L h (mapL D t it f o ((S, listOf #[] c) :: rest)) := fun N p hp => N p (by simp only [List.mem_cons] at hp ⊢; rcases hp with h | h | h | h | h <;> simp [h])
  refine wpAny_pure ⟨plainId_quiet PySem.F.plain_extend_loop _, ?_⟩
  refine loop_item_map (i := 0) (acc := #[]) (A := A) F3 (hre N3) ho hl rfl h1 h2 h3 hi hD ht hr (by decide) (fun o' => hf1 _ o' _ _) fun v1 hA tkA oA cA hv1 hoA FA NA => ?_
  refine loop_item_map (i := 1) (acc := #[v1]) (A := A) FA NA hoA hl rfl h1 h2 h3 hi hD ht hr (show 1 < 1000 by decide) (fun o' => hf2 _ o' _ _) fun v2 hB tkB oB cB hv2 hoB FB NB => ?_
  have hlB : hB.IsList l #[x, y] := hl.elim fun n hl => ⟨_, (NB _ (.tail _ (.tail _ (.tail _ (.tail _ hl))))).1, rfl, _, rfl⟩
  refine loop_end_map (i := 2) hh FB NB hoB hlB rfl (List.forall_mem_cons.mpr ⟨Nat.ne_of_gt hi, h3⟩) fun hC FC NC => ?_
  show wpAny _ A (load s.heap.objs.size >>= _) _ _ _
  refine wpAny_bind (wpAny_load (NC _ (.head _)).1 ?_)
  exact wpAny_pure (h v1 v2 hC tkB hv1 hv2 FC fun p hp => NC p (.tail _ hp))
theorem tuple_map2 {Q : Value → Shared → Prop} {D t it l : Addr} {f : Value} {o : Obj} {x y : Value} {P1 P2 : Value → Prop} (hh : A.handled = none) (F : Fr h₀ L s.heap m) (N : News h₀ L s.heap (mapL D t it f o rest)) (ho : IterO o l 0) (hl : ∃ n, (l, listOf #[x, y] n) ∈ rest) (h1 : D ≠ it) (h2 : t ≠ it) (h3 : ∀ p ∈ rest, p.1 ≠ it)
    (hf1 : ∀ S o' acc c, IterO o' l 1 → Turns prog w A.in1.in1.in1.in1 h₀ L m (mapL D t it f o' ((S, listOf acc c) :: rest)) f x P1) (hf2 : ∀ S o' acc c, IterO o' l 2 → Turns prog w A.in1.in1.in1.in1 h₀ L m (mapL D t it f o' ((S, listOf acc c) :: rest)) f y P2)
    (h : ∀ v1 v2 T h' tk, P1 v1 → P2 v2 → Fr h₀ L h' m → News h₀ L h' ((T, { cls := .type "tuple", data := .seq #[v1, v2] }) :: rest) → (∀ p ∈ rest, p.1 < T) → Q (.ref T) { s with heap := h', toks := tk }) : wpAny (model prog w) A (call (.type "tuple") [.ref D]) Q E s := by
  refine callType_codes (Q₁ := fun obj s₁ => s₁.TypeIs obj "tuple" ∧ Q obj s₁) PySem.F.called_tuple (PySem.F.typeCall_tuple_1 _) PySem.F.entry_object_init ?_ fun obj s₁ h₁ => ?_
  · refine codeAny_of_tree ?_
    show wpAny _ A.in1.in1 (do checkBuiltinCall "tuple.__new__" ⟨[.type "tuple", .ref D], []⟩; again (.builtin "tuple.__new__" ⟨[.type "tuple", .ref D], []⟩)) _ _ s
    refine wpAny_bind (wpAny_of_eq (PySem.F.newCall_tuple_1 _) (wpAny_pure ⟨plainId_quiet PySem.F.plain_tuple_new _, codeAny_builtin PySem.F.entry_tuple_new ?_⟩))
    rw [Around.under_plainId PySem.F.plain_tuple_new _]
    have hsub := sub_tuple_self
    have hinit := init_tuple_lookup
    have hmh := madeHere_tuple
    have hTI : s.TypeIs (.ref D) "map" := ⟨_, (N _ (.head _)).1, rfl⟩
    wp_walk using wpAny_typeOf hTI, collect_map2 (A := A.in1.in1) hh F N ho hl h1 h2 h3 hf1 hf2
    intro v1 v2 h' tk hv1 hv2 F' N'
    show wpAny _ _ (Builtin.Tuple.tupleExact #[v1, v2] >>= fun v => ret v) _ _ _
    unfold Builtin.Tuple.tupleExact
    refine wpAny_bind (wpAny_newObj_type ?_ (by show 2 ≤ sizeLine; decide))
    exact wpAny_pure ⟨⟨_, Heap.get?_push_size _ rfl, rfl⟩, h v1 v2 _ _ tk hv1 hv2 (F'.push _) (N'.push F' _) fun p hp => Heap.lt_size (N' p hp).1⟩
  · exact ⟨h₁.1, PySem.F.args_object_init_2 obj _, object_init_meets PySem.F.called_tuple.init.lookup PySem.F.called_tuple.made (by decide) prog w A.in1 _ s₁ ⟨h₁.1, rfl, h₁.2⟩⟩
end
end Mine

namespace Mine
open LCg LCt
theorem turn_fspath {w : World} {loose : List Str} {mean : ExcName → Option Value} {mg mb : Str → Option Value} {dp un : Nat} {gd : Option (List Code)} {cn : Str} {cs : Scope} {a : Addr} {ccd : Value} {cl : List (Str × Addr)} {outer : List Env} {A₀ : Around} {base h₀ : Heap} {L : Addr} {m : Str → Option Value} {news : Lg} {x : Str} {t : Tok} (B : Below A₀ base outer h₀) (X : (Mine.top.heap_1 w.params).In h₀) (T : Top topProg loose mean mg mb h₀) (hk : cs.kind = .function) (hd : dp + 4 < recursionLimit) (hu : un + 4 + 8 * 4 + 64 < cLine) :
    Turns PySem.Challenge.rw_in0110_01.row.prog w (ktrTop dp un gd cn cs L a ccd cl outer).in1.in1.in1.in1 h₀ L m news (.ref 108) (.str x t) (fun v => ∃ tk, v = .str x tk) :=
  fun s Q E F N h => use_str (un := un + 4) (fn_fspath w) B F X N T hk (.cons (.str _ _) .nil) ⟨x, rfl, rfl⟩ hd hu fun t h' tk' F' N' => h _ _ _ ⟨_, rfl⟩ F' N'
section
variable {w : World} {c : Cx} {env : Env} {σ : Sg}
/-- a name of the globals -/
theorem eD_nameG {f : Str} {a : Addr} {pos : Pos} (ok : CxOk w c) (eo : EnvOk env) (hg : nsIn (Mine.top.heap_1 w.params) mainGlobals f = some (some (.ref a))) (hx : env.kindOf f = some .globalImplicit := by rfl) (hdb : (f == ("__debug__" : Str)) = false := by decide) : EvalD w c env σ (.Name f pos) (.raw (.ref a)) := fun fx m news t s Q E P k =>
  nameG_K P.F ok.X (topRead_of ok.T) hg (k.same' P (show VIn w news _ (.raw (.ref a)) from rfl)) eo.g eo.k hx hdb
theorem eD_tupmap {e : Expr} {np mp fp mpos pos : Pos} {x y : Str} (ok : CxOk w c) (eo : EnvOk env) (rm : Rm c 6) (h : EvalD w c env σ e (.d (.list [.str x, .str y]))) (hb : env.builtins = builtinsNs := by rfl) (hx1 : env.kindOf (Str.ofString "tuple") = some .globalImplicit := by rfl) (hx2 : env.kindOf (Str.ofString "map") = some .globalImplicit := by rfl) (hx3 : env.kindOf (Str.ofString "fspath") = some .globalImplicit := by rfl)
    (he : starEach [.Call (.Name (Str.ofString "map") mp) [.Name (Str.ofString "fspath") fp, e] [] mpos] env = (false, eval (.Call (.Name (Str.ofString "map") mp) [.Name (Str.ofString "fspath") fp, e] [] mpos) env) :: starEach [] env := by rfl) (he2 : starEach [.Name (Str.ofString "fspath") fp, e] env = (false, eval (.Name (Str.ofString "fspath") fp) env) :: starEach [e] env := by rfl) (he3 : starEach [e] env = (false, eval e env) :: starEach [] env := by rfl) (hpl : (backTo mpos (starEach [e] env)).any (·.1) = false := by rfl) :
    EvalD w c env σ (.Call (.Name (Str.ofString "tuple") np) [.Call (.Name (Str.ofString "map") mp) [.Name (Str.ofString "fspath") fp, e] [] mpos] [] pos) (.d (.tuple [.str x, .str y])) := fun fx m news t s Q E P k => by
  refine Call_ (nameG_B P.F ok (gB_tuple w) (v := .type "tuple") rfl (by decide) ?_ eo hb hx1 (by decide)) rfl
  refine PyProof.Rows.callWith_type1 (args_cons ?_ he) he rfl
  refine Call_ (nameG_B P.F ok (gB_map w) (v := .type "map") rfl (by decide) ?_ eo hb hx2 (by decide)) rfl
  refine PyProof.Rows.callWith_type1 ((aD_cons (eD_nameG ok eo (gF_fspath w) hx3) (aD_cons h aD_nil he3) he2) mpos _ _ _ _ _ _ _ ⟨P.F, P.N, P.tab, P.hi, P.rho⟩ fun us hA tkA tlA tA PA UA hvs => ?_) he2 hpl
  (first | refine Mine.all2 hvs fun _ _ h1 h2 => ?_ | refine Mine.dall2 hvs fun _ _ h1 h2 => ?_)
  have e1 := (show _ = _ from h1)
  subst e1
  refine Mine.inL (show DatIn _ _ _ from h2) fun _ _ _ hml hvl => ?_
  revert hml
  (first | refine Mine.all2 hvl fun _ _ u0z u1z => ?_ | refine Mine.dall2 hvl fun _ _ u0z u1z => ?_)
  (first | refine Mine.inI (show DatIn _ _ _ from u0z) fun _ => ?_ | refine Mine.inS (show DatIn _ _ _ from u0z) fun _ => ?_ | refine Mine.inB (show DatIn _ _ _ from u0z) ?_ | refine Mine.inN (show DatIn _ _ _ from u0z) ?_)
  (first | refine Mine.inI (show DatIn _ _ _ from u1z) fun _ => ?_ | refine Mine.inS (show DatIn _ _ _ from u1z) fun _ => ?_ | refine Mine.inB (show DatIn _ _ _ from u1z) ?_ | refine Mine.inN (show DatIn _ _ _ from u1z) ?_)
  intro hml
  refine map_call (s := { s with heap := hA, toks := tkA }) PA.F PA.N (PA.nnw _ hml).1 fun D h' F' N' lt => ?_
  refine args_nil ?_
  refine tuple_map2 (s := { s with heap := h', toks := tkA }) (P1 := fun v => ∃ tk, v = .str x tk) (P2 := fun v => ∃ tk, v = .str y tk) A_handled F' N' ⟨rfl, rfl⟩ ⟨_, memR _ (memR _ hml)⟩ (Nat.ne_of_gt (Nat.lt_add_of_pos_right (by decide))) (Nat.succ_ne_self _) (fun p hp => Nat.ne_of_lt (lt p hp)) (fun _ _ _ _ _ => turn_fspath ok.B ok.X ok.T ok.k (by have := rm.d; show c.dp + 4 < _; lia) (by have := rm.u; show c.un + 4 + 8 * 4 + 64 < _; lia)) (fun _ _ _ _ _ => turn_fspath ok.B ok.X ok.T ok.k (by have := rm.d; show c.dp + 4 < _; lia) (by have := rm.u; show c.un + 4 + 8 * 4 + 64 < _; lia)) ?_
  rintro _ _ T h9 tk9 ⟨t1, rfl⟩ ⟨t2, rfl⟩ F9 N9 l9
  obtain ⟨PC, UC⟩ := PA.one F9 N9 l9
  exact (k.after UA) _ h9 tk9 _ tA PC UC (.tuple (memR _ (.head _)) (.cons (.str _ _) (.cons (.str _ _) .nil)))
theorem trT {ds : List Dat} (hl : ds.length ≤ 1000000) : TruthD w c env σ (.d (.tuple ds)) (!ds.isEmpty) := fun fx m news t s Q E v P D k => by
  refine Mine.inT (show DatIn _ _ _ from D) fun _ _ _ hml hvl => ?_
  have hlen := hvl.length
  rename_i a vs n
  refine ktl_truthy (P.nnw _ hml).1 (by rw [List.size_toArray]; lia) ?_
  have e : (!vs.toArray.isEmpty) = !ds.isEmpty := by
    rw [List.isEmpty_toArray]
    cases vs <;> cases ds <;> simp at hlen ⊢
  rw [e]
  exact k.same P _
end
/-- the written tuple that a block goes over stands in the ledger -/
noncomputable def TupAt (ax : Addr) (its : Array Value) (news : Lg) : Prop := ∃ n, (ax, ({ cls := .type "tuple", data := .seq its n } : Obj)) ∈ news
/-- a name that is given a block's list: the block, with the name's store as its use -/
theorem exec_block {prog : Program} {w : World} {A : Around} {E : Value → Shared → Prop} {s : Shared} {env : Env} {y : Str} {py pos : Pos} {e : Expr} {run : Sem Value} {Q : Flow → Shared → Prop} (hsw : swapsWith e (some (.Name y py)) pos.line env = pure true) (he : evalThenUse e env (assign (.Name y py) env) = (do let _ ← run; pure ()))
    (h : wpAny (model prog w) A run (fun _ s' => Q .next s') E s) : wpAny (model prog w) A (exec (.Assign [.Name y py] e pos) env) Q E s := by
  rw [exec_Assign_Name_used _ _ _ _ hsw, he]
  exact wpAny_bind (wpAny_standAt (wpAny_bind (wpAny_bind (wpAny_mono h (fun _ _ q => wpAny_pure (wpAny_pure q)) fun _ _ q => q))))
section
variable {w : World} {c : Cx} {σ σc : Sg} {mu : Mu}
/-- a name is given a block's list, the block going over a tuple -/
theorem xD_assignCompTup {α : Type} {f g : α → Dat} {xs : List α} {elt iter : Expr} {x y : Str} {px py pos spos : Pos} {scope : Scope} {cl : List (Str × Addr)} (ok : CxOk w c) (K : CompOk c.env scope cl x) (hcap : Caps c.env scope cl σ σc) (hiter : EvalD w c c.env σ iter (.d (.tuple (xs.map f)))) (hl : xs.length ≤ 1000000)
    (hE : ∀ C a, a ∈ xs → EvalD w c (compEnvC scope cl C c.env) (upd σc x (.d (f a))) elt (.d (g a))) (hy : c.env.kindOf y = some .local := by rfl) (hmu : ∀ z ds, mu = some (z, ds) → z ≠ y := by intro _ _ h; cases h)
    (hd : (y == ("__debug__" : Str)) = false := by decide) (hd2 : (y == ("__classdict__" : Str)) = false := by decide) (hsw : swapsWith (.ListComp elt [⟨.Name x px, iter, [], 0⟩] scope pos) (some (.Name y py)) spos.line c.env = pure true := by rfl)
    (hs : ∀ x, foldedSetIterable iter c.env x = pure x := by intro _; rfl) : ExecD w c σ mu (.Assign [.Name y py] (.ListComp elt [⟨.Name x px, iter, [], 0⟩] scope pos) spos) (.next (upd σ y (.d (.list (xs.map g)))) mu) := fun ex n₀ tl s Q E I k => by
  obtain ⟨m, fx, t, I⟩ := I
  have P := I.pre ok
  refine exec_block hsw rfl (wpAny_comprehension_free (use := some (assign (.Name y py) c.env)) (Q := fun _ s' => Q .next s') rfl hs K.clos K.kind K.names (hiter.run P fun v1 h1 tk1 tl1 t1 P1 U1 hv1 => ?_))
  refine Mine.inT (show DatIn _ _ _ from hv1) fun ax vs nn hml hvl => ?_
  have hlen := hvl.length
  rw [List.length_map] at hlen
  have hmem := fun (l1 l2 : Lg) => memR (a := l1) _ (memR (a := l2) _ hml)
  have hax := (P1.N _ (hmem _ _)).1
  refine wpAny_pyIter_tuple (s := { s with heap := h1, toks := tk1 }) ⟨_, hax, rfl, nn, rfl⟩ ?_
  have grown : ∀ b o, h1.get? b = some o → (h1.push { cls := .type "tuple_iterator", data := .fields #[.ref ax, .int 0 0] }).get? b = some o := fun b o => Heap.get?_push_of_some _
  refine block_U (Fin := FinA c.h₀ c.L m { s with heap := h1.push { cls := .type "tuple_iterator", data := .fields #[.ref ax, .int 0 0] }, toks := tk1 } y (fun f s' => Q f s')) (S := TupAt ax vs.toArray) (P := fun i v => vs.toArray[i]? = some v) (Walks.tuple A_handled h1.objs.size ax (Nat.ne_of_lt (Heap.lt_size hax)) vs.toArray) (by rw [sizeLine_eq, List.size_toArray]; lia) (fun i h z => z.1.imp fun _ q => q.1)
    (fun i h h' o nw z e e' _ N S => ⟨z.1.at fun o' e2 => (Option.some.inj (e.symm.trans e2)) ▸ e', let ⟨n, hm⟩ := S; ⟨_, (N _ hm).1, rfl, n, rfl⟩⟩) K.cell K.kind K.hx ⟨⟨_, Heap.get?_push_size _ rfl, rfl, rfl⟩, ⟨_, grown _ _ hax, rfl, nn, rfl⟩⟩
    (List.forall_mem_cons.mpr ⟨?b1, List.forall_mem_cons.mpr ⟨?b2, fun _ h => (nomatch h)⟩⟩) (P1.F.keeps grown) (P1.N.grown grown) (Nat.ne_of_lt P1.F.ns.lt) (next_is_new P1.F) (fun p hp => Nat.ne_of_lt (Heap.lt_size (P1.N p hp).1)) ⟨nn, hmem _ _⟩ ?_ ?store
  case b1 => show _ < (h1.push _).objs.size; rw [Heap.size_push]; exact Nat.lt_succ_self _
  case b2 => show _ < (h1.push _).objs.size; rw [Heap.size_push]; exact Nat.lt_succ_of_lt (Heap.lt_size hax)
  case store =>
    intro D C h' tk m' ys news' F' N' o1 hn hC₀ hD₀ hCL hDL hCD offC fin
    obtain ⟨oC, eC, hoC⟩ := ns_obj hn
    show wpAny _ c.A (assign (.Name y py) c.env (.ref D)) _ _ _
    refine assign_Name (storeX_L F' (show News c.h₀ c.L h' ((C, oC) :: (D, lst ys) :: news') from List.forall_mem_cons.mpr ⟨⟨eC, hCL, hC₀⟩, N'⟩) (fun h₂ F₂ N₂ => ⟨m', hoC.ns (N₂ _ (.head _)).1, fun h'' hs'' => fin D h'' _ (F₂.change hs'' hCL hC₀) (fun p hp => ⟨hs''.extBut _ _ ?_ (N₂ p (.tail _ hp)).1, (N₂ p (.tail _ hp)).2⟩) o1⟩) ok.k hy)
    exact (List.forall_mem_cons.mpr ⟨Ne.symm hCD, offC⟩ : ∀ p ∈ (D, lst ys) :: news', p.1 ≠ C) p hp
  rw [List.size_toArray, hlen]
  have key := comp_core (w := w) (c := c) (g := g) (elt := elt) (s := { s with heap := h1.push { cls := .type "tuple_iterator", data := .fields #[.ref ax, .int 0 0] }, toks := tk1 }) (S := TupAt ax vs.toArray) (Pp := fun i v => vs.toArray[i]? = some v) (Fin := FinA c.h₀ c.L m { s with heap := h1.push { cls := .type "tuple_iterator", data := .fields #[.ref ax, .int 0 0] }, toks := tk1 } y (fun f s' => Q f s')) (f := fun a => Vl.d (f a)) P1.hi P1.rho hcap K.kind K.hx K.hd ?_ (fun tlk t' => ⟨nn, memR _ (memR _ (memL _ hml))⟩) hE ?fin xs 0 [] [] t1 (List.drop_zero ..) Up.nil (by rw [List.append_nil]; exact P1.tab) .nil
  · rw [List.append_nil] at key; exact key
  · intro i v a hp ha
    rw [List.getElem?_toArray] at hp
    obtain ⟨hi, e⟩ := List.getElem?_eq_some_iff.mp hp
    obtain ⟨v', hv', hD⟩ := hvl.get (k := i) (by rw [List.length_map, ← hlen]; exact hi)
    rw [hv'] at hp
    cases hp
    have : (xs.map f)[i]'(by rw [List.length_map, ← hlen]; exact hi) = f a := by
      rw [List.getElem_map]
      congr 1
      exact (List.getElem?_eq_some_iff.mp ha).2
    rw [this] at hD
    exact hD
  intro ys tlk t' U T D D' h tk F N off
  have I1 := I.after P1 U1
  obtain ⟨a1, a2, a3, a4⟩ := comp_end P1.hi F N off U T D
  have e : n₀ ++ tl ++ tl1 ++ (tlk ++ [(D', lst ys)]) = n₀ ++ (tl ++ (tl1 ++ (tlk ++ [(D', lst ys)]))) := by simp only [List.append_assoc]
  rw [e] at a1 a2 a4
  -- the state ahead of the store, at the new ledger
  have e3 : Up ((fx ++ ex) ++ (n₀ ++ (tl ++ tl1))) (tlk ++ [(D', lst ys)]) := by rw [← List.append_assoc n₀]; exact a3
  have I2 : InAt w c ex n₀ (tl ++ (tl1 ++ (tlk ++ [(D', lst ys)]))) (upd σ y (.d (.list (xs.map g)))) mu h (fun z => if z = y then some (.ref D') else m z) fx t' := by
    refine ⟨F, a1, a2, fun p hp => ?_, fun z q hq => ?_, fun q hq p hp => ?_, fun q hq p hp => ?_, I.dex, I.nd, I.cells, fun z ds hm => ?_⟩
    · rcases List.mem_append.mp hp with hp | hp
      · exact I1.hi p (memL p hp)
      · rw [← List.append_assoc, ← List.append_assoc, List.append_assoc n₀] at hp
        rcases List.mem_append.mp hp with hp | hp
        · exact I1.hi p (memR p hp)
        · exact e3.2 p hp
    · unfold upd at hq
      by_cases hzy : z = y
      · subst hzy
        rw [if_pos rfl] at hq
        cases hq
        exact ⟨hd, hd2, .ref D', a4, .inl ⟨hy, if_pos rfl⟩⟩
      · rw [if_neg hzy] at hq
        obtain ⟨h1, h2, v', hv', hs⟩ := I.rho z q hq
        refine ⟨h1, h2, v', hv'.mono (fun p hp => by exact Mine.viaSub hp (by walk_at "mSUB")), hs.imp (fun ⟨a, b⟩ => ⟨a, ?_⟩) id⟩
        show (if z = y then _ else _) = _
        rw [if_neg hzy]; exact b
    · rw [← List.append_assoc] at hp
      rcases List.mem_append.mp hp with hp | hp
      · exact I1.dis q hq p hp
      · refine e3.1 q ?_ p hp
        rcases List.mem_append.mp hq with hq | hq
        · exact memL q (memR q hq)
        · exact memR q (memL q hq)
    · rw [← List.append_assoc, ← List.append_assoc, List.append_assoc n₀] at hq
      rcases List.mem_append.mp hq with hq | hq
      · exact I1.dif q hq p hp
      · exact Ne.symm (e3.1 p (memL p (memL p hp)) q hq)
    · obtain ⟨a, vs, n, h1, h2, h3, h4⟩ := I.mutl z ds hm
      exact ⟨a, vs, n, h1, by rw [if_neg (hmu z ds hm)]; exact h2, h3, h4.mono memL⟩
  exact k .next h tk (tl1 ++ (tlk ++ [(D', lst ys)])) ⟨rfl, _, _, _, I2⟩
end
end Mine

namespace Mine
open LCg LCt
/-- the set of a block that gives True each time -/
noncomputable abbrev soE (led : Bool) : Obj := { cls := .type "set", dict := none, data := .set #[] 0 (.fresh 0 0 led) }
noncomputable abbrev soT (led : Bool) : Obj := { cls := .type "set", dict := none, data := .set #[(1, .bool true)] 1 ⟨7, #[1], #[], 0, led, 0, true⟩ }
theorem lay1 (led : Bool) : layNew (.fresh 0 0 led) #[] 1 (.bool true) = (#[(1, .bool true)], ⟨7, #[1], #[], 0, led, 0, true⟩, false, false) := by cases led <;> rfl
section
variable {prog : Program} {w : World} {A : Around} {E : Value → Shared → Prop} {s : Shared}
theorem pyHash_true {Q : Int → Shared → Prop} (h : Q 1 { s with toks := s.toks + 1 }) : wpAny (model prog w) A (pyHash (.bool true)) Q E s := by
  have hT : s.TypeIs (.bool true) "bool" := rfl
  unfold pyHash
  have hv : [Value.bool true].any Value.onHeap = false := rfl
  refine wpAny_bind ?_
  rw [cRoomFor, if_neg (by rw [hv]; exact Bool.false_ne_true)]; refine wpAny_pure ?_
  refine wpAny_bind (wpAny_specialOf hT F.slot_bool_hash.lookup ?_)
  show wpAny _ _ (if (some (Value.builtin "int.__hash__") == some Value.none) = true then _ else _) Q E s
  rw [if_neg (by rw [beq_builtin_none]; exact Bool.false_ne_true)]
  refine wpAny_bind (wpAny_specialOf hT F.slot_bool_hash.lookup ?_)
  show wpAny _ _ (callSpecialIfBoundUnlessNone? (.bool true) "__hash__" _ >>= _) Q E s
  refine wpAny_bind (wpAny_callSpecialIfBoundUnlessNone?_slot hT F.slot_bool_hash
    (wpAny_call_entry F.slot_bool_hash hT F.entry_int_hash
      (show wpAny _ _ (do ret (← mkInt 1)) _ _ s from wpAny_ret_mkInt ?_) (F.args_int_hash_1 _)))
  exact wpAny_pure h
noncomputable def trueKind (prog : Program) (w : World) : KeyKind prog w Unit where
  is := fun _ v => v == .bool true
  hash := fun _ => 1
  inj := fun _ _ _ _ _ => rfl
  byValue := fun k v h => by rw [eq_of_beq h]; rfl
  pyHash := fun hv h => by rw [eq_of_beq hv]; exact pyHash_true h
  eqBool := fun hu hv h => by
    rw [eq_of_beq hu, eq_of_beq hv]
    unfold eqBool
    refine wpAny_holding ?_
    show wpAny _ _ (if (Value.bool true == Value.bool true) = true then _ else _) _ _ _
    rw [if_pos (by rfl)]
    exact wpAny_bind (wpAny_rule (wpAny_pure (by simpa using h)))
  «strs» := fun k x t v h => by cases eq_of_beq h
theorem add_true1 {D : Addr} {led : Bool} {Q : Value → Shared → Prop} (ho : s.heap.get? D = some (soE led)) (h : ∀ h', Heap.SameBut D s.heap h' → h'.get? D = some (soT led) → Q .none { s with heap := h', toks := s.toks + 1 }) :
    wpAny (model prog w) A (call (.builtin "set.add") [.ref D, .bool true]) Q E s := by
  refine wpAny_call_entry F.slot_set_add (⟨_, ho, rfl⟩ : s.TypeIs (.ref D) "set") F.entry_set_add ?_ (F.args_set_add_2 _ _)
  unfold Builtin.«set.add» Builtin.Frozenset.oneOther
  simp only [List.isEmpty_nil, bind_assoc]
  unfold Builtin.Frozenset.addrOf setAdd
  refine wpAny_bind (wpAny_pure ?_)
  try dsimp only
  refine wpAny_bind (wpAny_pure ?_)
  try dsimp only
  refine wpAny_bind ?_
  refine wpAny_holding ?_
  refine wpAny_bind (pyHash_true ?_)
  unfold setAddHashed setAddHashedIn
  refine wpAny_holding (wpAny_bind (wpAny_setState_of (s := { s with toks := s.toks + 1 }) ho rfl (by rfl) ?_))
  dsimp only
  rw [byScan_of (knd := trueKind prog w) (x := .bool true) (es := #[]) (by rfl) (by decide) (fun e he => by simp at he)]
  simp only [↓reduceIte]
  unfold setAddByScan
  refine wpAny_bind ?_
  refine wpAny_bind (wpAny_rule ?_)
  refine wpAny_bind (wpAny_setScan_of (s := { s with toks := s.toks + 1 }) (knd := trueKind prog w) (k := ()) (x := .bool true) (es := #[]) (by rfl) ho rfl (by rfl) (fun e he => by simp at he) ?_)
  simp only [List.findIdx?_nil]
  rw [lay1]
  dsimp only
  refine wpAny_bind (wpAny_pure ?_)
  simp only [Bool.not_false, hashByValue]
  refine wpAny_bind (wpAny_pure ?_)
  simp only [↓reduceIte]
  refine wpAny_bind (wpAny_storeSet_of (s := { s with toks := s.toks + 1 }) ho rfl ?_ (by rw [sizeLine_eq]; decide))
  refine wpAny_pure (wpAny_pure ?_)
  exact wpAny_pure ⟨_, rfl, h _ (Heap.SameBut.update _ _ _) (by rw [Heap.get?_update_self _ ho (by rfl), putSet_of _ _ rfl])⟩
theorem add_true2 {D : Addr} {led : Bool} {Q : Value → Shared → Prop} (ho : s.heap.get? D = some (soT led)) (h : Q .none { s with toks := s.toks + 1 }) :
    wpAny (model prog w) A (call (.builtin "set.add") [.ref D, .bool true]) Q E s := by
  refine wpAny_call_entry F.slot_set_add (⟨_, ho, rfl⟩ : s.TypeIs (.ref D) "set") F.entry_set_add ?_ (F.args_set_add_2 _ _)
  unfold Builtin.«set.add» Builtin.Frozenset.oneOther
  simp only [List.isEmpty_nil, bind_assoc]
  unfold Builtin.Frozenset.addrOf setAdd
  refine wpAny_bind (wpAny_pure ?_)
  try dsimp only
  refine wpAny_bind (wpAny_pure ?_)
  try dsimp only
  refine wpAny_bind ?_
  refine wpAny_holding ?_
  refine wpAny_bind (pyHash_true ?_)
  unfold setAddHashed setAddHashedIn
  refine wpAny_holding (wpAny_bind (wpAny_setState_of (s := { s with toks := s.toks + 1 }) ho rfl (by rfl) ?_))
  dsimp only
  rw [byScan_of (knd := trueKind prog w) (x := .bool true) (es := #[(1, .bool true)]) (by rfl) (by decide) (fun e he => by simp at he; subst he; exact ⟨⟨(), rfl, rfl⟩, rfl⟩)]
  simp only [↓reduceIte]
  unfold setAddByScan
  refine wpAny_bind ?_
  refine wpAny_bind (wpAny_rule ?_)
  refine wpAny_bind (wpAny_setScan_of (s := { s with toks := s.toks + 1 }) (knd := trueKind prog w) (k := ()) (x := .bool true) (es := #[(1, .bool true)]) (by rfl) ho rfl (by rfl) (fun e he => by simp at he; subst he; exact ⟨⟨(), rfl, rfl⟩, rfl⟩) ?_)
  rw [show (#[((1 : Int), Value.bool true)].toList.findIdx? fun e => (trueKind prog w).is () e.2) = some 0 from rfl]
  dsimp only
  refine wpAny_pure (wpAny_pure ?_)
  exact wpAny_pure ⟨_, rfl, h⟩
theorem newSet_at {Q : Value → Shared → Prop} (h : Q (.ref s.heap.objs.size) { s with heap := s.heap.push (soE (!w.params.followText "set-order")) }) : wpAny (model prog w) A (newSet (.type "set")) Q E s := by
  unfold newSet setsByText
  refine wpAny_bind (wpAny_bind (wpAny_askSetting (wpAny_pure ?_)))
  dsimp only
  simp only [newObj]
  exact wpAny_bind (wpAny_alloc (wpAny_pure h))
end
end Mine

namespace Mine
open LCg LCt
theorem entry_set_iter : entryFor table "set.__iter__" = some Builtin.«frozenset.__iter__» :=
  entryFor_alias (id' := "frozenset.__iter__") (by kernel_rfl) rfl (by decide +kernel) (by kernel_rfl)
theorem slot_set_iterator_next : Slot "set_iterator" "__next__" "set_iterator.__next__" :=
  .of (owner := "set_iterator") (n := "__next__") (by rw [typeLookup_type, builtinLookup_eq_fast]; kernel_rfl) (by decide +kernel) (by decide +kernel) (by decide +kernel)
    (by first | exact .inl (by decide +kernel) | exact .inr (by decide +kernel)) (by rw [isSubtype_type]; kernel_rfl)
theorem entry_set_iterator_next : entryFor table "set_iterator.__next__" = some Builtin.«set_iterator.__next__» := entryFor_of_tree (by kernel_rfl)
theorem owner_set_iterator : Manifest.owners.lookup (String.ofList ['r', 'o', 't', 'a', 'r', 'e', 't', 'i', '_', 't', 'e', 's'].reverse) = some Manifest.sig_set_iterator := by kernel_rfl
theorem args_set_iterator_next_1 (a : Value) : argsOk "set_iterator.__next__" ⟨[a], []⟩ := by
  unfold argsOk; rw [signature?_of (id := "set_iterator.__next__") (n := ['_', '_', 't', 'x', 'e', 'n', '_', '_']) (o := ['r', 'o', 't', 'a', 'r', 'e', 't', 'i', '_', 't', 'e', 's']) (by kernel_rfl) owner_set_iterator]; kernel_rfl
noncomputable def SetIt (h : Heap) (I D : Addr) (slot i : Nat) : Prop := ∃ o, h.get? I = some o ∧ o.cls = .type "set_iterator" ∧ o.data = .fields #[.int slot 0, .int i 0, .ref D, .int 1 0, .int 1 0]
theorem pick1 {α : Type} (next : Nat → Nat) (x : α) : pickOrder next #[x] = #[x] := by
  show pickOrder.go next 1 0 [x] #[] = #[x]
  unfold pickOrder.go
  rw [show next 0 % [x].length = 0 from Nat.mod_one _]
  rfl
section
variable {prog : Program} {w : World} {A : Around} {E : Value → Shared → Prop} {s : Shared}
theorem pyIter_soT {D : Addr} {led : Bool} {Q : Value → Shared → Prop} (ho : s.heap.get? D = some (soT led)) (hQ : ∀ h', SetIt h' s.heap.objs.size D 0 0 → Heap.ExtBut s.heap.objs.size s.heap h' → Q (.ref s.heap.objs.size) { s with heap := h' }) :
    wpAny (model prog w) A (pyIter (.ref D)) Q E s := by
  have hT : s.TypeIs (.ref D) "set" := ⟨_, ho, rfl⟩
  refine wpAny_pyIter_slot hT F.slot_set_iter (wpAny_call_entry F.slot_set_iter hT entry_set_iter ?_ (F.args_set_iter_1 _))
  unfold Builtin.«frozenset.__iter__»
  refine wpAny_bind (wpAny_pure ?_)
  unfold Builtin.Frozenset.sizeOf setEntries
  refine wpAny_bind (wpAny_bind (wpAny_bind (wpAny_setState_of ho rfl (by rfl) (wpAny_pure (wpAny_pure ?_)))))
  unfold setDrawn setsByText
  refine wpAny_bind (wpAny_bind (wpAny_setState_of ho rfl (by rfl) ?_))
  dsimp only
  refine wpAny_bind (wpAny_bind (wpAny_askSetting (wpAny_pure (wpAny_pure ?_))))
  split
  · rename_i h
    rw [Bool.and_eq_true] at h
    exact absurd (show false = true from h.2) Bool.false_ne_true
  refine wpAny_bind (wpAny_pure ?_)
  refine wpAny_bind (wpAny_setEpoch_of ho rfl (by rfl) ?_)
  refine wpAny_bind (wpAny_newObj_type (wpAny_pure ⟨_, rfl, "set_iterator", _, ⟨_, Heap.get?_push_size _ rfl, rfl⟩, slot_set_iterator_next.lookup, ?_⟩))
  exact hQ _ ⟨_, Heap.get?_push_size _ rfl, rfl, rfl⟩ fun b o hb e => Heap.get?_push_of_some _ e
theorem setNext1 {D : Addr} {Q : Option (Value × Nat) → Shared → Prop} (ho : s.heap.get? D = some (soT (!w.params.followText "set-order"))) (hQ : ∀ k : Nat, (w.params.followText "set-order" = false → k = 2) → Q (some (.bool true, k)) s) :
    wpAny (model prog w) A (setNext D 0 0 1) Q E s := by
  unfold setNext setsByText setWalk setsByText
  refine wpAny_bind (wpAny_setState_of ho rfl (by rfl) ?_)
  dsimp only
  refine wpAny_bind (wpAny_bind (wpAny_askSetting (wpAny_pure ?_)))
  show wpAny _ _ (if w.params.followText "set-order" = true then _ else _) _ _ _
  cases hf : w.params.followText "set-order" with
  | true =>
    rw [if_pos rfl]
    rw [if_neg (by decide)]
    refine wpAny_bind (wpAny_bind (wpAny_setState_of ho rfl (by rfl) ?_))
    refine wpAny_bind (wpAny_bind (wpAny_askSetting (wpAny_pure ?_)))
    show wpAny _ _ (if w.params.followText "set-order" = true then _ else _) _ _ _
    rw [hf, if_pos rfl]
    refine wpAny_bind (wpAny_askSetting (wpAny_pure (wpAny_pure ?_)))
    dsimp only
    rw [pick1]
    exact hQ 0 (fun h => by rw [hf] at h; cases h)
  | false =>
    rw [if_neg Bool.false_ne_true]
    split
    · rename_i h
      exact absurd (show false = true from h) Bool.false_ne_true
    refine wpAny_bind (m := (pure () : Sem Unit)) (wpAny_pure ?_)
    exact wpAny_pure (hQ 2 fun _ => rfl)
theorem setNext2 {D : Addr} {k : Nat} {Q : Option (Value × Nat) → Shared → Prop} (ho : s.heap.get? D = some (soT (!w.params.followText "set-order"))) (hk : w.params.followText "set-order" = false → k = 2) (hQ : Q none s) :
    wpAny (model prog w) A (setNext D k 1 1) Q E s := by
  unfold setNext setsByText setWalk setsByText
  refine wpAny_bind (wpAny_setState_of ho rfl (by rfl) ?_)
  dsimp only
  refine wpAny_bind (wpAny_bind (wpAny_askSetting (wpAny_pure ?_)))
  show wpAny _ _ (if w.params.followText "set-order" = true then _ else _) _ _ _
  cases hf : w.params.followText "set-order" with
  | true =>
    rw [if_pos rfl]
    rw [if_neg (by decide)]
    refine wpAny_bind (wpAny_bind (wpAny_setState_of ho rfl (by rfl) ?_))
    refine wpAny_bind (wpAny_bind (wpAny_askSetting (wpAny_pure ?_)))
    show wpAny _ _ (if w.params.followText "set-order" = true then _ else _) _ _ _
    rw [hf, if_pos rfl]
    refine wpAny_bind (wpAny_askSetting (wpAny_pure (wpAny_pure ?_)))
    dsimp only
    rw [pick1]
    exact hQ
  | false =>
    obtain rfl := hk hf
    rw [if_neg Bool.false_ne_true]
    split
    · rename_i h
      exact absurd (show false = true from h) Bool.false_ne_true
    refine wpAny_bind (m := (pure () : Sem Unit)) (wpAny_pure ?_)
    exact wpAny_pure hQ
theorem next_soT1 {I D : Addr} {Q : Option Value → Shared → Prop} (hit : SetIt s.heap I D 0 0) (hne : D ≠ I) (ho : s.heap.get? D = some (soT (!w.params.followText "set-order"))) (hQ : ∀ h' k, SetIt h' I D k 1 → (w.params.followText "set-order" = false → k = 2) → Heap.SameBut I s.heap h' → Q (some (.bool true)) { s with heap := h' }) :
    wpAny (model prog w) A (pyNext (.ref I)) Q E s := by
  obtain ⟨oi, hi, hc, hd⟩ := id hit
  have hT : s.TypeIs (.ref I) "set_iterator" := ⟨_, hi, hc⟩
  unfold pyNext
  refine wpAny_bind (wpAny_attempt (wpAny_callSpecial?_slot (name := Str.ofString "__next__") hT slot_set_iterator_next
    (wpAny_call_entry slot_set_iterator_next hT entry_set_iterator_next ?_ (args_set_iterator_next_1 _))))
  unfold Builtin.«set_iterator.__next__»
  refine wpAny_bind (wpAny_pure ?_)
  refine wpAny_bind (wpAny_fieldsOf hi hd ?_)
  dsimp only
  unfold setEntries
  refine wpAny_bind (wpAny_bind (wpAny_setState_of ho rfl (by rfl) (wpAny_pure ?_)))
  dsimp only
  rw [if_neg (by decide)]
  refine wpAny_bind (setNext1 ho fun k hk => ?_)
  dsimp only
  refine wpAny_bind (wpAny_setField hi hd (by simp) ?_)
  have e1 : (s.heap.update I (Obj.mapFields (·.setIfInBounds 0 (rawInt k)))).get? I = some (Obj.mapFields (·.setIfInBounds 0 (rawInt k)) oi) := Heap.get?_update_self _ hi (Obj.isFreed_of_fields (Obj.data_mapFields hd _))
  have hd1 := Obj.data_mapFields hd (fun vs => vs.setIfInBounds 0 (rawInt k))
  refine wpAny_bind (wpAny_setField (s := { s with heap := s.heap.update I (Obj.mapFields (·.setIfInBounds 0 (rawInt k))) }) e1 hd1 (by simp) (wpAny_pure ⟨_, rfl, wpAny_pure (hQ _ k ?_ hk ((Heap.SameBut.update ..).trans (Heap.SameBut.update ..)))⟩))
  exact ⟨_, Heap.get?_update_self _ e1 (Obj.isFreed_of_fields (Obj.data_mapFields hd1 _)), (Obj.cls_mapFields ..).trans ((Obj.cls_mapFields ..).trans hc), by
    rw [Obj.data_mapFields hd1]; simp [rawInt]⟩
theorem next_soT2 {I D : Addr} {k : Nat} {Q : Option Value → Shared → Prop} (hh : A.handled = none) (hit : SetIt s.heap I D k 1) (ho : s.heap.get? D = some (soT (!w.params.followText "set-order"))) (hk : w.params.followText "set-order" = false → k = 2) (hQ : ∀ h', Heap.ExtBut I s.heap h' → Q none { s with heap := h' }) :
    wpAny (model prog w) A (pyNext (.ref I)) Q E s := by
  obtain ⟨oi, hi, hc, hd⟩ := id hit
  have hT : s.TypeIs (.ref I) "set_iterator" := ⟨_, hi, hc⟩
  unfold pyNext
  refine wpAny_bind (wpAny_attempt (wpAny_callSpecial?_slot (name := Str.ofString "__next__") hT slot_set_iterator_next
    (wpAny_call_entry slot_set_iterator_next hT entry_set_iterator_next ?_ (args_set_iterator_next_1 _))))
  unfold Builtin.«set_iterator.__next__»
  refine wpAny_bind (wpAny_pure ?_)
  refine wpAny_bind (wpAny_fieldsOf hi hd ?_)
  dsimp only
  unfold setEntries
  refine wpAny_bind (wpAny_bind (wpAny_setState_of ho rfl (by rfl) (wpAny_pure ?_)))
  dsimp only
  rw [if_neg (by decide)]
  refine wpAny_bind (setNext2 (k := ((k : Int)).toNat) ho (fun h => hk h) ?_)
  dsimp only
  refine wpAny_bind (wpAny_setField hi hd (by simp) ?_)
  show wpAny _ _ (newExc (.type "StopIteration") [] >>= _) _ _ _
  refine wpAny_bind ?_
  simp only [newExc, newTuple]
  refine wpAny_bind (wpAny_newObj_type ?_ (by size_fits))
  refine wpAny_bind (m := firstArgMember _ _) (wpAny_of_eq (a := Value.none) (by first | rfl | (simp only [firstArgMember]; rfl)) ?_)
  refine wpAny_newObj_type ?_ (by size_fits)
  simp only [raiseNew]
  refine wpAny_bind (wpAny_handled ?_)
  first | rw [show A.in1.handled = none from hh] | rw [hh]
  refine wpAny_bind (wpAny_pure (wpAny_throw ?_))
  refine wpAny_bind (wpAny_isInstance (T := "StopIteration") (b := true) ⟨_, Heap.get?_push_size _ rfl, rfl⟩ isSubtype_stop ?_)
  exact wpAny_pure (hQ _ (((Heap.SameBut.update ..).extBut.push _).push _))
theorem unpack_soT {D : Addr} {Q : List Value → Shared → Prop} (hh : A.handled = none) (ho : s.heap.get? D = some (soT (!w.params.followText "set-order"))) (hQ : ∀ h', Heap.ExtBut s.heap.objs.size s.heap h' → Q [.bool true] { s with heap := h' }) :
    wpAny (model prog w) A (unpackItems (.ref D) 1 none) Q E s := by
  have hlt : D ≠ s.heap.objs.size := Nat.ne_of_lt (Heap.lt_size ho)
  have hT : s.TypeIs (.ref D) "set" := ⟨_, ho, rfl⟩
  unfold unpackItems
  refine wpAny_bind ?_
  unfold notIterableAtAll
  refine wpAny_bind (wpAny_specialOf hT F.slot_set_iter.lookup ?_)
  refine wpAny_pure ?_
  simp only [Bool.false_eq_true, if_false]
  refine wpAny_bind (wpAny_holding (pyIter_soT ho fun h1 hit hs1 => ?_))
  have ho1 := hs1 _ _ hlt ho
  refine wpAny_bind (wpAny_holding ?_)
  show wpAny _ _ (pyNext (.ref s.heap.objs.size) >>= _) _ _ _
  refine wpAny_bind (next_soT1 (s := { s with heap := h1 }) hit hlt ho1 fun h2 k hit2 hk hs2 => ?_)
  refine wpAny_bind (wpAny_holding (wpAny_pure (wpAny_pure ?_)))
  rw [if_neg (by simp)]
  refine wpAny_bind (wpAny_holding (next_soT2 (s := { s with heap := h2 }) hh hit2 (hs2.extBut _ _ hlt ho1) hk fun h3 hs3 => ?_))
  simp only [Option.isSome_none, Bool.false_eq_true, if_false]
  exact wpAny_pure (hQ h3 fun b o hb e => hs3 b o hb (hs2.extBut b o hb (hs1 b o hb e)))
end
end Mine

namespace Mine
open LCg LCt
/-- the set of a block after so many turns -/
noncomputable abbrev soN (led : Bool) : Nat → Obj
  | 0 => soE led
  | _ + 1 => soT led
theorem off1_of {D : Addr} : ∀ {l : Lg}, (∀ p ∈ l, neq p.1 D) → Off1 D l
  | [], _ => trivial
  | _ :: _, h => ⟨h _ (.head _), off1_of fun p hp => h p (.tail _ hp)⟩
theorem eval_SetComp1 (elt iter : Expr) (x : Str) (px : Pos) (scope : Scope) (pos : Pos) (env : Env) : eval (.SetComp elt [⟨.Name x px, iter, [], 0⟩] scope pos) env = comprehension (.SetComp elt [⟨.Name x px, iter, [], 0⟩] scope pos) scope env (firstIterPos [⟨.Name x px, iter, [], 0⟩] pos) (newSet (.type "set")) false (eval iter env) := by
  rw [arm_eval_SetComp]; rfl
section
variable {prog : Program} {w : World} {A : Around} {E : Value → Shared → Prop} {s : Shared} {R : Result → Shared → Prop}
theorem set_start {elt target iter : Expr} {scope : Scope} {pos : Pos} {it acc : Value} {env : Env}
    (h : codeAny (model prog w) A (.compLoop (.SetComp elt [⟨target, iter, [], 0⟩] scope pos) 0 it acc env) R s)
    (hi : wpAny (model prog w) A (pyIter it) (fun it' s' => codeAny (model prog w) A (.compLoop (.SetComp elt [⟨target, iter, [], 0⟩] scope pos) 0 it' acc env) R s') (notedBy (model prog w) A env fun x s' => R (.error x) s') s) :
    codeAny (model prog w) A (.compStart (.SetComp elt [⟨target, iter, [], 0⟩] scope pos) 0 it acc env) R s := by
  refine codeAny_of_tree ?_
  refine wpAny_notedAt (m := compStart (.SetComp elt [⟨target, iter, [], 0⟩] scope pos) 0 it acc env) ?_
  have e : compStart (.SetComp elt [⟨target, iter, [], 0⟩] scope pos) 0 it acc env = (do
      let st ← ask
      if st.params.followText "comprehension-iter-twice" = true then again (.compLoop (.SetComp elt [⟨target, iter, [], 0⟩] scope pos) 0 it acc env)
      else do
        rule "comprehension.iter-twice"
        standAt iter.pos
        let it' ← pyIter it
        again (.compLoop (.SetComp elt [⟨target, iter, [], 0⟩] scope pos) 0 it' acc env)) := by rfl
  rw [e]
  refine wpAny_bind (wpAny_askSetting ?_)
  split
  · exact wpAny_pure ⟨rfl, h⟩
  · exact wpAny_bind (wpAny_rule (wpAny_bind (wpAny_standAt (wpAny_bind (wpAny_mono hi (fun _ _ q => wpAny_pure ⟨rfl, q⟩) fun _ _ q => q)))))
theorem set_turn {elt target iter : Expr} {scope : Scope} {pos : Pos} {it acc : Value} {env : Env} : compTurn (.SetComp elt [⟨target, iter, [], 0⟩] scope pos) 0 it acc env = (do
      standAt iter.pos
      match ← pyNext it with
      | none => pure (.done .next)
      | some v => do
        letOwnedTupleGo target it v
        assign target env v
        (do let u ← eval elt env; standAt elt.pos; let _ ← call (.builtin "set.add") [acc, u]; pure ())
        again (.compLoop (.SetComp elt [⟨target, iter, [], 0⟩] scope pos) 0 it acc env)) := by rfl
/-- the loop of a block of a set, by what stands between two turns -/
theorem set_loop {elt target iter : Expr} {scope : Scope} {pos : Pos} {it acc : Value} {env : Env} (I : Nat → Shared → Prop)
    (turn : ∀ n s, I n s → wpAny (model prog w) A (pyNext it) (fun r s₁ => match r with
      | none => R (.ok .next) s₁
      | some v => wpAny (model prog w) A (assign target env v) (fun _ s₂ => wpAny (model prog w) A (eval elt env) (fun u s₃ => wpAny (model prog w) A (call (.builtin "set.add") [acc, u]) (fun _ s₄ => ∃ m, m < n ∧ I m s₄)
          (notedBy (model prog w) A env fun e s' => R (.error e) s') s₃) (notedBy (model prog w) A env fun e s' => R (.error e) s') s₂) (notedBy (model prog w) A env fun e s' => R (.error e) s') s₁) (notedBy (model prog w) A env fun e s' => R (.error e) s') s)
    (n : Nat) (h : I n s) (hgo : ∀ v, letOwnedTupleGo target it v = pure () := by intro _; rfl) : codeAny (model prog w) A (.compLoop (.SetComp elt [⟨target, iter, [], 0⟩] scope pos) 0 it acc env) R s := by
  refine codeAny_loop rfl I (fun n s hI => ?_) n h
  refine wpAny_noted (m := compTurn (.SetComp elt [⟨target, iter, [], 0⟩] scope pos) 0 it acc env) ?_
  rw [set_turn]
  refine wpAny_bind (wpAny_standAt (wpAny_bind (wpAny_mono (turn n s hI) (fun r s₁ h₁ => ?_) fun _ _ q => q)))
  cases r with
  | none => exact wpAny_pure h₁
  | some v =>
    refine wpAny_bind (wpAny_of_eq (hgo v) (wpAny_bind (wpAny_mono h₁ (fun _ s₂ h₂ => ?_) fun _ _ q => q)))
    refine wpAny_bind (wpAny_bind (wpAny_mono h₂ (fun u s₃ h₃ => wpAny_bind (wpAny_standAt (wpAny_bind (wpAny_mono h₃ (fun _ s₄ h₄ => ?_) fun _ _ q => q)))) fun _ _ q => q))
    exact wpAny_pure (wpAny_pure ⟨rfl, h₄⟩)
theorem add_soN {D : Addr} {led : Bool} {i : Nat} {Q : Value → Shared → Prop} (ho : s.heap.get? D = some (soN led i)) (h : ∀ h' tk, Heap.SameBut D s.heap h' → h'.get? D = some (soN led (i + 1)) → Q .none { s with heap := h', toks := tk }) :
    wpAny (model prog w) A (call (.builtin "set.add") [.ref D, .bool true]) Q E s := by
  cases i with
  | zero => exact add_true1 ho fun h' sb e => h h' _ sb e
  | succ i => exact add_true2 ho (h _ _ (Heap.SameBut.refl _ _) ho)
end
section
variable {w : World} {c : Cx} {env : Env} {σ σc : Sg} {d : Vl} {fx news : Lg} {m : Str → Option Value} {t : Tb}
/-- what stands between two turns of a block over a tuple that makes a set -/
structure TurnS (w : World) (c : Cx) (fx : Lg) (m : Str → Option Value) (news : Lg) (I C D ax : Addr) (vs : List Value) (led : Bool) (i : Nat) (h : Heap) (tlk : Lg) (t' : Tb) : Prop where
  F : Fr c.h₀ c.L h m
  N : News c.h₀ c.L h (tabL t' ++ (fx ++ (news ++ tlk)))
  tab : TabOk (news ++ tlk) t'
  up : Up (fx ++ news) tlk
  it : h.IsTupleIter I ax i
  ns : ∃ m', h.Ns C m'
  acc : h.get? D = some (soN led i)
  off : ∀ p ∈ tabL t' ++ (fx ++ (news ++ tlk)), neq p.1 I ∧ neq p.1 C ∧ neq p.1 D
structure ThreeOk (c : Cx) (I C D : Addr) : Prop where
  ic : neq I C
  id : neq I D
  cd : neq C D
  n : ∀ a, a = I ∨ a = C ∨ a = D → c.h₀.get? a = none ∧ neq a c.L ∧ neq a 219 ∧ neq a 226
theorem turnS {scope : Scope} {cl : List (Str × Addr)} {I C D ax : Addr} {vs : List Value} {nn i : Nat} {led : Bool} {h : Heap} {tlk : Lg} {t' : Tb} {s : Shared} {tk : Nat} {elt : Expr} {x : Str} {px : Pos} {E : Value → Shared → Prop} {Q : Shared → Prop} {a : Dat}
    (hi : Hi (fx ++ news)) (rho : RhoIn w c env fx m news σ) (hcap : Caps env scope cl σ σc) (hkind : scope.kind = .function) (hx : scope.names.lookup x = some .local) (hd : (x == ("__debug__" : Str)) = false)
    (ad : ThreeOk c I C D) (ho : ∃ o, (ax, o) ∈ news ∧ o.cls = .type "tuple" ∧ o.data = .seq vs.toArray nn) (hlt : i < vs.length) (hv : DatIn news (vs[i]'hlt) a) (T : TurnS w c fx m news I C D ax vs led i h tlk t')
    (hE : EvalD w c (compEnvC scope cl C env) (upd σc x (.d a)) elt (.d (.bool true)))
    (k : ∀ h' tk' tlk' t'', TurnS w c fx m news I C D ax vs led (i + 1) h' tlk' t'' → Q { s with heap := h', toks := tk' }) :
    wpAny (theM w) c.A (pyNext (.ref I)) (fun r s₁ => match r with
      | none => False
      | some v => wpAny (theM w) c.A (assign (.Name x px) (compEnvC scope cl C env) v) (fun _ s₂ => wpAny (theM w) c.A (eval elt (compEnvC scope cl C env)) (fun y s₄ =>
          wpAny (theM w) c.A (call (.builtin "set.add") [.ref D, y]) (fun _ s₅ => Q s₅) E s₄) E s₂) E s₁) E { s with heap := h, toks := tk } := by
  obtain ⟨o, hm, hoc, hod⟩ := ho
  have hold : ∀ h' : Heap, (h'.get? ax = some o) → h'.IsTuple ax vs.toArray := fun h' e => ⟨o, e, hoc, nn, hod⟩
  have hax := T.N (ax, o) (memR _ (memR _ (memL _ hm)))
  refine wpAny_pyNext_tuple_item (s := { s with heap := h, toks := tk }) T.it (hold h hax.1) (x := vs[i]) (by simp [hlt]) fun h₂ hit2 hsI => ?_
  obtain ⟨nI1, nI2, nI3, nI4⟩ := ad.n I (.inl rfl)
  obtain ⟨nC1, nC2, nC3, nC4⟩ := ad.n C (.inr (.inl rfl))
  obtain ⟨nD1, nD2, nD3, nD4⟩ := ad.n D (.inr (.inr rfl))
  obtain ⟨m', hns⟩ := T.ns
  have hns2 : h₂.Ns C m' := let ⟨o, es, ep, e, r⟩ := hns; ⟨o, es, ep, hsI.extBut _ _ (Ne.symm ad.ic) e, r⟩
  have hxl : (compEnvC scope cl C env).kindOf x = some .local := lookup_relabel_local hx
  refine wpAny_assign_Name (wpAny_storeName_local hxl hns2 (fun h₃ hn3 hsb => ?_) (by show (scope.kind == .class || (scope.kind == .module && _)) = false; rw [hkind]; rfl))
  have at3 : ∀ b o, neq b I → neq b C → h.get? b = some o → h₃.get? b = some o := fun b o h1 h2 e => hsb.extBut b o h2 (hsI.extBut b o h1 e)
  have F3 : Fr c.h₀ c.L h₃ m := (T.F.change hsI nI2 nI1).change hsb nC2 nC1
  obtain ⟨oI, eI, hIt⟩ : ∃ oI, h₃.get? I = some oI ∧ ∀ h' : Heap, h'.get? I = some oI → h'.IsTupleIter I ax (i + 1) := by
    obtain ⟨oI, e, r⟩ := hit2
    exact ⟨oI, hsb.extBut _ _ ad.ic e, fun h' e' => ⟨oI, e', r⟩⟩
  obtain ⟨oC, eC, hoC⟩ := ns_obj hn3
  have eD := at3 _ _ (Ne.symm ad.id) (Ne.symm ad.cd) T.acc
  have P : Pre w c (compEnvC scope cl C env) (fx ++ [(I, oI), (C, oC), (D, soN led i)]) m (news ++ tlk) t' (upd σc x (.d a)) h₃ := by
    refine ⟨F3, fun p hp => ?_, T.tab, fun p hp => ?_, rho_comp (h := h₃) (v := vs[i]) rho hcap hkind hx hd (hv.mono memL) hoC (if_pos rfl) (memR _ (.tail _ (.head _))) memL memL⟩
    · have old : p ∈ tabL t' ++ (fx ++ (news ++ tlk)) → h₃.get? p.1 = some p.2 ∧ neq p.1 c.L ∧ c.h₀.get? p.1 = none := fun hp => ⟨at3 _ _ (T.off p hp).1 (T.off p hp).2.1 (T.N p hp).1, (T.N p hp).2⟩
      rcases List.mem_append.mp hp with hp | hp
      · exact old (memL p hp)
      · rcases List.mem_append.mp hp with hp | hp
        · rcases List.mem_append.mp hp with hp | hp
          · exact old (memR p (memL p hp))
          · simp only [List.mem_cons, List.not_mem_nil, or_false] at hp
            rcases hp with rfl | rfl | rfl
            · exact ⟨eI, nI2, nI1⟩
            · exact ⟨eC, nC2, nC1⟩
            · exact ⟨eD, nD2, nD1⟩
        · exact old (memR p (memR p hp))
    · rcases List.mem_append.mp hp with hp | hp
      · rcases List.mem_append.mp hp with hp | hp
        · exact hi p (memL p hp)
        · simp only [List.mem_cons, List.not_mem_nil, or_false] at hp
          rcases hp with rfl | rfl | rfl
          · exact ⟨nI3, nI4⟩
          · exact ⟨nC3, nC4⟩
          · exact ⟨nD3, nD4⟩
      · rcases List.mem_append.mp hp with hp | hp
        · exact hi p (memR p hp)
        · exact T.up.2 p hp
  refine hE _ _ _ _ _ _ _ P fun y h₄ tk₄ tl t'' P'' U'' hv' => ?_
  (first | refine Mine.inI (show DatIn _ _ _ from hv') fun _ => ?_ | refine Mine.inS (show DatIn _ _ _ from hv') fun _ => ?_ | refine Mine.inB (show DatIn _ _ _ from hv') ?_ | refine Mine.inN (show DatIn _ _ _ from hv') ?_)
  have z := fun q hq => (P''.N q (memR q (memL q (memR q hq)))).1
  have zI : h₄.get? I = some oI := z (I, oI) (.head _)
  have zC : h₄.get? C = some oC := z (C, oC) (.tail _ (.head _))
  have zD : h₄.get? D = some (soN led i) := z (D, soN led i) (.tail _ (.tail _ (.head _)))
  have off' : ∀ p ∈ tabL t'' ++ (fx ++ (news ++ (tlk ++ tl))), neq p.1 I ∧ neq p.1 C ∧ neq p.1 D := fun p hp => by
    have new : p ∈ tl → neq p.1 I ∧ neq p.1 C ∧ neq p.1 D := fun hp =>
      ⟨Ne.symm (U''.1 (I, oI) (memL _ (memR _ (.head _))) p hp), Ne.symm (U''.1 (C, oC) (memL _ (memR _ (.tail _ (.head _)))) p hp), Ne.symm (U''.1 (D, soN led i) (memL _ (memR _ (.tail _ (.tail _ (.head _))))) p hp)⟩
    rcases List.mem_append.mp hp with hp | hp
    · rcases List.mem_cons.mp hp with rfl | hp
      · exact ⟨Ne.symm nI3, Ne.symm nC3, Ne.symm nD3⟩
      · rw [List.mem_singleton.mp hp]; exact ⟨Ne.symm nI4, Ne.symm nC4, Ne.symm nD4⟩
    · rcases List.mem_append.mp hp with hp | hp
      · exact T.off p (memR p (memL p hp))
      · rcases List.mem_append.mp hp with hp | hp
        · exact T.off p (memR p (memR p (memL p hp)))
        · rcases List.mem_append.mp hp with hp | hp
          · exact T.off p (memR p (memR p (memR p hp)))
          · exact new hp
  refine add_soN (s := { s with heap := h₄, toks := tk₄ }) zD fun h₅ tk₅ hs₅ hD₅ => ?_
  refine k h₅ tk₅ (tlk ++ tl) t'' ⟨P''.F.change hs₅ nD2 nD1, fun p hp => ?_, by rw [← List.append_assoc]; exact P''.tab, T.up.cat (U''.sub fun p hp => ?_), hIt h₅ (hs₅.extBut _ _ ad.id zI), ⟨_, hoC.ns (hs₅.extBut _ _ ad.cd zC)⟩, hD₅, off'⟩
  · have q : p ∈ tabL t'' ++ ((fx ++ [(I, oI), (C, oC), (D, soN led i)]) ++ (news ++ tlk ++ tl)) := by
      exact Mine.viaSub hp (by walk_at "mSUB")
    exact ⟨hs₅.extBut _ _ (off' p hp).2.2 (P''.N p q).1, (P''.N p q).2⟩
  · rcases List.mem_append.mp hp with hp | hp
    · exact memL p (memL p hp)
    · exact memR p (memL p hp)
end
end Mine

namespace Mine
open LCg LCt
section
variable {w : World} {c : Cx} {σ σc : Sg} {mu : Mu}
/-- a name is given the one item of a set of Trues -/
theorem xD_unpackSet {xs : List Dat} {elt iter : Expr} {x y : Str} {px py tp pos spos : Pos} {kk : Nat} {scope : Scope} {cl : List (Str × Addr)} (ok : CxOk w c) (K : CompOk c.env scope cl x) (hcap : Caps c.env scope cl σ σc) (hiter : EvalD w c c.env σ iter (.d (.tuple xs))) (hl : xs.length ≤ 1000000) (hne : xs ≠ [])
    (hE : ∀ C a, a ∈ xs → EvalD w c (compEnvC scope cl C c.env) (upd σc x (.d a)) elt (.d (.bool true))) (hy : c.env.kindOf y = some .local := by rfl) (hmu : mu = none := by rfl)
    (hd : (y == ("__debug__" : Str)) = false := by decide) (hd2 : (y == ("__classdict__" : Str)) = false := by decide)
    (hs : ∀ x, foldedSetIterable iter c.env x = pure x := by intro _; rfl)
    (hsw : swapsWithSole [.Tuple [.Name y py] kk tp] (.SetComp elt [⟨.Name x px, iter, [], 0⟩] scope pos) spos.line c.env = pure false := by rfl) (hw : swappedStores [.Tuple [.Name y py] kk tp] (.SetComp elt [⟨.Name x px, iter, [], 0⟩] scope pos) c.env = pure none := by rfl) :
    ExecD w c σ mu (.Assign [.Tuple [.Name y py] kk tp] (.SetComp elt [⟨.Name x px, iter, [], 0⟩] scope pos) spos) (.next (upd σ y (.d (.bool true))) mu) := fun ex n₀ tl s Q E I k => by
  obtain ⟨m, fx, t, I⟩ := I
  subst hmu
  have P := I.pre ok
  refine Assign_Tuple ?_ hsw hw
  rw [eval_SetComp1]
  refine wpAny_comprehension_free (use := none) rfl hs K.clos K.kind K.names (hiter.run P fun v1 h1 tk1 tl1 t1 P1 U1 hv1 => ?_)
  refine Mine.inT (show DatIn _ _ _ from hv1) fun _ _ _ hml hvl => ?_
  rename_i ax vs nn
  have hlen := hvl.length
  obtain ⟨o, ho, hoc, hod⟩ : ∃ o, (ax, o) ∈ n₀ ++ tl ++ tl1 ∧ o.cls = .type "tuple" ∧ o.data = .seq vs.toArray nn := ⟨_, hml, rfl, rfl⟩
  have hax := P1.N (ax, o) (memR _ (memR _ ho))
  have hlt := Heap.lt_size hax.1
  refine wpAny_pyIter_tuple (s := { s with heap := h1, toks := tk1 }) ⟨o, hax.1, hoc, nn, hod⟩ ?_
  refine newSet_at (wpAny_newFunctionEnv K.cell (by intro y hy; simp at hy) (fun hE1 hns hsb => ?_) K.kind)
  dsimp only at hns hsb ⊢
  simp only [Heap.size_push] at hns hsb ⊢
  -- the four new objects
  have upH : ∀ b o, h1.get? b = some o → hE1.get? b = some o := fun b o e => hsb.extBut b o (Nat.ne_of_lt (Nat.lt_succ_of_lt (Nat.lt_succ_of_lt (Heap.lt_size e)))) (Heap.get?_push_of_some _ (Heap.get?_push_of_some _ (Heap.get?_push_of_some _ e)))
  have eI : hE1.IsTupleIter h1.objs.size ax 0 := ⟨_, hsb.extBut _ _ (Nat.ne_of_lt (Nat.lt_succ_of_lt (Nat.lt_succ_self _))) (Heap.get?_push_of_some _ (Heap.get?_push_of_some _ (Heap.get?_push_size _ rfl))), rfl, rfl⟩
  have eD : hE1.get? (h1.objs.size + 1) = some (soN (!w.params.followText "set-order") 0) := by
    refine hsb.extBut _ _ (Nat.ne_of_lt (Nat.lt_succ_self _)) (Heap.get?_push_of_some _ ?_)
    rw [← Heap.size_push h1 { cls := .type "tuple_iterator", data := .fields #[.ref ax, .int 0 0] }]
    exact Heap.get?_push_size _ rfl
  have fresh : ∀ a, h1.objs.size ≤ a → c.h₀.get? a = none ∧ neq a c.L ∧ neq a 219 ∧ neq a 226 := fun a ha => by
    refine ⟨?_, Nat.ne_of_gt (Nat.lt_of_lt_of_le P1.F.ns.lt ha), Nat.ne_of_gt (Nat.lt_of_lt_of_le (P1.lt (219, tabObj t1.1) (memL _ (.head _))) ha), Nat.ne_of_gt (Nat.lt_of_lt_of_le (P1.lt (226, tabObj t1.2) (memL _ (.tail _ (.head _)))) ha)⟩
    cases e : c.h₀.get? a with
    | none => rfl
    | some o' => exact absurd (Heap.lt_size (P1.F.keep a o' e)) (Nat.not_lt.mpr ha)
  have ad : ThreeOk c h1.objs.size (h1.objs.size + 1 + 1) (h1.objs.size + 1) := by
    refine ⟨?_, ?_, ?_, fun a ha => fresh a ?_⟩
    · show ¬ (_ = _); lia
    · show ¬ (_ = _); lia
    · show ¬ (_ = _); lia
    · rcases ha with rfl | rfl | rfl <;> lia
  have lt1 := P1.lt
  have T0 : TurnS w c (fx ++ ex) m (n₀ ++ tl ++ tl1) h1.objs.size (h1.objs.size + 1 + 1) (h1.objs.size + 1) ax vs (!w.params.followText "set-order") 0 hE1 [] t1 := by
    refine ⟨P1.F.keeps upH, by rw [List.append_nil]; exact P1.N.grown upH, by rw [List.append_nil]; exact P1.tab, Up.nil, eI, ⟨_, hns⟩, eD, fun p hp => ?_⟩
    rw [List.append_nil] at hp
    have := lt1 p hp
    exact ⟨Nat.ne_of_lt this, Nat.ne_of_lt (Nat.lt_succ_of_lt (Nat.lt_succ_of_lt this)), Nat.ne_of_lt (Nat.lt_succ_of_lt this)⟩
  -- what comes behind the block
  have behind : ∀ h' tk' tlk t', TurnS w c (fx ++ ex) m (n₀ ++ tl ++ tl1) h1.objs.size (h1.objs.size + 1 + 1) (h1.objs.size + 1) ax vs (!w.params.followText "set-order") vs.length h' tlk t' → ∀ h₂, Heap.ExtBut h1.objs.size h' h₂ → ∃ m', h₂.Ns (h1.objs.size + 1 + 1) m' ∧ ∀ h'', Heap.SameBut (h1.objs.size + 1 + 1) h₂ h'' → wpAny (theM w) c.A (assign (.Tuple [.Name y py] kk tp) c.env (.ref (h1.objs.size + 1))) (fun _ => Q .next) E { s with heap := h'', toks := tk' } := by
    intro h' tk' tlk t' T h₂ hx2
    obtain ⟨nI1, nI2, nI3, nI4⟩ := ad.n h1.objs.size (.inl rfl)
    obtain ⟨nC1, nC2, nC3, nC4⟩ := ad.n (h1.objs.size + 1 + 1) (.inr (.inl rfl))
    obtain ⟨m', o', es, ep, hns', r⟩ := T.ns
    refine ⟨m', ⟨o', es, ep, hx2 _ _ (Ne.symm ad.ic) hns', r⟩, fun h'' hs'' => ?_⟩
    have keep : ∀ b o, neq b h1.objs.size → neq b (h1.objs.size + 1 + 1) → h'.get? b = some o → h''.get? b = some o := fun b o q1 q2 e => hs''.extBut b o q2 (hx2 b o q1 e)
    have hso : soN (!w.params.followText "set-order") vs.length = soT (!w.params.followText "set-order") := by
      rw [hlen]
      cases xs with
      | nil => exact absurd rfl hne
      | cons a r => rfl
    have hD'' : h''.get? (h1.objs.size + 1) = some (soT (!w.params.followText "set-order")) := by
      rw [← hso]; exact keep _ _ (Ne.symm ad.id) (Ne.symm ad.cd) T.acc
    have F'' : Fr c.h₀ c.L h'' m := by
      refine ⟨?_, fun b o e => keep b o ?_ ?_ (T.F.keep b o e), T.F.above⟩
      · obtain ⟨oL, a1, a2, e, r⟩ := T.F.ns
        exact ⟨oL, a1, a2, keep _ _ (Ne.symm nI2) (Ne.symm nC2) e, r⟩
      · rintro rfl; rw [nI1] at e; cases e
      · rintro rfl; rw [nC1] at e; cases e
    have N'' : News c.h₀ c.L h'' (tabL t' ++ ((fx ++ ex) ++ ((n₀ ++ tl ++ tl1) ++ tlk))) := fun p hp => ⟨keep _ _ (T.off p hp).1 (T.off p hp).2.1 (T.N p hp).1, (T.N p hp).2⟩
    rw [assign_Tuple]
    refine wpAny_bind (wpAny_standAt ?_)
    unfold unpack
    refine wpAny_bind (wpAny_holding (unpack_soT (s := { s with heap := h'', toks := tk' }) A_handled hD'' fun h2 hx2 => ?_))
    have F2 := F''.extBut hx2 (Nat.le_refl _)
    have N2 := N''.extBut hx2 (Nat.le_refl _)
    show wpAny (theM w) c.A (assignInOrder [assign (.Name y py) c.env] [_]) _ _ _
    unfold assignInOrder
    refine wpAny_bind (wpAny_holding (assign_Name (storeX_L F2 N2 (fun h3 F3 N3 => ?_) ok.k hy)))
    have I1 := I.after P1 U1
    have P2 := P1.grow F2 N2 T.tab T.up
    have U := T.up
    have e : n₀ ++ tl ++ tl1 = n₀ ++ (tl ++ tl1) := List.append_assoc ..
    rw [e] at P2 U N3
    have I2 := I1.after P2 U
    rw [List.append_assoc n₀] at N3
    have J := I2.set (h' := h3) (x := y) (v := .bool true) (d := .d (.bool true)) (.bool _) hy (fun _ _ h => nomatch h) hd hd2 F3 N3
    unfold assignInOrder
    rw [List.append_assoc tl] at J
    exact wpAny_pure (k .next h3 _ (tl1 ++ tlk) ⟨rfl, _, _, _, J⟩)
  have loop : ∀ s₃ : Shared, (∃ tk, s₃ = { s with heap := hE1, toks := tk }) → codeAny (theM w) c.A (.compLoop (.SetComp elt [⟨.Name x px, iter, [], 0⟩] scope pos) 0 (.ref h1.objs.size) (.ref (h1.objs.size + 1)) (compEnvC scope cl (h1.objs.size + 1 + 1) c.env)) (compPost (theM w) c.A E none (fun v s₁ => wpAny (theM w) c.A (assign (.Tuple [.Name y py] kk tp) c.env v) (fun _ => Q .next) E s₁) (.ref (h1.objs.size + 1)) (h1.objs.size + 1 + 1)) s₃ := by
    rintro s₃ ⟨tk, rfl⟩
    refine set_loop (fun q s' => ∃ h' tk i tlk t', s' = { s with heap := h', toks := tk } ∧ i ≤ vs.length ∧ q = vs.length + 1 - i ∧ TurnS w c (fx ++ ex) m (n₀ ++ tl ++ tl1) h1.objs.size (h1.objs.size + 1 + 1) (h1.objs.size + 1) ax vs (!w.params.followText "set-order") i h' tlk t') ?_ (vs.length + 1) ⟨hE1, tk, 0, [], t1, rfl, Nat.zero_le _, rfl, T0⟩
    rintro q s' ⟨h', tk', i, tlk, t', rfl, hi, rfl, T⟩
    by_cases hlt : i < vs.length
    · have hlt2 : i < xs.length := by rw [← hlen]; exact hlt
      obtain ⟨v', hv', hD⟩ := hvl.get (k := i) hlt2
      have hvi : vs[i] = v' := by rw [List.getElem?_eq_getElem hlt] at hv'; exact Option.some.inj hv'
      refine wpAny_mono (turnS (px := px) (s := s) (tk := tk') (Q := fun s' => ∃ q', q' < vs.length + 1 - i ∧ ∃ h' tk i tlk t', s' = { s with heap := h', toks := tk } ∧ i ≤ vs.length ∧ q' = vs.length + 1 - i ∧ TurnS w c (fx ++ ex) m (n₀ ++ tl ++ tl1) h1.objs.size (h1.objs.size + 1 + 1) (h1.objs.size + 1) ax vs (!w.params.followText "set-order") i h' tlk t') P1.hi P1.rho hcap K.kind K.hx K.hd ad ⟨o, ho, hoc, hod⟩ hlt (by rw [hvi]; exact hD) T (hE _ _ (List.getElem_mem hlt2)) fun h'' tk'' tlk' t'' T' => ?_) (fun r s₁ hr => ?_) fun _ _ e => e
      · exact ⟨vs.length + 1 - (i + 1), by lia, h'', tk'', i + 1, tlk', t'', rfl, hlt, rfl, T'⟩
      · cases r with
        | none => exact hr.elim
        | some v => exact hr
    · obtain rfl : i = vs.length := Nat.le_antisymm hi (Nat.not_lt.mp hlt)
      have hax2 := T.N (ax, o) (memR _ (memR _ (memL _ ho)))
      exact wpAny_pyNext_tuple_end (s := { s with heap := h', toks := tk' }) A_handled T.it ⟨o, hax2.1, hoc, nn, hod⟩ (by simp) fun h₂ hx2 => behind h' tk' tlk t' T h₂ hx2
  refine set_start (loop _ ⟨_, rfl⟩) (wpAny_pyIter_tupleiter (s := { s with heap := hE1, toks := _ }) eI (loop _ ⟨_, rfl⟩))
end
end Mine

namespace Mine
open LCg LCt
theorem newEnvCell {M : Model} {A : Around} {E : Value → Shared → Prop} {s : Shared} {env : Env} {scope : Scope} {cl : List (Str × Addr)} {x : Str} {Q : Env → Shared → Prop} (hcells : ∀ k, cellsFrom k scope.names cl = (x, k) :: cl) (hpush : ∀ h, pushCells h scope.names = h.push { cls := .type "cell", data := .cell none })
    (h : Q (newEnv scope s.heap.objs.size env.globals ((x, s.heap.objs.size + 1) :: cl) env.qual none .none (some env) builtinsNs) { s with heap := (s.heap.push { cls := .type "dict", data := .dict #[] }).push { cls := .type "cell", data := .cell none } }) :
    wpAny M A (newFunctionEnv scope env.globals cl [] env.qual none .none (some env)) Q E s := by
  simp only [newFunctionEnv, Option.isSome_some, if_true]
  refine wpAny_bind (wpAny_alloc ?_)
  refine wpAny_bind (wpAny_layCells _ (fun name kind cells => by cases hkc : kind == NameKind.cell <;> simp [hkc]) _ _ _ _ ?_)
  rw [hcells, hpush]
  rw [show ({ s with heap := s.heap.push { cls := .type "dict", data := .dict #[] } } : Shared).heap.objs.size = s.heap.objs.size + 1 from Heap.size_push ..]
  rw [List.forIn_nil]
  refine wpAny_bind (wpAny_pure ?_)
  exact wpAny_pure h
section
variable {w : World} {c : Cx} {env : Env} {σ σc : Sg} {d : Vl} {fx news : Lg} {m : Str → Option Value} {t : Tb}
theorem rho_compK {scope : Scope} {cl : List (Str × Addr)} {C K : Addr} {oK : Obj} {fx' news' : Lg} {v : Value} {x : Str} (rho : RhoIn w c env fx m news σ) (hcap : Caps env scope cl σ σc) (hxc : σc x = none) (hkind : scope.kind = .function) (hx : (compEnvC scope cl 0 env).kindOf x = some .cell) (hd : (x == ("__debug__" : Str)) = false)
    (hv : VIn w news' v d) (hK : oK.data = .cell (some v)) (hmK : (K, oK) ∈ fx') (hf : ∀ p ∈ fx, p ∈ fx') (hn : ∀ p ∈ news, p ∈ news') : RhoIn w c (compEnvC scope ((x, K) :: cl) C env) fx' m news' (upd σc x d) := by
  have hk : (compEnvC scope ((x, K) :: cl) C env).scope.kind = .function := hkind
  have hx' : (compEnvC scope ((x, K) :: cl) C env).kindOf x = some .cell := hx
  have hlk : ((x, K) :: cl).lookup x = some K := by rw [List.lookup_cons]; simp
  intro y e hy
  unfold upd at hy
  by_cases hyx : y = x
  · subst hyx
    rw [if_pos rfl] at hy
    cases hy
    exact ⟨v, fun pos s Q E F N q => lcf_cell N hlk hmK hK q hk hx' hd, hv, fun _ => ⟨K, oK, hlk, hmK, hK⟩⟩
  · rw [if_neg hyx] at hy
    obtain ⟨h1, h2, h3, h4, h5, h6⟩ := hcap y e hy
    obtain ⟨v', _, hv', hz⟩ := rho y e h1
    obtain ⟨a, o, z1, z2, z3⟩ := hz h2
    have hly : ((x, K) :: cl).lookup y = env.cells.lookup y := by
      rw [List.lookup_cons, beq_eq_false_iff_ne.mpr hyx]; exact h4
    refine ⟨v', fun pos s Q E F N q => ?_, hv'.mono hn, fun _ => ⟨a, o, by rw [← z1]; exact hly, hf _ z2, z3⟩⟩
    rcases h3 with h3 | h3
    · exact lcf_cell N (hly.trans z1) (hf _ z2) z3 q hk h3 h5
    · exact lcf_free N (hly.trans z1) (hf _ z2) z3 q hk h3 h5 h6
/-- what stands between two turns of a block whose name is a cell -/
structure TurnAt (w : World) (c : Cx) (fx : Lg) (m : Str → Option Value) (news : Lg) (I C D K : Addr) (n : Nat) (g : Nat → Dat) (i : Nat) (h : Heap) (ys : List Value) (tlk : Lg) (t' : Tb) : Prop where
  F : Fr c.h₀ c.L h m
  N : News c.h₀ c.L h (tabL t' ++ (fx ++ (news ++ tlk)))
  tab : TabOk (news ++ tlk) t'
  up : Up (fx ++ news) tlk
  it : IsRangeIter h I (0 + (i : Nat) * 1) ((n : Int) - (i : Nat)) 1
  ns : ∃ m', h.Ns C m'
  acc : h.get? D = some (lst ys)
  cell : ∃ v, h.IsCell K v
  dat : DatAll (news ++ tlk) ys ((List.range i).map g)
  off : ∀ p ∈ tabL t' ++ (fx ++ (news ++ tlk)), neq p.1 I ∧ neq p.1 C ∧ neq p.1 D ∧ neq p.1 K
structure FourOk (c : Cx) (I C D K : Addr) : Prop where
  ic : neq I C
  id : neq I D
  ik : neq I K
  cd : neq C D
  ck : neq C K
  dk : neq D K
  n : ∀ a, a = I ∨ a = C ∨ a = D ∨ a = K → c.h₀.get? a = none ∧ neq a c.L ∧ neq a 219 ∧ neq a 226
theorem turnK {scope : Scope} {cl : List (Str × Addr)} {I C D K : Addr} {n i : Nat} {g : Nat → Dat} {h : Heap} {ys : List Value} {tlk : Lg} {t' : Tb} {s : Shared} {tk : Nat} {elt : Expr} {x : Str} {px : Pos} {E : Value → Shared → Prop} {Q : Shared → Prop}
    (hi : Hi (fx ++ news)) (rho : RhoIn w c env fx m news σ) (hcap : Caps env scope cl σ σc) (hxc : σc x = none) (hkind : scope.kind = .function) (hx : (compEnvC scope cl 0 env).kindOf x = some .cell) (hd : (x == ("__debug__" : Str)) = false)
    (ad : FourOk c I C D K) (hn : n ≤ 1000000) (hlt : i < n) (T : TurnAt w c fx m news I C D K n g i h ys tlk t')
    (hE : EvalD w c (compEnvC scope ((x, K) :: cl) C env) (upd σc x (.d (.int i))) elt (.d (g i)))
    (k : ∀ h' tk' ys' tlk' t'', TurnAt w c fx m news I C D K n g (i + 1) h' ys' tlk' t'' → Q { s with heap := h', toks := tk' }) :
    wpAny (theM w) c.A (pyNext (.ref I)) (fun r s₁ => match r with
      | none => False
      | some v => wpAny (theM w) c.A (assign (.Name x px) (compEnvC scope ((x, K) :: cl) C env) v) (fun _ s₂ => wpAny (theM w) c.A (eval elt (compEnvC scope ((x, K) :: cl) C env)) (fun y s₄ =>
          wpAny (theM w) c.A (call (.builtin "list.append") [.ref D, y]) (fun _ s₅ => Q s₅) E s₄) E s₂) E s₁) E { s with heap := h, toks := tk } := by
  refine (range_walks (I := I) (prog := PySem.Challenge.rw_in0110_01.row.prog) (w := w) (A := c.A) A_handled 0 n).item i _ _ _ hlt T.it fun v h₂ tk₂ hPv hst₂ hk₂ => ?_
  obtain ⟨ti, rfl⟩ := hPv
  obtain ⟨nI1, nI2, nI3, nI4⟩ := ad.n I (.inl rfl)
  obtain ⟨nC1, nC2, nC3, nC4⟩ := ad.n C (.inr (.inl rfl))
  obtain ⟨nD1, nD2, nD3, nD4⟩ := ad.n D (.inr (.inr (.inl rfl)))
  obtain ⟨nK1, nK2, nK3, nK4⟩ := ad.n K (.inr (.inr (.inr rfl)))
  obtain ⟨v₀, hcell⟩ := T.cell
  have at2 : ∀ b o, neq b I → h.get? b = some o → h₂.get? b = some o := fun b o hb e => hk₂ b o (by simpa using hb) e
  have hcell2 : h₂.IsCell K v₀ := let ⟨o, e, q⟩ := hcell; ⟨o, at2 _ _ (Ne.symm ad.ik) e, q⟩
  refine wpAny_assign_Name (wpAny_storeName_cell (c := K) hkind hx (by show ((x, K) :: cl).lookup x = some K; rw [List.lookup_cons]; simp) hcell2 fun h₃ hc3 hsb => ?_)
  have at3 : ∀ b o, neq b I → neq b K → h.get? b = some o → h₃.get? b = some o := fun b o h1 h2 e => hsb.extBut b o h2 (at2 b o h1 e)
  have F3 : Fr c.h₀ c.L h₃ m := (fr_but T.F hk₂ (Ne.symm nI2) nI1).change hsb nK2 nK1
  obtain ⟨oI, eI, hIt⟩ : ∃ oI, h₃.get? I = some oI ∧ ∀ h' : Heap, h'.get? I = some oI → IsRangeIter h' I (0 + ((i + 1 : Nat)) * 1) ((n : Int) - ((i + 1 : Nat))) 1 := ⟨_, hsb.extBut I _ ad.ik hst₂, fun h' e => e⟩
  obtain ⟨m', hns⟩ := T.ns
  have hns3 : h₃.Ns C m' := let ⟨o, es, ep, e, r⟩ := hns; ⟨o, es, ep, at3 _ _ (Ne.symm ad.ic) ad.ck e, r⟩
  obtain ⟨oC, eC, hoC⟩ := ns_obj hns3
  have eD := at3 _ _ (Ne.symm ad.id) ad.dk T.acc
  obtain ⟨oK, eK, hdK⟩ := hc3
  have P : Pre w c (compEnvC scope ((x, K) :: cl) C env) (fx ++ [(I, oI), (C, oC), (D, lst ys), (K, oK)]) m (news ++ tlk) t' (upd σc x (.d (.int i))) h₃ := by
    refine ⟨F3, fun p hp => ?_, T.tab, fun p hp => ?_, rho_compK (v := .int (0 + (i : Int)) ti) rho hcap hxc hkind hx hd ?_ hdK (memR _ (.tail _ (.tail _ (.tail _ (.head _))))) memL memL⟩
    · have old : p ∈ tabL t' ++ (fx ++ (news ++ tlk)) → h₃.get? p.1 = some p.2 ∧ neq p.1 c.L ∧ c.h₀.get? p.1 = none := fun hp => ⟨at3 _ _ (T.off p hp).1 (T.off p hp).2.2.2 (T.N p hp).1, (T.N p hp).2⟩
      rcases List.mem_append.mp hp with hp | hp
      · exact old (memL p hp)
      · rcases List.mem_append.mp hp with hp | hp
        · rcases List.mem_append.mp hp with hp | hp
          · exact old (memR p (memL p hp))
          · simp only [List.mem_cons, List.not_mem_nil, or_false] at hp
            rcases hp with rfl | rfl | rfl | rfl
            · exact ⟨eI, nI2, nI1⟩
            · exact ⟨eC, nC2, nC1⟩
            · exact ⟨eD, nD2, nD1⟩
            · exact ⟨eK, nK2, nK1⟩
        · exact old (memR p (memR p hp))
    · rcases List.mem_append.mp hp with hp | hp
      · rcases List.mem_append.mp hp with hp | hp
        · exact hi p (memL p hp)
        · simp only [List.mem_cons, List.not_mem_nil, or_false] at hp
          rcases hp with rfl | rfl | rfl | rfl
          · exact ⟨nI3, nI4⟩
          · exact ⟨nC3, nC4⟩
          · exact ⟨nD3, nD4⟩
          · exact ⟨nK3, nK4⟩
      · rcases List.mem_append.mp hp with hp | hp
        · exact hi p (memR p hp)
        · exact T.up.2 p hp
    · rw [Int.zero_add]; exact .int _ _
  refine hE _ _ _ _ _ _ _ P fun y h₄ tk₄ tl t'' P'' U'' hv' => ?_
  have z := fun q hq => (P''.N q (memR q (memL q (memR q hq)))).1
  have zI : h₄.get? I = some oI := z (I, oI) (.head _)
  have zC : h₄.get? C = some oC := z (C, oC) (.tail _ (.head _))
  have zD : h₄.get? D = some (lst ys) := z (D, lst ys) (.tail _ (.tail _ (.head _)))
  have zK : h₄.get? K = some oK := z (K, oK) (.tail _ (.tail _ (.tail _ (.head _))))
  have hyl : ys.length = i := by have := T.dat.length; rw [List.length_map, List.length_range] at this; exact this
  refine append_at (hsz := by show ys.toArray.size ≤ sizeLine; rw [List.size_toArray, hyl, sizeLine_eq]; lia) zD fun h₅ hs₅ hD₅ => ?_
  have off' : ∀ p ∈ tabL t'' ++ (fx ++ (news ++ (tlk ++ tl))), neq p.1 I ∧ neq p.1 C ∧ neq p.1 D ∧ neq p.1 K := fun p hp => by
    have new : p ∈ tl → neq p.1 I ∧ neq p.1 C ∧ neq p.1 D ∧ neq p.1 K := fun hp =>
      ⟨Ne.symm (U''.1 (I, oI) (memL _ (memR _ (.head _))) p hp), Ne.symm (U''.1 (C, oC) (memL _ (memR _ (.tail _ (.head _)))) p hp), Ne.symm (U''.1 (D, lst ys) (memL _ (memR _ (.tail _ (.tail _ (.head _))))) p hp), Ne.symm (U''.1 (K, oK) (memL _ (memR _ (.tail _ (.tail _ (.tail _ (.head _)))))) p hp)⟩
    rcases List.mem_append.mp hp with hp | hp
    · rcases List.mem_cons.mp hp with rfl | hp
      · exact ⟨Ne.symm nI3, Ne.symm nC3, Ne.symm nD3, Ne.symm nK3⟩
      · rw [List.mem_singleton.mp hp]; exact ⟨Ne.symm nI4, Ne.symm nC4, Ne.symm nD4, Ne.symm nK4⟩
    · rcases List.mem_append.mp hp with hp | hp
      · exact T.off p (memR p (memL p hp))
      · rcases List.mem_append.mp hp with hp | hp
        · exact T.off p (memR p (memR p (memL p hp)))
        · rcases List.mem_append.mp hp with hp | hp
          · exact T.off p (memR p (memR p (memR p hp)))
          · exact new hp
  refine k h₅ tk₄ (ys ++ [y]) (tlk ++ tl) t'' ⟨P''.F.change hs₅ nD2 nD1, fun p hp => ?_, by rw [← List.append_assoc]; exact P''.tab, T.up.cat (U''.sub fun p hp => ?_), hIt h₅ (hs₅.extBut _ _ ad.id zI), ⟨m', ?_⟩, hD₅.trans (congrArg some (lst_snoc ys y)), ⟨_, oK, hs₅.extBut _ _ (Ne.symm ad.dk) zK, hdK⟩, ?_, off'⟩
  · have q : p ∈ tabL t'' ++ ((fx ++ [(I, oI), (C, oC), (D, lst ys), (K, oK)]) ++ (news ++ tlk ++ tl)) := by
      exact Mine.viaSub hp (by walk_at "mSUB")
    exact ⟨hs₅.extBut _ _ (off' p hp).2.2.1 (P''.N p q).1, (P''.N p q).2⟩
  · rcases List.mem_append.mp hp with hp | hp
    · exact memL p (memL p hp)
    · exact memR p (memL p hp)
  · exact hoC.ns (hs₅.extBut _ _ ad.cd zC) |> fun q => by
      obtain ⟨o, es, ep, e, hd, r⟩ := hns3
      rw [eC] at e; cases e
      exact ⟨_, es, ep, hs₅.extBut _ _ ad.cd zC, hd, r⟩
  · rw [List.range_succ, List.map_append]
    rw [← List.append_assoc]
    exact (T.dat.mono memL).append (.one hv')
end
end Mine

namespace Mine
open LCg LCt
section
variable {w : World} {c : Cx} {env : Env} {σ σc : Sg}
/-- a block over a range whose name is a cell -/
theorem eD_compRC {g : Nat → Dat} {n : Nat} {elt iter : Expr} {x : Str} {px pos : Pos} {scope : Scope} {cl : List (Str × Addr)} (hclos : closureFor scope env = pure cl) (hkind : scope.kind = .function) (hnames : ∀ y ∈ scope.names, y.2 = .local → scope.names.lookup y.1 = some .local)
    (hcells : ∀ k, cellsFrom k scope.names cl = (x, k) :: cl) (hpush : ∀ h, pushCells h scope.names = h.push { cls := .type "cell", data := .cell none }) (hx : (compEnvC scope cl 0 env).kindOf x = some .cell) (hd : (x == ("__debug__" : Str)) = false)
    (hcap : Caps env scope cl σ σc) (hxc : σc x = none) (hiter : EvalD w c env σ iter (.rng 0 n)) (hl : n ≤ 1000000)
    (hE : ∀ C K k, k < n → EvalD w c (compEnvC scope ((x, K) :: cl) C env) (upd σc x (.d (.int k))) elt (.d (g k)))
    (hs : ∀ x, foldedSetIterable iter env x = pure x := by intro _; rfl) : EvalD w c env σ (.ListComp elt [⟨.Name x px, iter, [], 0⟩] scope pos) (.d (.list ((List.range n).map g))) := fun fx m news t s Q E P k => by
  rw [eval_ListComp]
  refine wpAny_comprehension_free (use := none) rfl hs hclos hkind hnames (hiter.run P fun v1 h1 tk1 tl1 t1 P1 U1 hv1 => ?_)
  obtain ⟨r1, tt, u1, k1, rfl, hm⟩ := hv1
  have hr : IsRange h1 r1 0 n 1 tt u1 k1 := (P1.N _ (memR _ (memR _ hm))).1
  have hrs : Builtin.Range.rangeSize 0 n 1 = ((n : Nat) : Int) := by rw [rangeSize_one]; split <;> lia
  refine wpAny_pyIter_range (s := { s with heap := h1, toks := tk1 }) hr (small_one (by lia) (by lia) (by lia) (by lia)) ?_
  refine wpAny_newObj_type (newEnvCell hcells hpush ?_)
  have up : ∀ b o, h1.get? b = some o → ∀ o1 o2 o3 o4 : Obj, ((((h1.push o1).push o2).push o3).push o4).get? b = some o := fun b o e o1 o2 o3 o4 => Heap.get?_push_of_some _ (Heap.get?_push_of_some _ (Heap.get?_push_of_some _ (Heap.get?_push_of_some _ e)))
  simp only [Heap.size_push]
  generalize hH : (((h1.push { cls := .type "range_iterator", data := .fields #[rawInt 0, rawInt (Builtin.Range.rangeSize 0 n 1), rawInt 1] }).push { cls := .type "list", dict := none, data := .seq ([] : List Value).toArray }).push { cls := .type "dict", data := .dict #[] }).push { cls := .type "cell", data := .cell none } = H
  have eI : H.get? h1.objs.size = some { cls := .type "range_iterator", data := .fields #[rawInt 0, rawInt (Builtin.Range.rangeSize 0 n 1), rawInt 1] } := by
    rw [← hH]
    exact Heap.get?_push_of_some _ (Heap.get?_push_of_some _ (Heap.get?_push_of_some _ (Heap.get?_push_size _ rfl)))
  rw [hrs] at eI
  have eD : H.get? (h1.objs.size + 1) = some (lst []) := by
    rw [← hH]
    refine Heap.get?_push_of_some _ (Heap.get?_push_of_some _ ?_)
    rw [← Heap.size_push h1 { cls := .type "range_iterator", data := .fields #[rawInt 0, rawInt (Builtin.Range.rangeSize 0 n 1), rawInt 1] }]
    exact Heap.get?_push_size _ rfl
  have eC : H.Ns (h1.objs.size + 1 + 1) (fun _ => none) := by
    rw [← hH]
    rw [← Heap.size_push h1 { cls := .type "range_iterator", data := .fields #[rawInt 0, rawInt (Builtin.Range.rangeSize 0 n 1), rawInt 1] }, ← Heap.size_push _ { cls := .type "list", dict := none, data := .seq ([] : List Value).toArray }]
    exact (Heap.Ns.new _ (.type "dict")).keeps fun b o e => Heap.get?_push_of_some _ e
  have eK : H.IsCell (h1.objs.size + 1 + 1 + 1) none := by
    rw [← hH]
    rw [← Heap.size_push h1 { cls := .type "range_iterator", data := .fields #[rawInt 0, rawInt (Builtin.Range.rangeSize 0 n 1), rawInt 1] }, ← Heap.size_push _ { cls := .type "list", dict := none, data := .seq ([] : List Value).toArray }, ← Heap.size_push _ { cls := .type "dict", data := .dict #[] }]
    exact ⟨_, Heap.get?_push_size _ rfl, rfl⟩
  have upH : ∀ b o, h1.get? b = some o → H.get? b = some o := fun b o e => hH ▸ up b o e _ _ _ _
  clear hH up
  have fresh : ∀ a, h1.objs.size ≤ a → c.h₀.get? a = none ∧ neq a c.L ∧ neq a 219 ∧ neq a 226 := fun a ha => by
    refine ⟨?_, Nat.ne_of_gt (Nat.lt_of_lt_of_le P1.F.ns.lt ha), Nat.ne_of_gt (Nat.lt_of_lt_of_le (P1.lt (219, tabObj t1.1) (memL _ (.head _))) ha), Nat.ne_of_gt (Nat.lt_of_lt_of_le (P1.lt (226, tabObj t1.2) (memL _ (.tail _ (.head _)))) ha)⟩
    cases e : c.h₀.get? a with
    | none => rfl
    | some o' => exact absurd (Heap.lt_size (P1.F.keep a o' e)) (Nat.not_lt.mpr ha)
  have ad : FourOk c h1.objs.size (h1.objs.size + 1 + 1) (h1.objs.size + 1) (h1.objs.size + 1 + 1 + 1) := by
    refine ⟨?_, ?_, ?_, ?_, ?_, ?_, fun a ha => fresh a ?_⟩
    · show ¬ (_ = _); lia
    · show ¬ (_ = _); lia
    · show ¬ (_ = _); lia
    · show ¬ (_ = _); lia
    · show ¬ (_ = _); lia
    · show ¬ (_ = _); lia
    · rcases ha with rfl | rfl | rfl | rfl <;> lia
  have lt1 := P1.lt
  have T0 : TurnAt w c fx m (news ++ tl1) h1.objs.size (h1.objs.size + 1 + 1) (h1.objs.size + 1) (h1.objs.size + 1 + 1 + 1) n g 0 H [] [] t1 := by
    refine ⟨P1.F.keeps upH, by rw [List.append_nil]; exact P1.N.grown upH, by rw [List.append_nil]; exact P1.tab, Up.nil, ?_, ⟨_, eC⟩, eD, ⟨_, eK⟩, .nil, fun p hp => ?_⟩
    · show H.get? _ = some _
      rw [eI]
      simp [rawInt]
    · rw [List.append_nil] at hp
      have := lt1 p hp
      exact ⟨Nat.ne_of_lt this, Nat.ne_of_lt (Nat.lt_succ_of_lt (Nat.lt_succ_of_lt this)), Nat.ne_of_lt (Nat.lt_succ_of_lt this), Nat.ne_of_lt (Nat.lt_succ_of_lt (Nat.lt_succ_of_lt (Nat.lt_succ_of_lt this)))⟩
  have loop : ∀ s₃ : Shared, (∃ tk, s₃ = { s with heap := H, toks := tk }) → codeAny (theM w) c.A (.compLoop (.ListComp elt [⟨.Name x px, iter, [], 0⟩] scope pos) 0 (.ref h1.objs.size) (.ref (h1.objs.size + 1)) (compEnvC scope ((x, h1.objs.size + 1 + 1 + 1) :: cl) (h1.objs.size + 1 + 1) env)) (compPost (theM w) c.A E none Q (.ref (h1.objs.size + 1)) (h1.objs.size + 1 + 1)) s₃ := by
    rintro s₃ ⟨tk, rfl⟩
    refine codeAny_compLoop_tests (fun q s' => ∃ h' tk i ys tlk t', s' = { s with heap := h', toks := tk } ∧ i ≤ n ∧ q = n + 1 - i ∧ TurnAt w c fx m (news ++ tl1) h1.objs.size (h1.objs.size + 1 + 1) (h1.objs.size + 1) (h1.objs.size + 1 + 1 + 1) n g i h' ys tlk t') ?_ (n + 1) ⟨H, tk, 0, [], [], t1, rfl, Nat.zero_le _, rfl, T0⟩
    rintro q s' ⟨h', tk', i, ys, tlk, t', rfl, hi, rfl, T⟩
    by_cases hlt : i < n
    · refine wpAny_mono (turnK (px := px) (s := s) (tk := tk') (Q := fun s' => ∃ q', q' < n + 1 - i ∧ ∃ h' tk i ys tlk t', s' = { s with heap := h', toks := tk } ∧ i ≤ n ∧ q' = n + 1 - i ∧ TurnAt w c fx m (news ++ tl1) h1.objs.size (h1.objs.size + 1 + 1) (h1.objs.size + 1) (h1.objs.size + 1 + 1 + 1) n g i h' ys tlk t') P1.hi P1.rho hcap hxc hkind hx hd ad hl hlt T (hE _ _ _ hlt) fun h'' tk'' ys' tlk' t'' T' => ?_) (fun r s₁ hr => ?_) fun _ _ e => e
      · exact ⟨n + 1 - (i + 1), by lia, h'', tk'', i + 1, ys', tlk', t'', rfl, hlt, rfl, T'⟩
      · cases r with
        | none => exact hr.elim
        | some v => exact wpAny_mono hr (fun _ s₂ h₂ => wpAny_tests_nil (by simp only [if_true]; exact h₂)) fun _ _ e => e
    · obtain rfl : i = n := Nat.le_antisymm hi (Nat.not_lt.mp hlt)
      refine (range_walks (I := h1.objs.size) (prog := PySem.Challenge.rw_in0110_01.row.prog) (w := w) (A := c.A) A_handled 0 i).done _ _ _ T.it fun h₂ tk₂ hk₂ => ?_
      have at2 : ∀ b o, neq b h1.objs.size → h'.get? b = some o → h₂.get? b = some o := fun b o hb e => hk₂ b o (by simpa using hb) e
      obtain ⟨nI1, nI2, nI3, nI4⟩ := ad.n h1.objs.size (.inl rfl)
      obtain ⟨nC1, nC2, nC3, nC4⟩ := ad.n (h1.objs.size + 1 + 1) (.inr (.inl rfl))
      obtain ⟨nD1, nD2, nD3, nD4⟩ := ad.n (h1.objs.size + 1) (.inr (.inr (.inl rfl)))
      obtain ⟨m', hns⟩ := T.ns
      refine ⟨m', let ⟨o, es, ep, e, r⟩ := hns; ⟨o, es, ep, at2 _ _ (Ne.symm ad.ic) e, r⟩, fun h'' hs'' => ?_⟩
      have F' : Fr c.h₀ c.L h'' m := (fr_but T.F hk₂ (Ne.symm nI2) nI1).change hs'' nC2 nC1
      have N' : News c.h₀ c.L h'' ((h1.objs.size + 1, lst ys) :: (tabL t' ++ (fx ++ ((news ++ tl1) ++ tlk)))) := fun p hp => by
        rcases List.mem_cons.mp hp with rfl | hp
        · exact ⟨hs''.extBut _ _ (Ne.symm ad.cd) (at2 _ _ (Ne.symm ad.id) T.acc), nD2, nD1⟩
        · exact ⟨hs''.extBut _ _ (T.off p hp).2.1 (at2 _ _ (T.off p hp).1 (T.N p hp).1), (T.N p hp).2⟩
      obtain ⟨a1, a2, a3, a4⟩ := comp_end P1.hi F' N' (off1_of fun p hp => (T.off p hp).2.2.1) T.up T.tab T.dat
      exact (k.after U1) _ h'' tk₂ _ t' (P1.grow F' a1 a2 a3) a3 a4
  refine codeAny_compStart_list (loop _ ⟨_, rfl⟩) ((range_walks (I := h1.objs.size) (prog := PySem.Challenge.rw_in0110_01.row.prog) (w := w) (A := c.A) A_handled 0 n).self 0 _ _ _ T0.it (loop _ ⟨_, rfl⟩))
end
end Mine

namespace Mine
open LCg LCt
section
variable {w : World} {c : Cx} {env : Env} {σ : Sg} {d : Vl}
theorem vAll_map {news : Lg} : ∀ {vs : List Value} {ds : List Dat}, DatAll news vs ds → VAll w news vs (ds.map .d)
  | _, _, .nil => .nil
  | _, _, .cons a h => .cons a (vAll_map h)
/-- a list set out as arguments -/
theorem aD_star {e : Expr} {sp : Pos} {ds : List Dat} (h : EvalD w c env σ e (.d (.list ds))) (hl : ds.length ≤ 1000000) (he : starEach [.Starred e sp] env = [(true, eval e env)] := by rfl) : ArgsD w c env σ [.Starred e sp] (ds.map .d) := fun pos fx m news t s Q E P k => by
  rw [he]
  show wpAny _ _ (spliced [(true, do let v ← eval e env; standAt pos; pure v)]) _ _ _
  unfold spliced
  refine wpAny_bind (wpAny_bind (h.run P fun v1 hA tkA tlA tA PA UA hv1 => ?_))
  refine wpAny_bind (wpAny_standAt (wpAny_pure ?_))
  refine Mine.inL (show DatIn _ _ _ from hv1) fun _ _ _ hml hvl => ?_
  rename_i a vs nn
  have hg := (PA.nnw _ hml).1
  have hlen := hvl.length
  rw [if_pos rfl]
  obtain ⟨o, ho, hc, hd⟩ : ∃ o, hA.get? a = some o ∧ o.cls = .type "list" ∧ o.data = .seq vs.toArray nn := ⟨_, hg, rfl, rfl⟩
  refine wpAny_bind (wpAny_bind ?_)
  have hT : ({ s with heap := hA, toks := tkA } : Shared).TypeIs (.ref a) "list" := ⟨_, hg, rfl⟩
  refine wpAny_specialOf hT F.slot_list_iter.lookup ?_
  refine wpAny_pure ?_
  simp only [Bool.false_eq_true, if_false]
  refine wpAny_bind (wpAny_collect_seq (s := { s with heap := hA, toks := tkA }) (items := vs.toArray) a (.inl rfl) ho hc hd (fun h' hk => ?_) (by rw [sizeLine_eq, List.size_toArray]; lia))
  unfold spliced
  refine wpAny_bind (wpAny_holding (wpAny_pure (wpAny_pure ?_)))
  have P2 : Pre w c env fx m (news ++ tlA) tA σ h' := ⟨PA.F.keeps hk, PA.N.grown hk, PA.tab, PA.hi, PA.rho⟩
  rw [List.append_nil]
  exact k vs h' _ tlA tA P2 UA (vAll_map hvl)
/-- a def called with a list set out -/
theorem eD_callStar {f : Str} {a : Addr} {np sp pos : Pos} {e1 e2 : Expr} {d1 : Vl} {ds : List Dat} (ok : CxOk w c) (eo : EnvOk env) (hg : nsIn (Mine.top.heap_1 w.params) mainGlobals f = some (some (.ref a))) (hk : fnIn (Mine.top.heap_1 w.params) a = true)
    (h1 : EvalD w c env σ e1 d1) (h2 : EvalD w c env σ e2 (.d (.list ds))) (hl : ds.length ≤ 1000000) (C : CallD w c env σ (.ref a) (d1 :: ds.map .d) d) (hx : env.kindOf f = some .globalImplicit := by rfl) (hdb : (f == ("__debug__" : Str)) = false := by decide)
    (he : starEach [e1, .Starred e2 sp] env = (false, eval e1 env) :: starEach [.Starred e2 sp] env := by rfl) (he2 : starEach [.Starred e2 sp] env = [(true, eval e2 env)] := by rfl) : EvalD w c env σ (.Call (.Name f np) [e1, .Starred e2 sp] [] pos) d := fun fx m news t s Q E P k => by
  refine Call_ (nameG_K P.F ok.X (topRead_of ok.T) hg ?_ eo.g eo.k hx hdb) rfl
  unfold fnIn at hk
  split at hk
  · rename_i oc od fd osl e
    have harg := aD_cons h1 (aD_star h2 hl he2) he
    refine PyProof.Rows.callWith_def (o := ⟨oc, od, .func fd, osl⟩) (fd := fd) rfl (harg pos _ _ _ _ _ _ _ P fun vs hA tkA tlA tA PA UA hvs => ⟨PA.F.keep _ _ (ok.X _ _ e), ?_⟩) he
    exact C _ _ _ _ _ _ _ vs PA hvs (k.after UA)
  · cases hk
theorem gN_join (w : World) : fnIn (Mine.top.heap_1 w.params) 136 = true := by
  have hfill := Mine.fillT w
  revert hfill
  k_fill
  intro hfill
  clear hfill
  change _ = _
  k_is
end
end Mine

namespace Mine
theorem fn_basename (w : World) : FnV w 157 8 (fun ds r => ∃ x, ds = [.d (.str x)] ∧ r = .d (.str (pTail x)) ∧ x.length ≤ 100000) := by
  have hfill := Mine.fillT w
  revert hfill
  k_fill
  intro hfill
  clear hfill
  refine' fnV_of [Str.ofString "p"] ?ho ?hcd ?hb ?hloc ?hnd ?hdb ?hlen (by decide) ?h ?hco ?hgen ?hk ?hcell
  case ho => k_is
  case hcd => k_is
  case hb => intro s vs hv; obtain _ | ⟨v1, _ | ⟨v2, _ | ⟨v3, _ | ⟨v4, _ | ⟨v5, vs⟩⟩⟩⟩⟩ := vs <;> first | (simp at hv; done) | exact BindsTo.of_eq rfl
  case hloc => decide
  case hnd => decide
  case hdb => decide
  case hco => rfl
  case hgen => rfl
  case hk => rfl
  case hcell => decide
  case hlen => rintro ds r ⟨x, rfl, _⟩; rfl
  rintro c L g ds r ok rm ⟨x, rfl, rfl, hl⟩
  have eo := envOk ok.k
  have hl2 : x.length ≤ 16000000 := by lia
  refine Does.body ?_
  generalize hσ0 : lkL _ = σ0
  have s1 : σ0 (Str.ofString "p") = some (.d (.str x)) := by subst hσ0; rfl
  clear hσ0
  refine d_cons (xD_assign ok (Mine.eD_callG2 (by assumption) (by walk_at "mEOK") (Mine.gF_fspath w) (Mine.gK_fspath w) (Mine.aD_cons (Mine.eD_name (by walk_at "mELK")) Mine.aD_nil) (cF_fspath (by assumption) (by walk_at "mROOM")))) ?_
  refine d_cons (xD_assign ok (Mine.eD_callG2 (by assumption) (by walk_at "mEOK") (Mine.gF_get_sep w) (Mine.gK_get_sep w) (Mine.aD_cons (Mine.eD_name (by walk_at "mELK")) Mine.aD_nil) (cF_getsep (by assumption) (by walk_at "mROOM")))) ?_
  refine d_cons (xD_assign ok (Mine.eD_bin (Mine.eD_meth2 (Mine.eD_name (by walk_at "mELK")) Mine.mt_rfind (Mine.aD_cons (Mine.eD_name (by walk_at "mELK")) Mine.aD_nil) Mine.cD_rfind) Mine.eD_int Mine.tD_addI)) ?_
  exact d_ret (xD_return ok (Mine.eD_sliceS_sn (Mine.eD_name (by walk_at "mELK")) (Mine.eD_name (by walk_at "mELK")) (by walk_at "mEBOUND"))) rfl
theorem fn_dirname (w : World) : FnV w 164 8 (fun ds r => ∃ x, ds = [.d (.str x)] ∧ r = .d (.str (pHead x)) ∧ x.length ≤ 100000) := by
  have hfill := Mine.fillT w
  revert hfill
  k_fill
  intro hfill
  clear hfill
  refine' fnV_of [Str.ofString "p"] ?ho ?hcd ?hb ?hloc ?hnd ?hdb ?hlen (by decide) ?h ?hco ?hgen ?hk ?hcell
  case ho => k_is
  case hcd => k_is
  case hb => intro s vs hv; obtain _ | ⟨v1, _ | ⟨v2, _ | ⟨v3, _ | ⟨v4, _ | ⟨v5, vs⟩⟩⟩⟩⟩ := vs <;> first | (simp at hv; done) | exact BindsTo.of_eq rfl
  case hloc => decide
  case hnd => decide
  case hdb => decide
  case hco => rfl
  case hgen => rfl
  case hk => rfl
  case hcell => decide
  case hlen => rintro ds r ⟨x, rfl, _⟩; rfl
  rintro c L g ds r ok rm ⟨x, rfl, rfl, hl⟩
  have eo := envOk ok.k
  have hl2 : x.length ≤ 16000000 := by lia
  have hh := pHead0_len hl
  have hh2 : (pHead0 x).length ≤ 16000000 := by lia
  have hm := mulSl hh
  refine Does.body ?_
  generalize hσ0 : lkL _ = σ0
  have s1 : σ0 (Str.ofString "p") = some (.d (.str x)) := by subst hσ0; rfl
  clear hσ0
  refine d_cons (xD_assign ok (Mine.eD_callG2 (by assumption) (by walk_at "mEOK") (Mine.gF_fspath w) (Mine.gK_fspath w) (Mine.aD_cons (Mine.eD_name (by walk_at "mELK")) Mine.aD_nil) (cF_fspath (by assumption) (by walk_at "mROOM")))) ?_
  refine d_cons (xD_assign ok (Mine.eD_callG2 (by assumption) (by walk_at "mEOK") (Mine.gF_get_sep w) (Mine.gK_get_sep w) (Mine.aD_cons (Mine.eD_name (by walk_at "mELK")) Mine.aD_nil) (cF_getsep (by assumption) (by walk_at "mROOM")))) ?_
  refine d_cons (xD_assign ok (Mine.eD_bin (Mine.eD_meth2 (Mine.eD_name (by walk_at "mELK")) Mine.mt_rfind (Mine.aD_cons (Mine.eD_name (by walk_at "mELK")) Mine.aD_nil) Mine.cD_rfind) Mine.eD_int Mine.tD_addI)) ?_
  refine d_cons (xD_assign (d := .d (.str (pHead0 x))) ok (Mine.eD_sliceS_ns (Mine.eD_name (by walk_at "mELK")) (Mine.eD_name (by walk_at "mELK")) (by walk_at "mEBOUND"))) ?_
  unfold pHead
  by_cases h0 : ((pHead0 x).length : Int) ≠ 0 ∧ (pHead0 x != Txt.mul (Str.ofString "/") (pHead0 x).length) = true
  · rw [if_pos h0]
    refine d_if ok (testX (Mine.tT_and (Mine.tT_val (Mine.eD_name (by walk_at "mELK")) (Mine.trS (by walk_at "mEBOUND"))) (fun _ => (Mine.tT_and (Mine.tT_cmp (Mine.eD_name (by walk_at "mELK")) (Mine.eD_bin (Mine.eD_name (by walk_at "mELK")) (Mine.eD_callB2 (id := "len") (by assumption) (by walk_at "mEOK") (Mine.gB_len w) rfl (Mine.aD_cons (Mine.eD_name (by walk_at "mELK")) Mine.aD_nil) (Mine.cD_strlen (by walk_at "mEBOUND"))) (Mine.tD_mulS (by assumption))) Mine.tD_neS) (fun _ => Mine.tT_and0))))) (fun _ => ?_) (fun h => absurd h (by rw [h0.2, Bool.and_true, Bool.and_true, bne_eq_false_iff_eq]; exact h0.1))
    refine d_cons (xD_assign ok (Mine.eD_meth2 (Mine.eD_name (by walk_at "mELK")) Mine.mt_rstrip (Mine.aD_cons (Mine.eD_name (by walk_at "mELK")) Mine.aD_nil) (Mine.cD_rstrip (by walk_at "mEBOUND")))) (d_nil ?_)
    exact d_ret (xD_return ok (Mine.eD_name (by walk_at "mELK"))) rfl
  · rw [if_neg h0]
    refine d_if ok (testX (Mine.tT_and (Mine.tT_val (Mine.eD_name (by walk_at "mELK")) (Mine.trS (by walk_at "mEBOUND"))) (fun _ => (Mine.tT_and (Mine.tT_cmp (Mine.eD_name (by walk_at "mELK")) (Mine.eD_bin (Mine.eD_name (by walk_at "mELK")) (Mine.eD_callB2 (id := "len") (by assumption) (by walk_at "mEOK") (Mine.gB_len w) rfl (Mine.aD_cons (Mine.eD_name (by walk_at "mELK")) Mine.aD_nil) (Mine.cD_strlen (by walk_at "mEBOUND"))) (Mine.tD_mulS (by assumption))) Mine.tD_neS) (fun _ => Mine.tT_and0))))) (fun h => absurd h (by simpa using h0)) (fun _ => d_nil ?_)
    exact d_ret (xD_return ok (Mine.eD_name (by walk_at "mELK"))) rfl
theorem fn_splitroot (w : World) : FnV w 150 8 (fun ds r => ∃ x, ds = [.d (.str x)] ∧ r = .d (.tuple [.str (Str.ofString ""), .str (Str.ofString "/"), .str (Txt.slice x (some 1) none)]) ∧ x.length ≤ 100000 ∧
    (Txt.slice x none (some 1) != Str.ofString "/") = false ∧ (Txt.slice x (some 1) (some 2) != Str.ofString "/") = true) := by
  have hfill := Mine.fillT w
  revert hfill
  k_fill
  intro hfill
  clear hfill
  refine' fnV_of [Str.ofString "p"] ?ho ?hcd ?hb ?hloc ?hnd ?hdb ?hlen (by decide) ?h ?hco ?hgen ?hk ?hcell
  case ho => k_is
  case hcd => k_is
  case hb => intro s vs hv; obtain _ | ⟨v1, _ | ⟨v2, _ | ⟨v3, _ | ⟨v4, _ | ⟨v5, vs⟩⟩⟩⟩⟩ := vs <;> first | (simp at hv; done) | exact BindsTo.of_eq rfl
  case hloc => decide
  case hnd => decide
  case hdb => decide
  case hco => rfl
  case hgen => rfl
  case hk => rfl
  case hcell => decide
  case hlen => rintro ds r ⟨x, rfl, _⟩; rfl
  rintro c L g ds r ok rm ⟨x, rfl, rfl, hl, h1, h2⟩
  have eo := envOk ok.k
  have hl2 : x.length ≤ 16000000 := by lia
  refine Does.body ?_
  generalize hσ0 : lkL _ = σ0
  have s1 : σ0 (Str.ofString "p") = some (.d (.str x)) := by subst hσ0; rfl
  clear hσ0
  refine d_cons (xD_assign ok (Mine.eD_callG2 (by assumption) (by walk_at "mEOK") (Mine.gF_fspath w) (Mine.gK_fspath w) (Mine.aD_cons (Mine.eD_name (by walk_at "mELK")) Mine.aD_nil) (cF_fspath (by assumption) (by walk_at "mROOM")))) ?_
  refine d_if ok (testX (Mine.tT_val (Mine.eD_callB2 (id := "isinstance") (by assumption) (by walk_at "mEOK") (Mine.gB_isinstance w) rfl (Mine.aD_cons (Mine.eD_name (by walk_at "mELK")) (Mine.aD_cons (Mine.eD_nameB (by assumption) (by walk_at "mEOK") (Mine.gB_bytes w) rfl) Mine.aD_nil)) Mine.cD_isiBytes) Mine.trB)) (fun h => (nomatch h)) (fun _ => ?_)
  refine d_cons (xD_assign ok Mine.eD_str) ?_
  refine d_cons (xD_assign ok Mine.eD_str) (d_nil ?_)
  refine d_if ok (testX (Mine.tT_cmp (Mine.eD_sliceS_ns (Mine.eD_name (by walk_at "mELK")) Mine.eD_int (by walk_at "mEBOUND")) (Mine.eD_name (by walk_at "mELK")) Mine.tD_neS)) (fun h => absurd h (by rw [h1]; decide)) (fun _ => ?_)
  refine d_if (bb := (Txt.slice x (some 1) (some 2) != Str.ofString "/") || ((Txt.slice x (some 2) (some 3) == Str.ofString "/") || false)) ok (testX (Mine.tT_or (Mine.tT_cmp (Mine.eD_sliceS_ss (Mine.eD_name (by walk_at "mELK")) Mine.eD_int Mine.eD_int (by walk_at "mEBOUND")) (Mine.eD_name (by walk_at "mELK")) Mine.tD_neS) (fun _ => (Mine.tT_or (Mine.tT_cmp (Mine.eD_sliceS_ss (Mine.eD_name (by walk_at "mELK")) Mine.eD_int Mine.eD_int (by walk_at "mEBOUND")) (Mine.eD_name (by walk_at "mELK")) Mine.tD_eqS) (fun _ => Mine.tT_or0))))) (fun _ => ?_) (fun h => absurd h (by rw [h2, Bool.true_or]; decide))
  exact d_ret (xD_return ok (Mine.eD_tuple (ds := [_, _, _]) (Mine.ad_cons (Mine.eD_name (by walk_at "mELK")) (Mine.ad_cons (Mine.eD_name (by walk_at "mELK")) (Mine.ad_cons (Mine.eD_sliceS_sn (Mine.eD_name (by walk_at "mELK")) Mine.eD_int (by walk_at "mEBOUND")) Mine.ad_nil))) (Nat.le_of_ble_eq_true rfl))) rfl
/-- the path is made straight -/
theorem np_len (x : Str) (h : x.length ≤ 100000) : wt (Txt.split (Txt.slice x (some 1) none) (Str.ofString "/")) ≤ 100001 := Nat.le_trans (split_weight _ _ (by decide)) (Nat.succ_le_succ (Nat.le_trans (PyProof.Txt.length_slice_le _ _ _) h))
end Mine

namespace Mine
theorem gF_splitroot (w : World) : nsIn (Mine.top.heap_1 w.params) mainGlobals (Str.ofString "splitroot") = some (some (.ref 150)) := by
  have hfill := Mine.fillT w
  revert hfill
  k_fill
  intro hfill
  clear hfill
  change _ = _
  k_is
theorem gK_splitroot (w : World) : keepIn (Mine.top.heap_1 w.params) (.ref 150) = true := by
  have hfill := Mine.fillT w
  revert hfill
  k_fill
  intro hfill
  clear hfill
  change _ = _
  k_is
theorem cF_splitroot {w : World} {c : Cx} {env : Env} {σ : Sg} {x : Str} (ok : CxOk w c) (rm : Rm c 8) (hl : x.length ≤ 100000) (h1 : (Txt.slice x none (some 1) != Str.ofString "/") = false) (h2 : (Txt.slice x (some 1) (some 2) != Str.ofString "/") = true) :
    CallD w c env σ (.ref 150) [.d (.str x)] (.d (.tuple [.str (Str.ofString ""), .str (Str.ofString "/"), .str (Txt.slice x (some 1) none)])) := cD_fn ok (fn_splitroot w) rm ⟨x, rfl, rfl, hl, h1, h2⟩
theorem str_ne0 {x : Str} (h : (Txt.slice x none (some 1) != Str.ofString "/") = false) : x.length ≠ 0 := fun h0 => by
  have e : x = ⟨#[]⟩ := by
    obtain ⟨c⟩ := x
    exact congrArg Str.mk (Array.eq_empty_of_size_eq_zero h0)
  rw [e] at h
  exact absurd h (by decide)
theorem fn_normpath (w : World) : FnV w 171 12 (fun ds r => ∃ x, ds = [.d (.str x)] ∧ r = .d (.str (pNorm x)) ∧ x.length ≤ 100000 ∧ (Txt.slice x none (some 1) != Str.ofString "/") = false ∧ (Txt.slice x (some 1) (some 2) != Str.ofString "/") = true) := by
  have hfill := Mine.fillT w
  revert hfill
  k_fill
  intro hfill
  clear hfill
  refine' fnV_of [Str.ofString "path"] ?ho ?hcd ?hb ?hloc ?hnd ?hdb ?hlen (by decide) ?h ?hco ?hgen ?hk ?hcell
  case ho => k_is
  case hcd => k_is
  case hb => intro s vs hv; obtain _ | ⟨v1, _ | ⟨v2, _ | ⟨v3, _ | ⟨v4, _ | ⟨v5, vs⟩⟩⟩⟩⟩ := vs <;> first | (simp at hv; done) | exact BindsTo.of_eq rfl
  case hloc => decide
  case hnd => decide
  case hdb => decide
  case hco => rfl
  case hgen => rfl
  case hk => rfl
  case hcell => decide
  case hlen => rintro ds r ⟨x, rfl, _⟩; rfl
  rintro c L g ds r ok rm ⟨x, rfl, rfl, hl, h1, h2⟩
  have eo := envOk ok.k
  have hl2 : x.length ≤ 16000000 := by lia
  have hx0 := str_ne0 h1
  have hsw := np_len x hl
  have hy : (Txt.slice x (some 1) none).length ≤ 1000000 := Nat.le_trans (PyProof.Txt.length_slice_le _ _ _) (by lia)
  refine Does.body ?_
  generalize hσ0 : lkL _ = σ0
  have s1 : σ0 (Str.ofString "path") = some (.d (.str x)) := by subst hσ0; rfl
  have s2 : σ0 (Str.ofString "new_comps") = none := by subst hσ0; rfl
  clear hσ0
  refine d_cons (xD_assign ok (Mine.eD_callG2 (by assumption) (by walk_at "mEOK") (Mine.gF_fspath w) (Mine.gK_fspath w) (Mine.aD_cons (Mine.eD_name (by walk_at "mELK")) Mine.aD_nil) (cF_fspath (by assumption) (by walk_at "mROOM")))) ?_
  refine d_if ok (testX (Mine.tT_val (Mine.eD_callB2 (id := "isinstance") (by assumption) (by walk_at "mEOK") (Mine.gB_isinstance w) rfl (Mine.aD_cons (Mine.eD_name (by walk_at "mELK")) (Mine.aD_cons (Mine.eD_nameB (by assumption) (by walk_at "mEOK") (Mine.gB_bytes w) rfl) Mine.aD_nil)) Mine.cD_isiBytes) Mine.trB)) (fun h => (nomatch h)) (fun _ => ?_)
  refine d_cons (xD_assign ok Mine.eD_str) ?_
  refine d_cons (xD_assign ok Mine.eD_str) ?_
  refine d_cons (xD_assign ok Mine.eD_str) (d_nil ?_)
  refine d_if (bb := !((x.length : Int) != 0)) ok (testX (Mine.tT_not (Mine.tT_val (Mine.eD_name (by walk_at "mELK")) (Mine.trS (by walk_at "mEBOUND"))))) (fun h => absurd h (by simp [hx0])) (fun _ => d_nil ?_)
  refine d_cons (xD_unpack3 ok (Mine.eD_callG2 (by assumption) (by walk_at "mEOK") (Mine.gF_splitroot w) (Mine.gK_splitroot w) (Mine.aD_cons (Mine.eD_name (by walk_at "mELK")) Mine.aD_nil) (cF_splitroot (by assumption) (by walk_at "mROOM") hl h1 h2))) ?_
  unfold pNorm
  refine d_cons (xD_assign ok (Mine.eD_meth2 (Mine.eD_name (by walk_at "mELK")) Mine.mt_split (Mine.aD_cons (Mine.eD_name (by walk_at "mELK")) Mine.aD_nil) (Mine.cD_split (by decide) (by walk_at "mEBOUND")))) ?_
  generalize Txt.split (Txt.slice x (some 1) none) (Str.ofString "/") = ps at *
  have hpl := len_wt ps
  refine d_cons (xD_newlist ok ad_nil (by decide) (fun _ h => (nomatch h)) (hσ := by walk_at "mELK")) ?_
  refine d_forC (ds := ps.map .str) (fun i σ mu => (σ (Str.ofString "sep") = some (.d (.str (Str.ofString "/"))) ∧ σ (Str.ofString "dot") = some (.d (.str (Str.ofString "."))) ∧ σ (Str.ofString "dotdot") = some (.d (.str (Str.ofString ".."))) ∧ σ (Str.ofString "initial_slashes") = some (.d (.str (Str.ofString "/")))) ∧ mu = some (Str.ofString "new_comps", (npFold (ps.take i)).map .str)) ok (Mine.eD_name (by walk_at "mELK")) ⟨⟨by walk_at "mELK", by walk_at "mELK", by walk_at "mELK", by walk_at "mELK"⟩, rfl⟩ ?_ ?_ ?_
  · rintro i σ mu ⟨_, rfl⟩; exact MuNe.of (by decide)
  · rintro i d σ mu hi ⟨⟨q1, q2, q3, q4⟩, rfl⟩
    rw [List.getElem?_map] at hi
    obtain ⟨p, hp, rfl⟩ := Option.map_eq_some_iff.mp hi
    have hst : npFold (ps.take (i + 1)) = npStep (npFold (ps.take i)) p := take_fold npStep [] _ hp
    have hw := Nat.le_trans (wt_npFold _) (wt_take ps i)
    rw [hst]
    have hcl := len_wt (npFold (ps.take i))
    generalize npFold (ps.take i) = cs at *
    have hpw : p.length ≤ 16000000 := by have := mem_wt (List.mem_of_getElem? hp); lia
    have hfc : (cs.map Dat.str).length ≤ 1000000 := by rw [List.length_map]; lia
    have e1 : (Str.ofString "/").length ≤ 16000000 := by decide
    by_cases hA : p.length = 0 ∨ p = Str.ofString "."
    · refine d_if (bb := true) ok (testX (EvalT (Mine.tT_or (Mine.tT_not (Mine.tT_val (Mine.eD_name (by walk_at "mELK")) (Mine.trS (by walk_at "mEBOUND")))) (fun _ => (Mine.tT_or (Mine.tT_cmp (Mine.eD_name (by walk_at "mELK")) (Mine.eD_name (by walk_at "mELK")) Mine.tD_eqS) (fun _ => Mine.tT_or0)))) (by simpa using hA))) (fun _ => ?_) (fun h => (nomatch h))
      exact d_cont (show Nc _ (.cont _ _) from ⟨⟨by walk_at "mELK", by walk_at "mELK", by walk_at "mELK", by walk_at "mELK"⟩, by unfold npStep; rw [if_pos hA]⟩)
    · refine d_if (bb := false) ok (testX (EvalT (Mine.tT_or (Mine.tT_not (Mine.tT_val (Mine.eD_name (by walk_at "mELK")) (Mine.trS (by walk_at "mEBOUND")))) (fun _ => (Mine.tT_or (Mine.tT_cmp (Mine.eD_name (by walk_at "mELK")) (Mine.eD_name (by walk_at "mELK")) Mine.tD_eqS) (fun _ => Mine.tT_or0)))) (by simpa using hA))) (fun h => (nomatch h)) (fun _ => d_nil ?_)
      have e0 : ((Str.ofString "/").length : Int) = 1 := rfl
      have hA' : ¬ (p.length = 0 ∨ p = Str.ofString ".") := hA
      rcases hcs : cs.getLast? with _ | lst
      · have hnil : cs = [] := List.getLast?_eq_none_iff.mp hcs
        subst hnil
        refine d_if (bb := p != Str.ofString "..") ok (.inr ⟨_, _, rfl, by decide, EvalT (tT_or (Mine.tT_cmp (Mine.eD_name (by walk_at "mELK")) (Mine.eD_name (by walk_at "mELK")) Mine.tD_neS) (fun _ => tT_or (Mine.tT_and (Mine.tT_not (Mine.tT_val (Mine.eD_name (by walk_at "mELK")) (Mine.trS (by walk_at "mEBOUND")))) (fun _ => (Mine.tT_and (Mine.tT_not (Mine.tT_val (Mine.eD_name (by walk_at "mELK")) (Mine.trL (by walk_at "mEBOUND")))) (fun _ => Mine.tT_and0)))) (fun _ => tT_or (tT_and (b := false) (b' := false) (EvalT (Mine.tT_val (Mine.eD_name (by walk_at "mELK")) (Mine.trL (by walk_at "mEBOUND"))) rfl) (fun h => (nomatch h))) (fun _ => tT_or0)))) (by simp [e0])⟩) (fun h => ?_) (fun h => ?_)
        · refine d_cons (xD_append ok (eF_atom (Mine.eD_name (by walk_at "mELK")) rfl) hfc) (d_nil (d_nil (show Nc _ (.next _ _) from ⟨⟨by walk_at "mELK", by walk_at "mELK", by walk_at "mELK", by walk_at "mELK"⟩, ?_⟩)))
          unfold npStep; rw [if_neg hA, if_pos (by simpa using h)]; rfl
        · refine d_if (bb := false) ok (.inr ⟨_, _, rfl, by decide, EvalT (Mine.tT_val (Mine.eD_name (by walk_at "mELK")) (Mine.trL (by walk_at "mEBOUND"))) rfl⟩) (fun h => (nomatch h)) (fun _ => d_nil (d_nil (d_nil (show Nc _ (.next _ _) from ⟨⟨by walk_at "mELK", by walk_at "mELK", by walk_at "mELK", by walk_at "mELK"⟩, ?_⟩))))
          unfold npStep; rw [if_neg hA, if_neg (by simpa using h), if_pos rfl]
      · have hne : cs ≠ [] := by rintro rfl; cases hcs
        have hb : (!(cs.map Dat.str).isEmpty) = true := by cases cs <;> first | rfl | exact absurd rfl hne
        have hgl : (cs.map Dat.str).getLast? = some (Dat.str lst) := by rw [List.getLast?_map, hcs]; rfl
        refine d_if (bb := p != Str.ofString ".." || lst == Str.ofString "..") ok (.inr ⟨_, _, rfl, by decide, EvalT (tT_or (Mine.tT_cmp (Mine.eD_name (by walk_at "mELK")) (Mine.eD_name (by walk_at "mELK")) Mine.tD_neS) (fun _ => tT_or (Mine.tT_and (Mine.tT_not (Mine.tT_val (Mine.eD_name (by walk_at "mELK")) (Mine.trS (by walk_at "mEBOUND")))) (fun _ => (Mine.tT_and (Mine.tT_not (Mine.tT_val (Mine.eD_name (by walk_at "mELK")) (Mine.trL (by walk_at "mEBOUND")))) (fun _ => Mine.tT_and0)))) (fun _ => tT_or (tT_and (EvalT (Mine.tT_val (Mine.eD_name (by walk_at "mELK")) (Mine.trL (by walk_at "mEBOUND"))) hb) (fun _ => tT_and (Mine.tT_cmp (Mine.eD_sub (Mine.eD_name (by walk_at "mELK")) (Mine.eD_neg Mine.eD_int) (Mine.sD_last (by walk_at "mEGET"))) (Mine.eD_name (by walk_at "mELK")) Mine.tD_eqS) (fun _ => tT_and0))) (fun _ => tT_or0)))) (by simp [e0])⟩) (fun h => ?_) (fun h => ?_)
        · refine d_cons (xD_append ok (eF_atom (Mine.eD_name (by walk_at "mELK")) rfl) hfc) (d_nil (d_nil (show Nc _ (.next _ _) from ⟨⟨by walk_at "mELK", by walk_at "mELK", by walk_at "mELK", by walk_at "mELK"⟩, ?_⟩)))
          unfold npStep
          rw [if_neg hA]
          by_cases hp2 : p = Str.ofString ".."
          · rw [if_neg (fun q => q hp2), if_neg hne, if_pos (by rw [hcs]; simpa [hp2] using h), List.map_append]; rfl
          · rw [if_pos hp2, List.map_append]; rfl
        · rw [Bool.or_eq_false_iff] at h
          refine d_if (bb := true) ok (.inr ⟨_, _, rfl, by decide, EvalT (Mine.tT_val (Mine.eD_name (by walk_at "mELK")) (Mine.trL (by walk_at "mEBOUND"))) hb⟩) (fun _ => ?_) (fun h => (nomatch h))
          refine d_cons (xD_pop ok hgl hfc) (d_nil (d_nil (d_nil (show Nc _ (.next _ _) from ⟨⟨by walk_at "mELK", by walk_at "mELK", by walk_at "mELK", by walk_at "mELK"⟩, ?_⟩))))
          unfold npStep
          rw [if_neg hA, if_neg (by simpa using h.1), if_neg hne, if_neg (by rw [hcs]; simpa using h.2), List.map_dropLast]
  · rintro σ mu ⟨⟨q1, q2, q3, q4⟩, rfl⟩
    rw [List.length_map, List.take_length]
    have hw := wt_npFold ps
    show Does _ _ _ _ _ (Rt (.d (.str (Str.ofString "/" ++ Txt.join (Str.ofString "/") (npFold ps)))))
    generalize npFold ps = cs at *
    have hjl : (Txt.join (Str.ofString "/") cs).length ≤ 3200000 := Nat.le_trans (join_len _ _ (by decide)) (by lia)
    have e0 : (Str.ofString "/").length = 1 := rfl
    have hlen : (Str.ofString "/" ++ Txt.join (Str.ofString "/") cs).length = 1 + (Txt.join (Str.ofString "/") cs).length := Str.length_append ..
    refine d_cons (xD_rename ok rfl) ?_
    have r1 : drop1 σ (Str.ofString "comps") (Str.ofString "sep") = some (.d (.str (Str.ofString "/"))) := (if_neg (by decide)).trans q1
    have r4 : drop1 σ (Str.ofString "comps") (Str.ofString "initial_slashes") = some (.d (.str (Str.ofString "/"))) := (if_neg (by decide)).trans q4
    generalize drop1 σ (Str.ofString "comps") = σ2 at *
    refine d_cons (xD_assignM (a := .str (Str.ofString "/" ++ Txt.join (Str.ofString "/") cs)) ok rfl (eD_bin (Mine.eD_name (by walk_at "mELK")) (eD_meth2 (Mine.eD_name (by walk_at "mELK")) mt_join (aD_cons (Mine.eD_name (by walk_at "mELK")) aD_nil) (cD_join (by decide) (by lia))) (tD_addS (by lia))) rfl (by decide)) ?_
    exact d_ret (xD_return ok (eD_or (b := ((Str.ofString "/" ++ Txt.join (Str.ofString "/") cs).length : Int) != 0) (Mine.eD_name (by walk_at "mELK")) (trS (by lia)) (fun _ => rfl) (fun h => absurd h (by simp; lia)))) rfl
end Mine

namespace Mine
section
variable {w : World} {c : Cx} {env : Env} {σ : Sg}
theorem cF_normpath {x : Str} (ok : CxOk w c) (rm : Rm c 12) (h : Rooted x) : CallD w c env σ (.ref 171) [.d (.str x)] (.d (.str (pNorm x))) := cD_fn ok (fn_normpath w) rm ⟨x, rfl, rfl, h.1, h.2.1, h.2.2.1⟩
end
theorem fn_abspath (w : World) : FnV w 178 16 (fun ds r => ∃ x, ds = [.d (.str x)] ∧ r = .d (.str (pNorm x)) ∧ Rooted x) := by
  have hfill := Mine.fillT w
  revert hfill
  k_fill
  intro hfill
  clear hfill
  refine' fnV_of [Str.ofString "path"] ?ho ?hcd ?hb ?hloc ?hnd ?hdb ?hlen (by decide) ?h ?hco ?hgen ?hk ?hcell
  case ho => k_is
  case hcd => k_is
  case hb => intro s vs hv; obtain _ | ⟨v1, _ | ⟨v2, _ | ⟨v3, _ | ⟨v4, _ | ⟨v5, vs⟩⟩⟩⟩⟩ := vs <;> first | (simp at hv; done) | exact BindsTo.of_eq rfl
  case hloc => decide
  case hnd => decide
  case hdb => decide
  case hco => rfl
  case hgen => rfl
  case hk => rfl
  case hcell => decide
  case hlen => rintro ds r ⟨x, rfl, _⟩; rfl
  rintro c L g ds r ok rm ⟨x, rfl, rfl, hr⟩
  have eo := envOk ok.k
  refine Does.body ?_
  generalize hσ0 : lkL _ = σ0
  have s1 : σ0 (Str.ofString "path") = some (.d (.str x)) := by subst hσ0; rfl
  clear hσ0
  refine d_cons (xD_assign ok (Mine.eD_callG2 (by assumption) (by walk_at "mEOK") (Mine.gF_fspath w) (Mine.gK_fspath w) (Mine.aD_cons (Mine.eD_name (by walk_at "mELK")) Mine.aD_nil) (cF_fspath (by assumption) (by walk_at "mROOM")))) ?_
  refine d_if ok (testX (Mine.tT_val (Mine.eD_callB2 (id := "isinstance") (by assumption) (by walk_at "mEOK") (Mine.gB_isinstance w) rfl (Mine.aD_cons (Mine.eD_name (by walk_at "mELK")) (Mine.aD_cons (Mine.eD_nameB (by assumption) (by walk_at "mEOK") (Mine.gB_bytes w) rfl) Mine.aD_nil)) Mine.cD_isiBytes) Mine.trB)) (fun h => (nomatch h)) (fun _ => ?_)
  refine d_if (bb := false) ok (testX (tT_not (EvalT (tT_val (eD_meth2 (Mine.eD_name (by walk_at "mELK")) mt_startswith (aD_cons Mine.eD_str aD_nil) cD_startswith) trB) hr.2.2.2))) (fun h => (nomatch h)) (fun _ => d_nil (d_nil ?_))
  exact d_ret (xD_return ok (Mine.eD_callG2 (by assumption) (by walk_at "mEOK") (Mine.gF_normpath w) (Mine.gK_normpath w) (Mine.aD_cons (Mine.eD_name (by walk_at "mELK")) Mine.aD_nil) (cF_normpath (by assumption) (by walk_at "mROOM") hr))) rfl
theorem fn_straight (w : World) : FnV w 203 4 (fun ds r => ∃ x, ds = [.d (.str x)] ∧ r = .d (.list ((pStraight x).map .str)) ∧ x.length ≤ 100000) := by
  have hfill := Mine.fillT w
  revert hfill
  k_fill
  intro hfill
  clear hfill
  refine' fnV_of [Str.ofString "row"] ?ho ?hcd ?hb ?hloc ?hnd ?hdb ?hlen (by decide) ?h ?hco ?hgen ?hk ?hcell
  case ho => k_is
  case hcd => k_is
  case hb => intro s vs hv; obtain _ | ⟨v1, _ | ⟨v2, _ | ⟨v3, _ | ⟨v4, _ | ⟨v5, vs⟩⟩⟩⟩⟩ := vs <;> first | (simp at hv; done) | exact BindsTo.of_eq rfl
  case hloc => decide
  case hnd => decide
  case hdb => decide
  case hco => rfl
  case hgen => rfl
  case hk => rfl
  case hcell => decide
  case hlen => rintro ds r ⟨x, rfl, _⟩; rfl
  rintro c L g ds r ok rm ⟨x, rfl, rfl, hl⟩
  have eo := envOk ok.k
  have hx : x.length ≤ 1000000 := by lia
  have hsw : wt (Txt.split x (Str.ofString "/")) ≤ 100001 := Nat.le_trans (split_weight _ _ (by decide)) (Nat.succ_le_succ hl)
  have hsl := Nat.le_trans (len_wt _) hsw
  have hfs : ((Txt.split x (Str.ofString "/")).map Dat.str).length ≤ 1000000 := by rw [List.length_map]; lia
  refine Does.body ?_
  generalize hσ0 : lkL _ = σ0
  have s1 : σ0 (Str.ofString "row") = some (.d (.str x)) := by subst hσ0; rfl
  have s2 : σ0 (Str.ofString "kept") = none := by subst hσ0; rfl
  clear hσ0
  refine d_cons (xD_newlist ok ad_nil (by decide) (fun _ h => (nomatch h)) (hσ := by walk_at "mELK")) ?_
  refine d_cons (xD_assign ok Mine.eD_int rfl (MuNe.of (by decide))) ?_
  unfold pStraight
  rw [← List.length_reverse] at hsl
  refine d_for (ds := (Txt.split x (Str.ofString "/")).reverse.map .str) (fun i σ mu => σ (Str.ofString "debt") = some (.d (.int (stFold ((Txt.split x (Str.ofString "/")).reverse.take i)).2)) ∧ mu = some (Str.ofString "kept", (stFold ((Txt.split x (Str.ofString "/")).reverse.take i)).1.map .str)) ok (EvalD.to (eD_revL (Mine.eD_meth2 (Mine.eD_name (by walk_at "mELK")) Mine.mt_split (Mine.aD_cons Mine.eD_str Mine.aD_nil) (Mine.cD_split (by decide) (by walk_at "mEBOUND"))) (Mine.eD_neg Mine.eD_int) hfs) (by rw [List.map_reverse])) ⟨by walk_at "mELK", rfl⟩ ?_ ?_ ?_
  all_goals generalize (Txt.split x (Str.ofString "/")).reverse = ps at *
  · rintro i σ mu ⟨_, rfl⟩; exact MuNe.of (by decide)
  · rintro i d σ mu hi ⟨q1, rfl⟩
    rw [List.getElem?_map] at hi
    obtain ⟨p, hp, rfl⟩ := Option.map_eq_some_iff.mp hi
    have hst : stFold (ps.take (i + 1)) = stStep (stFold (ps.take i)) p := take_fold stStep ([], 0) _ hp
    have hw := st_len (ps.take i)
    rw [List.length_take] at hw
    rw [hst]
    generalize stFold (ps.take i) = st at *
    obtain ⟨ks, debt⟩ := st
    dsimp only at *
    have hfc : (ks.map Dat.str).length ≤ 1000000 := by rw [List.length_map]; lia
    unfold stStep
    by_cases h1 : p = Str.ofString ".."
    · rw [if_pos h1]
      refine d_if (bb := true) ok (testX (EvalT (Mine.tT_cmp (Mine.eD_name (by walk_at "mELK")) Mine.eD_str Mine.tD_eqS) (by simpa using h1))) (fun _ => ?_) (fun h => (nomatch h))
      exact d_cons (xD_assign ok (Mine.eD_bin (Mine.eD_name (by walk_at "mELK")) Mine.eD_int Mine.tD_addI) rfl (MuNe.of (by decide))) (d_nil (d_nil ⟨_, _, rfl, by walk_at "mELK", rfl⟩))
    · rw [if_neg h1]
      refine d_if (bb := false) ok (testX (EvalT (Mine.tT_cmp (Mine.eD_name (by walk_at "mELK")) Mine.eD_str Mine.tD_eqS) (by simpa using h1))) (fun h => (nomatch h)) (fun _ => ?_)
      by_cases h2 : p ≠ Str.ofString "" ∧ p ≠ Str.ofString "."
      · rw [if_pos h2]
        refine d_if (bb := true) ok (testX (EvalT (Mine.tT_and (Mine.tT_cmp (Mine.eD_name (by walk_at "mELK")) Mine.eD_str Mine.tD_neS) (fun _ => (Mine.tT_and (Mine.tT_cmp (Mine.eD_name (by walk_at "mELK")) Mine.eD_str Mine.tD_neS) (fun _ => Mine.tT_and0)))) (by simpa using h2))) (fun _ => ?_) (fun h => (nomatch h))
        by_cases h3 : debt ≠ 0
        · rw [if_pos h3]
          refine d_if (bb := true) ok (testX (EvalT (Mine.tT_val (Mine.eD_name (by walk_at "mELK")) Mine.trI) (by simpa using h3))) (fun _ => ?_) (fun h => (nomatch h))
          exact d_cons (xD_assign ok (Mine.eD_bin (Mine.eD_name (by walk_at "mELK")) Mine.eD_int Mine.tD_subI) rfl (MuNe.of (by decide))) (d_nil (d_nil (d_nil (d_nil ⟨_, _, rfl, by walk_at "mELK", rfl⟩))))
        · rw [if_neg h3]
          refine d_if (bb := false) ok (testX (EvalT (Mine.tT_val (Mine.eD_name (by walk_at "mELK")) Mine.trI) (by simpa using h3))) (fun h => (nomatch h)) (fun _ => ?_)
          exact d_cons (xD_append ok (eF_atom (Mine.eD_name (by walk_at "mELK")) rfl) hfc) (d_nil (d_nil (d_nil (d_nil ⟨_, _, rfl, by walk_at "mELK", by rw [List.map_append]; rfl⟩))))
      · rw [if_neg h2]
        refine d_if (bb := false) ok (testX (EvalT (Mine.tT_and (Mine.tT_cmp (Mine.eD_name (by walk_at "mELK")) Mine.eD_str Mine.tD_neS) (fun _ => (Mine.tT_and (Mine.tT_cmp (Mine.eD_name (by walk_at "mELK")) Mine.eD_str Mine.tD_neS) (fun _ => Mine.tT_and0)))) (by simpa using h2))) (fun h => (nomatch h)) (fun _ => d_nil (d_nil (d_nil ⟨_, _, rfl, by walk_at "mELK", rfl⟩)))
  · rintro σ mu ⟨q1, rfl⟩
    rw [List.length_map, List.take_length]
    have hw := st_len ps
    generalize stFold ps = st at *
    have hfc : (st.1.map Dat.str).length ≤ 1000000 := by rw [List.length_map]; lia
    exact d_ret (xD_returnX ok rfl (eD_revL (Mine.eD_name (by walk_at "mELK")) (Mine.eD_neg Mine.eD_int) hfc)) (by rw [List.map_reverse])
theorem fn_told (w : World) : FnV w 217 8 (fun ds r => ∃ (table : List Ent) (line col : Int) (word : Str), ds = [.d (.list (table.map encE)), .d (.int line), .d (.int col), .d (.str word)] ∧ r = .d (.tuple [.int (pTold table line col word).1, .int (pTold table line col word).2.1, .int (pTold table line col word).2.2]) ∧ table.length ≤ 100000 ∧ word.length ≤ 100000 ∧ ∀ e ∈ table, e.2.2.2.length ≤ 100000) := by
  have hfill := Mine.fillT w
  revert hfill
  k_fill
  intro hfill
  clear hfill
  refine' fnV_of [Str.ofString "table", Str.ofString "line", Str.ofString "col", Str.ofString "word"] ?ho ?hcd ?hb ?hloc ?hnd ?hdb ?hlen (by decide) ?h ?hco ?hgen ?hk ?hcell
  case ho => k_is
  case hcd => k_is
  case hb => intro s vs hv; obtain _ | ⟨v1, _ | ⟨v2, _ | ⟨v3, _ | ⟨v4, _ | ⟨v5, vs⟩⟩⟩⟩⟩ := vs <;> first | (simp at hv; done) | exact BindsTo.of_eq rfl
  case hloc => decide
  case hnd => decide
  case hdb => decide
  case hco => rfl
  case hgen => rfl
  case hk => rfl
  case hcell => decide
  case hlen => rintro ds r ⟨table, line, col, word, rfl, _⟩; rfl
  rintro c L g ds r ok rm ⟨table, line, col, word, rfl, rfl, hl, hwl, hnl⟩
  have eo := envOk ok.k
  refine Does.body ?_
  generalize hσ0 : lkL _ = σ0
  have s1 : σ0 (Str.ofString "table") = some (.d (.list (table.map encE))) := by subst hσ0; rfl
  have s2 : σ0 (Str.ofString "line") = some (.d (.int line)) := by subst hσ0; rfl
  have s3 : σ0 (Str.ofString "col") = some (.d (.int col)) := by subst hσ0; rfl
  have s4 : σ0 (Str.ofString "word") = some (.d (.str word)) := by subst hσ0; rfl
  clear hσ0
  refine d_cons (xD_assign ok (Mine.eD_tuple (ds := [_, _, _]) (Mine.ad_cons Mine.eD_int (Mine.ad_cons Mine.eD_int (Mine.ad_cons Mine.eD_int Mine.ad_nil))) (Nat.le_of_ble_eq_true rfl))) ?_
  refine d_for (ds := table.map encE) (fun i σ mu => (σ (Str.ofString "line") = some (.d (.int line)) ∧ σ (Str.ofString "col") = some (.d (.int col)) ∧ σ (Str.ofString "word") = some (.d (.str word)) ∧
    σ (Str.ofString "told") = some (.d (.tuple [.int (pTold (table.take i) line col word).1, .int (pTold (table.take i) line col word).2.1, .int (pTold (table.take i) line col word).2.2]))) ∧ mu = none) ok (Mine.eD_name (by walk_at "mELK")) ⟨⟨by walk_at "mELK", by walk_at "mELK", by walk_at "mELK", by show _ = some (Vl.d (.tuple [.int 0, .int 0, .int 0])); walk_at "mELK"⟩, rfl⟩ ?_ ?_ ?_
  · rintro i σ mu ⟨_, rfl⟩; exact fun _ _ h => (nomatch h)
  · rintro i d σ mu hi ⟨⟨q1, q2, q3, q4⟩, rfl⟩
    rw [List.getElem?_map] at hi
    obtain ⟨e, he, rfl⟩ := Option.map_eq_some_iff.mp hi
    have hst : pTold (table.take (i + 1)) line col word = toldStep line col word (pTold (table.take i) line col word) e := take_fold (toldStep line col word) (0, 0, 0) _ he
    rw [hst]
    generalize pTold (table.take i) line col word = told at *
    obtain ⟨el, eb, ee, en⟩ := e
    rw [show encE (el, eb, ee, en) = .tuple [.int el, .int eb, .int ee, .str en] from rfl]
    refine d_if (bb := decide (el < line ∨ el = line ∧ ee ≤ col) && ((word == Str.ofString "" || (en == word || false)) && true)) ok (testX (tT_and (tT_cmp (Mine.eD_tuple (ds := [_, _]) (Mine.ad_cons (Mine.eD_sub (Mine.eD_name (by walk_at "mELK")) Mine.eD_int (Mine.sD_titem (by walk_at "mEBOUND") (by walk_at "mEGET") (by walk_at "mEBOUND"))) (Mine.ad_cons (Mine.eD_sub (Mine.eD_name (by walk_at "mELK")) Mine.eD_int (Mine.sD_titem (by walk_at "mEBOUND") (by walk_at "mEGET") (by walk_at "mEBOUND"))) Mine.ad_nil)) (Nat.le_of_ble_eq_true rfl)) (Mine.eD_tuple (ds := [_, _]) (Mine.ad_cons (Mine.eD_name (by walk_at "mELK")) (Mine.ad_cons (Mine.eD_name (by walk_at "mELK")) Mine.ad_nil)) (Nat.le_of_ble_eq_true rfl)) (tD_leT (by walk_at "mROOM"))) (fun _ => tT_and (Mine.tT_or (Mine.tT_cmp (Mine.eD_name (by walk_at "mELK")) Mine.eD_str Mine.tD_eqS) (fun _ => (Mine.tT_or (Mine.tT_cmp (Mine.eD_sub (Mine.eD_name (by walk_at "mELK")) Mine.eD_int (Mine.sD_titem (by walk_at "mEBOUND") (by walk_at "mEGET") (by walk_at "mEBOUND"))) (Mine.eD_name (by walk_at "mELK")) Mine.tD_eqS) (fun _ => Mine.tT_or0)))) (fun _ => tT_and0)))) (fun h => ?_) (fun h => d_nil ?_)
    · refine d_cons (xD_assign ok (eD_sliceT3 (Mine.eD_name (by walk_at "mELK")) Mine.eD_int)) (d_nil (d_nil ⟨_, _, rfl, ⟨by walk_at "mELK", by walk_at "mELK", by walk_at "mELK", ?_⟩, rfl⟩))
      rw [show toldStep line col word told (el, eb, ee, en) = (el, eb, ee) from if_pos (by simpa using h)]
      walk_at "mELK"
    · refine d_nil ⟨_, _, rfl, ⟨by walk_at "mELK", by walk_at "mELK", by walk_at "mELK", ?_⟩, rfl⟩
      rw [show toldStep line col word told (el, eb, ee, en) = told from if_neg (fun q => Bool.false_ne_true (h.symm.trans (by simpa using q)))]
      walk_at "mELK"
  · rintro σ mu ⟨⟨q1, q2, q3, q4⟩, rfl⟩
    rw [List.length_map, List.take_length] at q4
    exact d_ret (xD_return ok (Mine.eD_name (by walk_at "mELK"))) rfl
end Mine

namespace Mine
noncomputable def cp : List Str → List Str → List Str
  | x :: xs, y :: ys => if x = y then x :: cp xs ys else []
  | _, _ => []
theorem cp_comm : ∀ xs ys, cp xs ys = cp ys xs := by
  intro xs
  induction xs with
  | nil => intro ys; cases ys <;> rfl
  | cons x xs ih =>
    intro ys
    cases ys with
    | nil => rfl
    | cons y ys =>
      unfold cp
      by_cases h : x = y
      · subst h
        rw [if_pos rfl, if_pos rfl, ih]
      · rw [if_neg h, if_neg (Ne.symm h)]
theorem cp_stop : ∀ (i : Nat) (xs ys : List Str), xs.take i = ys.take i → (∀ x y, xs[i]? = some x → ys[i]? = some y → x ≠ y) → i < xs.length → i < ys.length → cp xs ys = xs.take i := by
  intro i
  induction i with
  | zero =>
    intro xs ys _ hn h1 h2
    cases xs with
    | nil => exact absurd h1 (Nat.lt_irrefl 0)
    | cons x xs =>
      cases ys with
      | nil => exact absurd h2 (Nat.lt_irrefl 0)
      | cons y ys =>
        unfold cp
        rw [if_neg (hn x y rfl rfl)]; rfl
  | succ i ih =>
    intro xs ys ht hn h1 h2
    cases xs with
    | nil => exact absurd h1 (Nat.not_lt_zero _)
    | cons x xs =>
      cases ys with
      | nil => exact absurd h2 (Nat.not_lt_zero _)
      | cons y ys =>
        simp only [List.take_succ_cons, List.cons.injEq] at ht
        unfold cp
        rw [if_pos ht.1, List.take_succ_cons, ih xs ys ht.2 (fun a b ha hb => hn a b (by simpa using ha) (by simpa using hb)) (Nat.lt_of_succ_lt_succ h1) (Nat.lt_of_succ_lt_succ h2)]
theorem cp_all : ∀ (xs ys : List Str), xs = ys.take xs.length → cp xs ys = xs := by
  intro xs
  induction xs with
  | nil => intro ys _; cases ys <;> rfl
  | cons x xs ih =>
    intro ys h
    cases ys with
    | nil => cases h
    | cons y ys =>
      simp only [List.length_cons, List.take_succ_cons, List.cons.injEq] at h
      unfold cp
      rw [if_pos h.1, ih ys h.2]
theorem gt_lt : ∀ xs ys, gtL xs ys = ltL ys xs := by
  intro xs
  induction xs with
  | nil => intro ys; cases ys <;> rfl
  | cons x xs ih =>
    intro ys
    cases ys with
    | nil => simp [gtL, ltL]
    | cons y ys =>
      unfold gtL ltL
      by_cases h : x = y
      · subst h; rw [if_pos rfl, if_pos rfl, ih]
      · rw [if_neg h, if_neg (Ne.symm h)]
theorem nlt_nat (a b : List Nat) (h1 : ¬ a < b) (h2 : ¬ b < a) : a = b := by
  have := List.le_antisymm (Std.not_lt.mp h2) (Std.not_lt.mp h1)
  exact this
theorem le_ok : ∀ (i : Nat) (xs ys : List Str), ltL ys xs = false → i < xs.length → xs.take i = ys.take i → i < ys.length := by
  intro i
  induction i with
  | zero =>
    intro xs ys h h1 _
    cases ys with
    | nil =>
      unfold ltL at h
      simp at h
      rw [h] at h1; exact absurd h1 (Nat.lt_irrefl 0)
    | cons y ys => exact Nat.succ_pos _
  | succ i ih =>
    intro xs ys h h1 ht
    cases xs with
    | nil => exact absurd h1 (Nat.not_lt_zero _)
    | cons x xs =>
      cases ys with
      | nil => simp at ht
      | cons y ys =>
        simp only [List.take_succ_cons, List.cons.injEq] at ht
        unfold ltL at h
        rw [if_pos ht.1.symm] at h
        exact Nat.succ_lt_succ (ih xs ys h (Nat.lt_of_succ_lt_succ h1) ht.2)
theorem lt_asym : ∀ xs ys, ltL xs ys = true → ltL ys xs = false := by
  intro xs
  induction xs with
  | nil => intro ys h; cases ys <;> simp [ltL] at h ⊢
  | cons x xs ih =>
    intro ys h
    cases ys with
    | nil => simp [ltL] at h
    | cons y ys =>
      unfold ltL at h ⊢
      by_cases hxy : x = y
      · subst hxy
        rw [if_pos rfl] at h ⊢
        exact ih ys h
      · rw [if_neg hxy] at h
        rw [if_neg (Ne.symm hxy)]
        have := of_decide_eq_true h
        exact decide_eq_false (fun h2 => absurd this (List.lt_asymm h2))
/-- the lesser and the greater of two -/
theorem two_ok (xs ys : List Str) : ∃ s1 s2, (if ltL ys xs then ys.map Dat.str else xs.map Dat.str) = s1.map Dat.str ∧ (if gtL ys xs then ys.map Dat.str else xs.map Dat.str) = s2.map Dat.str ∧ ltL s2 s1 = false ∧ cp s1 s2 = cp xs ys ∧ (∀ x ∈ s1, x ∈ xs ∨ x ∈ ys) ∧ s1.length ≤ xs.length + ys.length ∧ s2.length ≤ xs.length + ys.length := by
  rw [gt_lt]
  by_cases h : ltL ys xs = true
  · have h2 := lt_asym _ _ h
    refine ⟨ys, xs, if_pos h, by rw [h2]; exact if_neg Bool.false_ne_true, h2, cp_comm _ _, fun x hx => .inr hx, by lia, by lia⟩
  · have h' : ltL ys xs = false := by simpa using h
    by_cases h2 : ltL xs ys = true
    · exact ⟨xs, ys, if_neg h, if_pos h2, h', rfl, fun x hx => .inl hx, by lia, by lia⟩
    · refine ⟨xs, xs, if_neg h, if_neg h2, ?_, ?_, fun x hx => .inl hx, by lia, by lia⟩
      · by_cases h3 : ltL xs xs = true
        · exact absurd h3 (by rw [lt_asym _ _ h3]; decide)
        · simpa using h3
      · have e : xs = ys := by
          have h2' : ltL xs ys = false := by simpa using h2
          clear h h2
          induction xs generalizing ys with
          | nil =>
            cases ys with
            | nil => rfl
            | cons y ys => simp [ltL] at h2'
          | cons x xs ih =>
            cases ys with
            | nil => simp [ltL] at h'
            | cons y ys =>
              unfold ltL at h' h2'
              by_cases hxy : x = y
              · subst hxy
                rw [if_pos rfl] at h' h2'
                rw [ih ys h' h2']
              · rw [if_neg hxy] at h2'
                rw [if_neg (Ne.symm hxy)] at h'
                exact absurd (ch_ext' (nlt_nat _ _ (of_decide_eq_false h2') (of_decide_eq_false h'))) hxy
        rw [← e]
where
  ch_ext' {x y : Str} (h : x.cps.toList = y.cps.toList) : x = y := by
    cases x; cases y
    simp only at h
    congr 1
    exact Array.toList_inj.mp h
theorem fn_cprefix (w : World) : FnV w 115 4 (fun ds r => ∃ (xs ys : List Str), ds = [.d (.list [.list (xs.map .str), .list (ys.map .str)])] ∧ r = .d (.list ((cp xs ys).map .str)) ∧ xs.length ≤ 1000 ∧ ys.length ≤ 1000) := by
  have hfill := Mine.fillT w
  revert hfill
  k_fill
  intro hfill
  clear hfill
  refine' fnV_of [Str.ofString "m"] ?ho ?hcd ?hb ?hloc ?hnd ?hdb ?hlen (by decide) ?h ?hco ?hgen ?hk ?hcell
  case ho => k_is
  case hcd => k_is
  case hb => intro s vs hv; obtain _ | ⟨v1, _ | ⟨v2, _ | ⟨v3, _ | ⟨v4, _ | ⟨v5, vs⟩⟩⟩⟩⟩ := vs <;> first | (simp at hv; done) | exact BindsTo.of_eq rfl
  case hloc => decide
  case hnd => decide
  case hdb => decide
  case hco => rfl
  case hgen => rfl
  case hk => rfl
  case hcell => decide
  case hlen => rintro ds r ⟨xs, ys, rfl, _⟩; rfl
  rintro c L g ds r ok rm ⟨xs, ys, rfl, rfl, hx, hy⟩
  have eo := envOk ok.k
  refine Does.body ?_
  generalize hσ0 : lkL _ = σ0
  have s1 : σ0 (Str.ofString "m") = some (.d (.list [.list (xs.map .str), .list (ys.map .str)])) := by subst hσ0; rfl
  clear hσ0
  obtain ⟨a, b, e1, e2, e3, e4, e5, e6, e7⟩ := two_ok xs ys
  refine d_if ok (testX (Mine.tT_not (Mine.tT_val (Mine.eD_name (by walk_at "mELK")) (Mine.trL (by walk_at "mEBOUND"))))) (fun h => absurd h (by simp)) (fun _ => d_nil ?_)
  refine d_if ok (testX (tT_not (tT_val (eD_callB2 (id := "isinstance") ok eo (gB_isinstance w) rfl (aD_cons (Mine.eD_sub (Mine.eD_name (by walk_at "mELK")) Mine.eD_int (Mine.sD_item (by walk_at "mEBOUND") (by walk_at "mEGET") (by walk_at "mEBOUND"))) (aD_cons (eD_tupT (vs := [.type "list", .type "tuple"]) (aD_cons (eD_nameB ok eo (gB_list w) rfl) (aD_cons (eD_nameB ok eo (gB_tuple w) rfl) aD_nil)) (Nat.le_of_ble_eq_true rfl)) aD_nil)) cD_isiList) trB))) (fun h => (nomatch h)) (fun _ => d_nil ?_)
  refine d_cons (xD_assign (d := .d (.list (a.map .str))) ok (e1 ▸ (Mine.eD_callB2 (id := "min") (by assumption) (by walk_at "mEOK") (Mine.gB_min w) rfl (Mine.aD_cons (Mine.eD_name (by walk_at "mELK")) Mine.aD_nil) (Mine.cD_min2 (by walk_at "mROOM"))))) ?_
  refine d_cons (xD_assign (d := .d (.list (b.map .str))) ok (e2 ▸ (Mine.eD_callB2 (id := "max") (by assumption) (by walk_at "mEOK") (Mine.gB_max w) rfl (Mine.aD_cons (Mine.eD_name (by walk_at "mELK")) Mine.aD_nil) (Mine.cD_max2 (by walk_at "mROOM"))))) ?_
  have hal : (a.map Dat.str).length ≤ 1000000 := by rw [List.length_map]; lia
  refine d_forE (ds := a.map .str) (fun i σ => σ (Str.ofString "s1") = some (.d (.list (a.map .str))) ∧ σ (Str.ofString "s2") = some (.d (.list (b.map .str))) ∧ a.take i = b.take i) ok eo (Mine.eD_name (by walk_at "mELK")) ⟨by walk_at "mELK", by walk_at "mELK", rfl⟩ ?_ ?_
  · rintro i d σ hi ⟨q1, q2, q3⟩
    rw [List.getElem?_map] at hi
    obtain ⟨x, hix, rfl⟩ := Option.map_eq_some_iff.mp hi
    have hil := (List.getElem?_eq_some_iff.mp hix).1
    have hbl := le_ok i a b e3 hil q3
    have hget : (b.map Dat.str)[((i : Nat) : Int).toNat]? = some (.str b[i]) := by
      rw [show ((i : Nat) : Int).toNat = i by lia, List.getElem?_map, List.getElem?_eq_getElem hbl]; rfl
    have hbl2 : (b.map Dat.str).length ≤ 1000000 := by rw [List.length_map]; lia
    refine d_if (bb := (x != b[i])) ok (testX (Mine.tT_cmp (Mine.eD_name (by walk_at "mELK")) (Mine.eD_sub (Mine.eD_name (by walk_at "mELK")) (Mine.eD_name (by walk_at "mELK")) (Mine.sD_item (by walk_at "mEBOUND") (by walk_at "mEGET") (by walk_at "mEBOUND"))) Mine.tD_neS)) (fun h => ?_) (fun h => d_nil ?_)
    · have hne : x ≠ b[i] := by simpa using h
      refine d_ret (xD_return ok (Mine.eD_sliceL_ns (Mine.eD_name (by walk_at "mELK")) (Mine.eD_name (by walk_at "mELK")) (by walk_at "mEBOUND") (by walk_at "mEBOUND"))) (.inr (.inr ⟨_, rfl, ?_⟩))
      rw [← e4, cp_stop i a b q3 (fun u v hu hv => by
        rw [hix] at hu; cases hu
        rw [List.getElem?_eq_getElem hbl] at hv; cases hv
        exact hne) hil hbl]
      rw [show ((i : Nat) : Int).toNat = i by lia, List.map_take]
    · have heq : x = b[i] := by simpa using h
      refine d_nil (.inl ⟨_, rfl, by walk_at "mELK", by walk_at "mELK", ?_⟩)
      rw [take_get hix, q3, List.take_add_one, List.getElem?_eq_getElem hbl, heq]; rfl
  · rintro σ ⟨q1, q2, q3⟩
    refine d_ret (xD_return ok (Mine.eD_name (by walk_at "mELK"))) ?_
    rw [List.length_map, List.take_of_length_le (Nat.le_refl _)] at q3
    rw [← e4, cp_all a b q3]
end Mine

namespace Mine
theorem pNorm_len {x : Str} (h : x.length ≤ 100000) : (pNorm x).length ≤ 100002 := by
  unfold pNorm
  rw [Str.length_append]
  have e : Txt.join (Str.ofString "/") (npFold (Txt.split (Txt.slice x (some 1) none) (Str.ofString "/"))) = Str.join (Str.ofString "/") (npFold (Txt.split (Txt.slice x (some 1) none) (Str.ofString "/"))) := StrLaws.glued_eq_join _ _
  have h1 := StrLaws.join_length_le (Str.ofString "/") (npFold (Txt.split (Txt.slice x (some 1) none) (Str.ofString "/")))
  have h2 := wt_npFold (Txt.split (Txt.slice x (some 1) none) (Str.ofString "/"))
  have h3 : wt (Txt.split (Txt.slice x (some 1) none) (Str.ofString "/")) ≤ 100001 := Nat.le_trans (split_weight _ _ (by decide)) (Nat.succ_le_succ (Nat.le_trans (PyProof.Txt.length_slice_le _ _ _) h))
  have h4 : (Str.ofString "/").length = 1 := by decide
  rw [e]
  rw [h4, Nat.mul_one] at h1
  unfold wt at h2 h3
  lia
noncomputable def tailList (z : Str) : List Str := if (Txt.lstripChars z (Str.ofString "/")).length = 0 then [] else Txt.split (Txt.lstripChars z (Str.ofString "/")) (Str.ofString "/")
noncomputable def relOf (sl pl : List Str) : List Str := List.replicate (sl.length - (cp sl pl).length) (Str.ofString "..") ++ pl.drop (cp sl pl).length
noncomputable def pRel (x y : Str) : Str := if relOf (tailList (pNorm y)) (tailList (pNorm x)) = [] then Str.ofString "." else Txt.join (Str.ofString "/") (relOf (tailList (pNorm y)) (tailList (pNorm x)))
theorem cp_len : ∀ xs ys, (cp xs ys).length ≤ xs.length ∧ (cp xs ys).length ≤ ys.length := by
  intro xs
  induction xs with
  | nil => intro ys; cases ys <;> exact ⟨Nat.le_refl _, Nat.zero_le _⟩
  | cons x xs ih =>
    intro ys
    cases ys with
    | nil => exact ⟨Nat.zero_le _, Nat.le_refl _⟩
    | cons y ys =>
      unfold cp
      have := ih ys
      split
      · exact ⟨Nat.succ_le_succ this.1, Nat.succ_le_succ this.2⟩
      · exact ⟨Nat.zero_le _, Nat.zero_le _⟩
theorem rep_flat {α : Type} (d : α) : ∀ k, (List.replicate k [d]).flatten = List.replicate k d := by
  intro k
  induction k with
  | zero => rfl
  | succ k ih => rw [List.replicate_succ, List.flatten_cons, ih, List.replicate_succ]; rfl
section
variable {w : World} {c : Cx} {env : Env} {σ : Sg}
theorem cF_abspath {x : Str} (ok : CxOk w c) (rm : Rm c 16) (h : Rooted x) : CallD w c env σ (.ref 178) [.d (.str x)] (.d (.str (pNorm x))) := cD_fn ok (fn_abspath w) rm ⟨x, rfl, rfl, h⟩
theorem cF_cprefix {xs ys : List Str} (ok : CxOk w c) (rm : Rm c 4) (hx : xs.length ≤ 1000) (hy : ys.length ≤ 1000) : CallD w c env σ (.ref 115) [.d (.list [.list (xs.map .str), .list (ys.map .str)])] (.d (.list ((cp xs ys).map .str))) := cD_fn ok (fn_cprefix w) rm ⟨xs, ys, rfl, rfl, hx, hy⟩
end
theorem in_relpath {w : World} {c : Cx} {x y : Str} (ok : CxOk w c) (rm : Rm c 20) (hx : Rooted x) (hy : Rooted y) (hxl : (tailList (pNorm x)).length ≤ 200) (hyl : (tailList (pNorm y)).length ≤ 200) (hw : wt (relOf (tailList (pNorm y)) (tailList (pNorm x))) ≤ 200000) : CallIn w c 186 [.d (.str x), .d (.str y)] (.d (.str (pRel x y))) := by
  have hfill := Mine.fillT w
  revert hfill
  k_fill
  intro hfill
  clear hfill
  refine' enterC [Str.ofString "path", Str.ofString "start"] [] ?ho ?hcd ?hb ?hloc ?hnd ?hdb ?hcl ?hcn ?hlen ?hn ?ok ?rm ?h ?hco ?hgen ?hk
  case ok => assumption
  case rm => assumption
  case hn => decide
  case ho => k_is
  case hcd => k_is
  case hb => intro s vs hX hv; obtain _ | ⟨v1, _ | ⟨v2, _ | ⟨v3, _ | ⟨v4, _ | ⟨v5, vs⟩⟩⟩⟩⟩ := vs <;> first | (simp at hv; done) | exact BindsTo.of_eq rfl | exact binds_K hX rfl (by k_is) rfl rfl rfl
  case hloc => decide
  case hnd => decide
  case hdb => decide
  case hcl => intro k; rfl
  case hcn => decide
  case hco => rfl
  case hgen => rfl
  case hk => rfl
  case hlen => rfl
  intro L g ok rm keep
  have eo := envOk ok.k
  refine Does.body ?_
  generalize hσ0 : lkL _ = σ0
  have s1 : σ0 (Str.ofString "path") = some (.d (.str x)) := by subst hσ0; rfl
  have s2 : σ0 (Str.ofString "start") = some (.d (.str y)) := by subst hσ0; rfl
  clear hσ0
  have hx1 := hx.1
  have hy1 := hy.1
  have hxs : x.length ≤ 16000000 := by lia
  have hx0 : x.length ≠ 0 := by
    intro h0
    have e : x = ⟨#[]⟩ := by
      obtain ⟨c⟩ := x
      exact congrArg Str.mk (Array.eq_empty_of_size_eq_zero h0)
    have := hx.2.1
    rw [e] at this
    revert this
    decide
  have hpx := pNorm_len hx1
  have hpy := pNorm_len hy1
  have hpx2 : (pNorm x).length ≤ 1000000 := by lia
  have hpy2 : (pNorm y).length ≤ 1000000 := by lia
  refine d_cons (xD_assign ok (Mine.eD_callG2 (by assumption) (by walk_at "mEOK") (Mine.gF_fspath w) (Mine.gK_fspath w) (Mine.aD_cons (Mine.eD_name (by walk_at "mELK")) Mine.aD_nil) (cF_fspath (by assumption) (by walk_at "mROOM")))) ?_
  refine d_if (bb := !((x.length : Int) != 0)) ok (testX (Mine.tT_not (Mine.tT_val (Mine.eD_name (by walk_at "mELK")) (Mine.trS (by walk_at "mEBOUND"))))) (fun h => absurd h (by simp [hx0])) (fun _ => d_nil ?_)
  refine d_if ok (testX (Mine.tT_val (Mine.eD_callB2 (id := "isinstance") (by assumption) (by walk_at "mEOK") (Mine.gB_isinstance w) rfl (Mine.aD_cons (Mine.eD_name (by walk_at "mELK")) (Mine.aD_cons (Mine.eD_nameB (by assumption) (by walk_at "mEOK") (Mine.gB_bytes w) rfl) Mine.aD_nil)) Mine.cD_isiBytes) Mine.trB)) (fun h => (nomatch h)) (fun _ => ?_)
  refine d_cons (xD_assign ok Mine.eD_str) ?_
  refine d_cons (xD_assign ok Mine.eD_str) ?_
  refine d_cons (xD_assign ok Mine.eD_str) (d_nil ?_)
  refine d_if ok (testX (Mine.tT_cmp (Mine.eD_name (by walk_at "mELK")) Mine.eD_none Mine.tD_isNS)) (fun h => (nomatch h)) (fun _ => ?_)
  refine d_cons (xD_assign ok (Mine.eD_callG2 (by assumption) (by walk_at "mEOK") (Mine.gF_fspath w) (Mine.gK_fspath w) (Mine.aD_cons (Mine.eD_name (by walk_at "mELK")) Mine.aD_nil) (cF_fspath (by assumption) (by walk_at "mROOM")))) (d_nil ?_)
  refine d_try ?_
  refine d_cons (xD_assign ok (Mine.eD_meth2 (Mine.eD_callG2 (by assumption) (by walk_at "mEOK") (Mine.gF_abspath w) (Mine.gK_abspath w) (Mine.aD_cons (Mine.eD_name (by walk_at "mELK")) Mine.aD_nil) (cF_abspath (by assumption) (by walk_at "mROOM") hy)) Mine.mt_lstrip (Mine.aD_cons (Mine.eD_name (by walk_at "mELK")) Mine.aD_nil) (Mine.cD_lstrip (by walk_at "mEBOUND")))) ?_
  refine d_cons (xD_assign ok (Mine.eD_meth2 (Mine.eD_callG2 (by assumption) (by walk_at "mEOK") (Mine.gF_abspath w) (Mine.gK_abspath w) (Mine.aD_cons (Mine.eD_name (by walk_at "mELK")) Mine.aD_nil) (cF_abspath (by assumption) (by walk_at "mROOM") hx)) Mine.mt_lstrip (Mine.aD_cons (Mine.eD_name (by walk_at "mELK")) Mine.aD_nil) (Mine.cD_lstrip (by walk_at "mEBOUND")))) ?_
  have tail : ∀ z : Str, z.length ≤ 1000000 → (Txt.lstripChars z (Str.ofString "/")).length ≤ 1000000 := fun z h => by
    have := len_lstripChars z (Str.ofString "/")
    lia
  have t1 := tail _ hpy2
  have t2 := tail _ hpx2
  have t3 : (Txt.lstripChars (pNorm y) (Str.ofString "/")).length ≤ 16000000 := by lia
  have t4 : (Txt.lstripChars (pNorm x) (Str.ofString "/")).length ≤ 16000000 := by lia
  refine d_cons (xD_assign (d := .d (.list ((tailList (pNorm y)).map .str))) ok (eD_if (b := ((Txt.lstripChars (pNorm y) (Str.ofString "/")).length : Int) != 0) (Mine.tT_val (Mine.eD_name (by walk_at "mELK")) (Mine.trS (by walk_at "mEBOUND"))) (fun h => by
    have h0 : ¬ (Txt.lstripChars (pNorm y) (Str.ofString "/")).length = 0 := by simpa using h
    unfold tailList
    rw [if_neg h0]
    exact (Mine.eD_meth2 (Mine.eD_name (by walk_at "mELK")) Mine.mt_split (Mine.aD_cons (Mine.eD_name (by walk_at "mELK")) Mine.aD_nil) (Mine.cD_split (by decide) (by walk_at "mEBOUND")))) (fun h => by
    have h0 : (Txt.lstripChars (pNorm y) (Str.ofString "/")).length = 0 := by simpa using h
    unfold tailList
    rw [if_pos h0]
    exact (Mine.eD_list (ds := []) Mine.ad_nil (Nat.le_of_ble_eq_true rfl))))) ?_
  refine d_cons (xD_assign (d := .d (.list ((tailList (pNorm x)).map .str))) ok (eD_if (b := ((Txt.lstripChars (pNorm x) (Str.ofString "/")).length : Int) != 0) (Mine.tT_val (Mine.eD_name (by walk_at "mELK")) (Mine.trS (by walk_at "mEBOUND"))) (fun h => by
    have h0 : ¬ (Txt.lstripChars (pNorm x) (Str.ofString "/")).length = 0 := by simpa using h
    unfold tailList
    rw [if_neg h0]
    exact (Mine.eD_meth2 (Mine.eD_name (by walk_at "mELK")) Mine.mt_split (Mine.aD_cons (Mine.eD_name (by walk_at "mELK")) Mine.aD_nil) (Mine.cD_split (by decide) (by walk_at "mEBOUND")))) (fun h => by
    have h0 : (Txt.lstripChars (pNorm x) (Str.ofString "/")).length = 0 := by simpa using h
    unfold tailList
    rw [if_pos h0]
    exact (Mine.eD_list (ds := []) Mine.ad_nil (Nat.le_of_ble_eq_true rfl))))) ?_
  unfold pRel
  generalize tailList (pNorm y) = sl at *
  generalize tailList (pNorm x) = pl at *
  have hcp := cp_len sl pl
  have hb1 : ((cp sl pl).map Dat.str).length ≤ 16000000 := by rw [List.length_map]; lia
  have hb2 : (sl.map Dat.str).length ≤ 16000000 := by rw [List.length_map]; lia
  have hb3 : (pl.map Dat.str).length ≤ 1000000 := by rw [List.length_map]; lia
  refine d_cons (xD_assign ok (Mine.eD_callB2 (id := "len") (by assumption) (by walk_at "mEOK") (Mine.gB_len w) rfl (Mine.aD_cons (Mine.eD_callG2 (by assumption) (by walk_at "mEOK") (Mine.gF_commonprefix w) (Mine.gK_commonprefix w) (Mine.aD_cons (Mine.eD_list (ds := [_, _]) (Mine.ad_cons (Mine.eD_name (by walk_at "mELK")) (Mine.ad_cons (Mine.eD_name (by walk_at "mELK")) Mine.ad_nil)) (Nat.le_of_ble_eq_true rfl)) Mine.aD_nil) (cF_cprefix (by assumption) (by walk_at "mROOM") (by lia) (by lia))) Mine.aD_nil) (Mine.cD_len (by walk_at "mEBOUND")))) ?_
  have hn : (((sl.map Dat.str).length : Int) - (((cp sl pl).map Dat.str).length : Int)).toNat = sl.length - (cp sl pl).length := by rw [List.length_map, List.length_map]; lia
  have hrep : (List.replicate (((sl.map Dat.str).length : Int) - (((cp sl pl).map Dat.str).length : Int)).toNat [Dat.str (Str.ofString "..")]).flatten ++ (pl.map Dat.str).drop (((cp sl pl).map Dat.str).length : Int).toNat = (relOf sl pl).map Dat.str := by
    rw [hn, rep_flat]
    unfold relOf
    rw [List.map_append, List.map_replicate, List.map_drop, List.length_map]
    rfl
  have hm1 : [Dat.str (Str.ofString "..")].length * (((sl.map Dat.str).length : Int) - (((cp sl pl).map Dat.str).length : Int)).toNat ≤ 256 := by rw [hn]; show 1 * _ ≤ 256; lia
  have hm2 : (-1000000 : Int) ≤ ((sl.map Dat.str).length : Int) - (((cp sl pl).map Dat.str).length : Int) := by rw [List.length_map, List.length_map]; lia
  have hm3 : ((sl.map Dat.str).length : Int) - (((cp sl pl).map Dat.str).length : Int) ≤ 1000000 := by rw [List.length_map, List.length_map]; lia
  have hm4 : (List.replicate (((sl.map Dat.str).length : Int) - (((cp sl pl).map Dat.str).length : Int)).toNat [Dat.str (Str.ofString "..")]).flatten.length ≤ 1000000 := by rw [hn, rep_flat, List.length_replicate]; lia
  have hm5 : ((pl.map Dat.str).drop (((cp sl pl).map Dat.str).length : Int).toNat).length ≤ 1000000 := by rw [List.length_drop, List.length_map]; lia
  refine d_cons (xD_assign (d := .d (.list ((relOf sl pl).map .str))) ok (by
    rw [← hrep]
    exact eD_bin (eD_bin (Mine.eD_list (ds := [_]) (Mine.ad_cons (Mine.eD_name (by walk_at "mELK")) Mine.ad_nil) (Nat.le_of_ble_eq_true rfl)) (Mine.eD_bin (Mine.eD_callB2 (id := "len") (by assumption) (by walk_at "mEOK") (Mine.gB_len w) rfl (Mine.aD_cons (Mine.eD_name (by walk_at "mELK")) Mine.aD_nil) (Mine.cD_len (by walk_at "mEBOUND"))) (Mine.eD_name (by walk_at "mELK")) Mine.tD_subI) (tD_mulL hm1 hm2 hm3)) (eD_sliceL_sn (Mine.eD_name (by walk_at "mELK")) (Mine.eD_name (by walk_at "mELK")) (by lia) hb3) (tD_addL hm4 hm5))) ?_
  have hrl : ((relOf sl pl).map Dat.str).length ≤ 1000000 := by
    unfold relOf
    rw [List.length_map, List.length_append, List.length_replicate, List.length_drop]; lia
  by_cases hr : relOf sl pl = []
  · rw [if_pos hr]
    refine d_if (bb := !(!((relOf sl pl).map Dat.str).isEmpty)) ok (testX (Mine.tT_not (Mine.tT_val (Mine.eD_name (by walk_at "mELK")) (Mine.trL (by walk_at "mEBOUND"))))) (fun _ => d_ret (xD_return ok (Mine.eD_name (by walk_at "mELK"))) rfl) (fun h => absurd h (by rw [hr]; decide))
  · rw [if_neg hr]
    refine d_if (bb := !(!((relOf sl pl).map Dat.str).isEmpty)) ok (testX (Mine.tT_not (Mine.tT_val (Mine.eD_name (by walk_at "mELK")) (Mine.trL (by walk_at "mEBOUND"))))) (fun h => absurd h (by simp [hr])) (fun _ => d_nil ?_)
    exact d_ret (xD_return ok (Mine.eD_meth2 (Mine.eD_name (by walk_at "mELK")) Mine.mt_join (Mine.aD_cons (Mine.eD_name (by walk_at "mELK")) Mine.aD_nil) (Mine.cD_join (by decide) (by walk_at "mEBOUND")))) rfl
end Mine

namespace Mine
theorem Caps.one {env : Env} {scope : Scope} {cl : List (Str × Addr)} {σ : Sg} {z : Str} {e : Vl} (h : σ z = some e) (h1 : env.kindOf z = some .cell ∨ env.kindOf z = some .free) (h2 : (compEnvC scope cl 0 env).kindOf z = some .cell ∨ (compEnvC scope cl 0 env).kindOf z = some .free) (h3 : cl.lookup z = env.cells.lookup z) (h4 : (z == ("__debug__" : Str)) = false := by decide) (h5 : (z == ("__classdict__" : Str)) = false := by decide) : Caps env scope cl σ (upd (fun _ => Option.none) z e) := fun y d hy => by
  unfold upd at hy
  by_cases hyz : y = z
  · subst hyz
    rw [if_pos rfl] at hy
    cases hy
    exact ⟨h, h1, h2, h3, h4, h5⟩
  · rw [if_neg hyz] at hy; cases hy
theorem inj2a {x z : Str} {k j : Addr} (h : (k : Nat) ≠ j) : ∀ y, List.lookup y [(z, j), (x, k)] = some k → y = x := fun y hy => by
  rw [List.lookup_cons] at hy
  by_cases h1 : (y == z) = true
  · simp only [h1] at hy
    exact absurd (Option.some.inj hy).symm h
  · simp only [h1] at hy
    rw [List.lookup_cons] at hy
    by_cases h2 : (y == x) = true
    · exact beq_iff_eq.mp h2
    · simp only [h2] at hy; cases hy
theorem inj2b {x z : Str} {k j : Addr} (h : (k : Nat) ≠ j) : ∀ y, List.lookup y [(z, j), (x, k)] = some j → y = z := fun y hy => by
  rw [List.lookup_cons] at hy
  by_cases h1 : (y == z) = true
  · exact beq_iff_eq.mp h1
  · simp only [h1] at hy
    rw [List.lookup_cons] at hy
    by_cases h2 : (y == x) = true
    · simp only [h2] at hy
      exact absurd (Option.some.inj hy) h
    · simp only [h2] at hy; cases hy
noncomputable def cpOk (c : Str) : Bool := ((c.length : Int) != 0) && ((c != Str.ofString ".") && true)
noncomputable def cpNames (x : Str) : List Str := (Txt.split x (Str.ofString "/")).filter cpOk
noncomputable def pCommon (x y : Str) : Str := Str.ofString "/" ++ Txt.join (Str.ofString "/") (cp (cpNames x) (cpNames y))
theorem wt_filter (p : Str → Bool) (l : List Str) : wt (l.filter p) ≤ wt l := by
  induction l with
  | nil => exact Nat.le_refl _
  | cons b r ih =>
    have e : ∀ r : List Str, wt (b :: r) = wt r + b.length + 1 := by intro r; unfold wt; simp only [List.map_cons, List.sum_cons, List.length_cons]; lia
    rw [List.filter_cons]
    split
    · rw [e, e]; lia
    · rw [e]; lia
theorem cp_take : ∀ xs ys, ∃ k, cp xs ys = xs.take k := by
  intro xs
  induction xs with
  | nil => intro ys; exact ⟨0, by cases ys <;> rfl⟩
  | cons x xs ih =>
    intro ys
    cases ys with
    | nil => exact ⟨0, rfl⟩
    | cons y ys =>
      obtain ⟨k, hk⟩ := ih ys
      unfold cp
      split
      · exact ⟨k + 1, by rw [List.take_succ_cons, hk]⟩
      · exact ⟨0, rfl⟩
theorem wt_cp (xs ys : List Str) : wt (cp xs ys) ≤ wt xs := by
  obtain ⟨k, e⟩ := cp_take xs ys
  rw [e]; exact wt_take _ _
theorem in_commonpath {w : World} {c : Cx} {x y : Str} (ok : CxOk w c) (rm : Rm c 10) (hx : Txt.startswith x (Str.ofString "/") = true) (hy : Txt.startswith y (Str.ofString "/") = true) (hxl : x.length ≤ 1000) (hyl : y.length ≤ 1000) : CallIn w c 191 [.d (.list [.str x, .str y])] (.d (.str (pCommon x y))) := by
  have hfill := Mine.fillT w
  revert hfill
  k_fill
  intro hfill
  clear hfill
  refine' enterC [Str.ofString "paths"] [Str.ofString "sep", Str.ofString "curdir"] ?ho ?hcd ?hb ?hloc ?hnd ?hdb ?hcl ?hcn ?hlen ?hn ?ok ?rm ?h ?hco ?hgen ?hk
  case ok => assumption
  case rm => assumption
  case hn => decide
  case ho => k_is
  case hcd => k_is
  case hb => intro s vs hX hv; obtain _ | ⟨v1, _ | ⟨v2, _ | ⟨v3, _ | ⟨v4, _ | ⟨v5, vs⟩⟩⟩⟩⟩ := vs <;> first | (simp at hv; done) | exact BindsTo.of_eq rfl | exact binds_K hX rfl (by k_is) rfl rfl rfl
  case hloc => decide
  case hnd => decide
  case hdb => decide
  case hcl => intro k; rfl
  case hcn => decide
  case hco => rfl
  case hgen => rfl
  case hk => rfl
  case hlen => rfl
  intro L g ok rm keep
  have eo := envOk ok.k
  refine Does.body ?_
  generalize hσ0 : lkL _ = σ0
  have s1 : σ0 (Str.ofString "paths") = some (.d (.list [.str x, .str y])) := by subst hσ0; rfl
  clear hσ0
  have hsx : wt (Txt.split x (Str.ofString "/")) ≤ 1001 := Nat.le_trans (split_weight _ _ (by decide)) (Nat.succ_le_succ hxl)
  have hsy : wt (Txt.split y (Str.ofString "/")) ≤ 1001 := Nat.le_trans (split_weight _ _ (by decide)) (Nat.succ_le_succ hyl)
  refine d_cons (xD_assign ok (eD_tupmap ok eo (by walk_at "mROOM") (Mine.eD_name (by walk_at "mELK")))) ?_
  refine d_if ok (testX (tT_not (tT_val (Mine.eD_name (by walk_at "mELK")) (trT (Nat.le_of_ble_eq_true rfl))))) (fun h => absurd h (by simp)) (fun _ => d_nil ?_)
  refine d_if ok (testX (Mine.tT_val (Mine.eD_callB2 (id := "isinstance") (by assumption) (by walk_at "mEOK") (Mine.gB_isinstance w) rfl (Mine.aD_cons (Mine.eD_sub (Mine.eD_name (by walk_at "mELK")) Mine.eD_int (Mine.sD_titem (by walk_at "mEBOUND") (by walk_at "mEGET") (by walk_at "mEBOUND"))) (Mine.aD_cons (Mine.eD_nameB (by assumption) (by walk_at "mEOK") (Mine.gB_bytes w) rfl) Mine.aD_nil)) Mine.cD_isiBytes) Mine.trB)) (fun h => (nomatch h)) (fun _ => ?_)
  refine d_cons (xD_assignC ok Mine.eD_str rfl rfl (inj2a (by intro h; cases h))) ?_
  refine d_cons (xD_assignC ok Mine.eD_str rfl rfl (inj2b (by intro h; cases h))) (d_nil ?_)
  refine d_try ?_
  refine d_cons (xD_assignCompTup (xs := [x, y]) (f := .str) (g := fun a => .list ((Txt.split a (Str.ofString "/")).map .str)) ok ⟨rfl, by decide, rfl, by decide, rfl, by decide⟩ (Caps.one (z := Str.ofString "sep") (by walk_at "mELK") (.inl rfl) (.inl rfl) rfl) (EvalD.to (d := .d (.tuple [.str x, .str y])) (Mine.eD_name (by walk_at "mELK")) rfl) (Nat.le_of_ble_eq_true rfl) (fun C a ha => ?_)) ?_
  · have hal : wt (Txt.split a (Str.ofString "/")) ≤ 1001 := by
      simp only [List.mem_cons, List.not_mem_nil, or_false] at ha
      rcases ha with rfl | rfl <;> assumption
    have hal2 : a.length ≤ 1000 := by
      simp only [List.mem_cons, List.not_mem_nil, or_false] at ha
      rcases ha with rfl | rfl <;> assumption
    exact (Mine.eD_meth2 (Mine.eD_name (by walk_at "mELK")) Mine.mt_split (Mine.aD_cons (Mine.eD_name (by walk_at "mELK")) Mine.aD_nil) (Mine.cD_split (by decide) (by walk_at "mEBOUND")))
  refine d_try ?_
  refine d_cons (xD_unpackSet ok ⟨rfl, by decide, rfl, by decide, rfl, by decide⟩ (Caps.one (z := Str.ofString "sep") (by walk_at "mELK") (.inl rfl) (.inl rfl) rfl) (Mine.eD_name (by walk_at "mELK")) (Nat.le_of_ble_eq_true rfl) (by simp) (fun C a ha => ?_)) (d_nil ?_)
  · simp only [List.mem_cons, List.not_mem_nil, or_false] at ha
    rcases ha with rfl | rfl
    · exact EvalD.to (Mine.eD_meth2 (Mine.eD_name (by walk_at "mELK")) Mine.mt_startswith (Mine.aD_cons (Mine.eD_name (by walk_at "mELK")) Mine.aD_nil) Mine.cD_startswith) (by rw [hx])
    · exact EvalD.to (Mine.eD_meth2 (Mine.eD_name (by walk_at "mELK")) Mine.mt_startswith (Mine.aD_cons (Mine.eD_name (by walk_at "mELK")) Mine.aD_nil) Mine.cD_startswith) (by rw [hy])
  refine d_cons (σ' := upd _ (Str.ofString "split_paths") (.d (.list [.list ((cpNames x).map .str), .list ((cpNames y).map .str)]))) (xD_assignComp (cl := [(Str.ofString "curdir", L + 1 + 1)]) (xs := [Txt.split x (Str.ofString "/"), Txt.split y (Str.ofString "/")]) (f := fun l => .d (.list (l.map .str))) (g := fun l => .list ((l.filter cpOk).map .str)) ok ⟨rfl, by decide, rfl, by decide, rfl, by decide⟩ (Caps.one (z := Str.ofString "curdir") (by walk_at "mELK") (.inl rfl) (.inl rfl) rfl) (EvalD.to (d := .d (.list (([x, y] : List Str).map fun a => .list ((Txt.split a (Str.ofString "/")).map .str)))) (d' := .d (.list (([Txt.split x (Str.ofString "/"), Txt.split y (Str.ofString "/")] : List (List Str)).map fun l => .list (l.map .str)))) (Mine.eD_name (by walk_at "mELK")) rfl) (.list fun l : List Str => .list (l.map .str)) (Nat.le_of_ble_eq_true rfl) (fun C l hl => ?_)) ?_
  · have hlw : wt l ≤ 1001 := by
      simp only [List.mem_cons, List.not_mem_nil, or_false] at hl
      rcases hl with rfl | rfl <;> assumption
    have hll : l.length ≤ 1000000 := Nat.le_trans (len_wt _) (by lia)
    refine eD_compT (xs := l) (f := fun a => .d (.str a)) (g := .str) (p := cpOk) ⟨rfl, by decide, rfl, by decide, rfl, by decide⟩ (Caps.one (z := Str.ofString "curdir") (by walk_at "mELK") (.inl rfl) (.inl rfl) rfl) (Mine.eD_name (by walk_at "mELK")) (.list _) hll (fun C2 a ha => ?_) (fun C2 a ha _ => ?_)
    · have hal : a.length ≤ 1001 := Nat.le_trans (mem_wt ha) hlw
      exact (Mine.tT_and (Mine.tT_val (Mine.eD_name (by walk_at "mELK")) (Mine.trS (by walk_at "mEBOUND"))) (fun _ => (Mine.tT_and (Mine.tT_cmp (Mine.eD_name (by walk_at "mELK")) (Mine.eD_name (by walk_at "mELK")) Mine.tD_neS) (fun _ => Mine.tT_and0))))
    · exact (Mine.eD_name (by walk_at "mELK"))
  have hwx : wt (cpNames x) ≤ 1001 := Nat.le_trans (wt_filter _ _) hsx
  have hwy : wt (cpNames y) ≤ 1001 := Nat.le_trans (wt_filter _ _) hsy
  unfold pCommon
  generalize cpNames x = nx at *
  generalize cpNames y = ny at *
  have hlx : nx.length ≤ 1001 := Nat.le_trans (len_wt _) hwx
  have hly : ny.length ≤ 1001 := Nat.le_trans (len_wt _) hwy
  obtain ⟨a, b, e1, e2, e3, e4, e5, e6, e7⟩ := two_ok nx ny
  refine d_cons (xD_assign (d := .d (.list (a.map .str))) ok (e1 ▸ (Mine.eD_callB2 (id := "min") (by assumption) (by walk_at "mEOK") (Mine.gB_min w) rfl (Mine.aD_cons (Mine.eD_name (by walk_at "mELK")) Mine.aD_nil) (Mine.cD_min2 (by walk_at "mROOM"))))) ?_
  refine d_cons (xD_assign (d := .d (.list (b.map .str))) ok (e2 ▸ (Mine.eD_callB2 (id := "max") (by assumption) (by walk_at "mEOK") (Mine.gB_max w) rfl (Mine.aD_cons (Mine.eD_name (by walk_at "mELK")) Mine.aD_nil) (Mine.cD_max2 (by walk_at "mROOM"))))) ?_
  refine d_cons (xD_assign ok (Mine.eD_name (by walk_at "mELK"))) ?_
  have hal : (a.map Dat.str).length ≤ 1000000 := by rw [List.length_map]; lia
  have hwc : wt (cp a b) ≤ 200000 := by rw [e4]; exact Nat.le_trans (wt_cp _ _) (by lia)
  have hj : (Txt.join (Str.ofString "/") (cp a b)).length ≤ 16 * 200000 := Nat.le_trans (join_len (Str.ofString "/") (cp a b) (by decide)) (Nat.mul_le_mul_left _ hwc)
  have hj1 : (Str.ofString "/").length = 1 := rfl
  refine d_forE (ds := a.map .str) (fun i σ => σ (Str.ofString "sep") = some (.d (.str (Str.ofString "/"))) ∧ σ (Str.ofString "isabs") = some (.d (.bool true)) ∧ σ (Str.ofString "s1") = some (.d (.list (a.map .str))) ∧ σ (Str.ofString "s2") = some (.d (.list (b.map .str))) ∧ σ (Str.ofString "common") = some (.d (.list (a.map .str))) ∧ a.take i = b.take i) ok eo (Mine.eD_name (by walk_at "mELK")) ⟨by walk_at "mELK", by walk_at "mELK", by walk_at "mELK", by walk_at "mELK", by walk_at "mELK", rfl⟩ ?_ ?_
  · rintro i d σ hi ⟨q0, q4, q1, q2, q5, q3⟩
    rw [List.getElem?_map] at hi
    obtain ⟨z, hix, rfl⟩ := Option.map_eq_some_iff.mp hi
    have hil := (List.getElem?_eq_some_iff.mp hix).1
    have hbl := le_ok i a b e3 hil q3
    have hget : (b.map Dat.str)[((i : Nat) : Int).toNat]? = some (.str b[i]) := by
      rw [show ((i : Nat) : Int).toNat = i by lia, List.getElem?_map, List.getElem?_eq_getElem hbl]; rfl
    have hbl2 : (b.map Dat.str).length ≤ 1000000 := by rw [List.length_map]; lia
    refine d_if (bb := (z != b[i])) ok (testX (Mine.tT_cmp (Mine.eD_name (by walk_at "mELK")) (Mine.eD_sub (Mine.eD_name (by walk_at "mELK")) (Mine.eD_name (by walk_at "mELK")) (Mine.sD_item (by walk_at "mEBOUND") (by walk_at "mEGET") (by walk_at "mEBOUND"))) Mine.tD_neS)) (fun h => ?_) (fun h => d_nil ?_)
    · have hne : z ≠ b[i] := by simpa using h
      have hcp := cp_stop i a b q3 (fun u v hu hv => by
        rw [hix] at hu; cases hu
        rw [List.getElem?_eq_getElem hbl] at hv; cases hv
        exact hne) hil hbl
      refine d_cons (xD_assign (d := .d (.list ((cp a b).map .str))) ok (EvalD.to (Mine.eD_sliceL_ns (Mine.eD_name (by walk_at "mELK")) (Mine.eD_name (by walk_at "mELK")) (by walk_at "mEBOUND") (by walk_at "mEBOUND")) (by rw [hcp, show ((i : Nat) : Int).toNat = i by lia, List.map_take]))) (d_brk (.inr (.inl ⟨_, rfl, ?_⟩)))
      refine d_cons (xD_assign (d := .d (.str (Str.ofString "/"))) ok (eD_if (b := true) (Mine.tT_val (Mine.eD_name (by walk_at "mELK")) Mine.trB) (fun _ => (Mine.eD_name (by walk_at "mELK"))) (fun h => (nomatch h)))) ?_
      exact d_ret (xD_return ok (Mine.eD_bin (Mine.eD_name (by walk_at "mELK")) (Mine.eD_meth2 (Mine.eD_name (by walk_at "mELK")) Mine.mt_join (Mine.aD_cons (Mine.eD_name (by walk_at "mELK")) Mine.aD_nil) (Mine.cD_join (by decide) (by walk_at "mEBOUND"))) (Mine.tD_addS (by walk_at "mEBOUND")))) (by rw [← e4])
    · have heq : z = b[i] := by simpa using h
      refine d_nil (.inl ⟨_, rfl, by walk_at "mELK", by walk_at "mELK", by walk_at "mELK", by walk_at "mELK", by walk_at "mELK", ?_⟩)
      rw [take_get hix, q3, List.take_add_one, List.getElem?_eq_getElem hbl, heq]; rfl
  · rintro σ ⟨q0, q4, q1, q2, q5, q3⟩
    rw [List.length_map, List.take_of_length_le (Nat.le_refl _)] at q3
    refine d_cons (xD_assign (d := .d (.str (Str.ofString "/"))) ok (eD_if (b := true) (Mine.tT_val (Mine.eD_name (by walk_at "mELK")) Mine.trB) (fun _ => (Mine.eD_name (by walk_at "mELK"))) (fun h => (nomatch h)))) ?_
    have hcp := cp_all a b q3
    have hwa : wt a ≤ 200000 := by rw [← hcp]; exact hwc
    rw [← e4, hcp]
    have hj2 : (Txt.join (Str.ofString "/") a).length ≤ 16 * 200000 := Nat.le_trans (join_len (Str.ofString "/") a (by decide)) (Nat.mul_le_mul_left _ hwa)
    exact d_ret (xD_return ok (Mine.eD_bin (Mine.eD_name (by walk_at "mELK")) (Mine.eD_meth2 (Mine.eD_name (by walk_at "mELK")) Mine.mt_join (Mine.aD_cons (Mine.eD_name (by walk_at "mELK")) Mine.aD_nil) (Mine.cD_join (by decide) (by walk_at "mEBOUND"))) (Mine.tD_addS (by walk_at "mEBOUND")))) rfl
end Mine

namespace Mine
noncomputable def pUps (H : List Str) : List Str := (List.range H.length).map fun k => Str.ofString "/" ++ Txt.join (Str.ofString "/") (H.take (k + 1))
noncomputable def pShared (H T : List Str) : List Str := (pUps H).filter fun u => decide (u ∈ pUps T)
noncomputable def pLast (l : List Str) : Str := l.getLast?.getD (Str.ofString "/")
noncomputable def pSteps (H T : List Str) : List Str := List.replicate (T.length - (pShared H T).length) (Str.ofString "..") ++ H.drop (pShared H T).length
noncomputable def pWay (ss : List Str) : Str := if (Txt.join (Str.ofString "/") ss).length = 0 then Str.ofString "." else Txt.join (Str.ofString "/") ss
structure PairOk (H T : List Str) (one two : Str) : Prop where
  h1 : ∀ u ∈ pUps H, PyData.strOk u = true
  h2 : ∀ u ∈ pUps T, PyData.strOk u = true
  com : pCommon one two = pLast (pShared H T)
  rel : pRel one two = pWay (pSteps H T)
  back : pNorm (jStep two (pRel one two)) = one
  r1 : Rooted one
  r2 : Rooted two
  r3 : Rooted (jStep two (pRel one two))
  l1 : one.length ≤ 1000
  l2 : two.length ≤ 1000
  n1 : H.length ≤ 200
  n2 : T.length ≤ 200
  w1 : wt H ≤ 1000
  w2 : wt T ≤ 1000
  t1 : (tailList (pNorm one)).length ≤ 200
  t2 : (tailList (pNorm two)).length ≤ 200
  wr : wt (relOf (tailList (pNorm two)) (tailList (pNorm one))) ≤ 200000
  wl : (pRel one two).length ≤ 1000
  ws : wt (pSteps H T) ≤ 200000
section
variable {w : World} {c : Cx} {env : Env} {σ : Sg}
theorem cF_join1 {a b : Str} (ok : CxOk w c) (rm : Rm c 6) (h1 : a.length ≤ 1000) (h2 : b.length ≤ 1000) (h3 : (jStep a b).length ≤ 100000) : CallD w c env σ (.ref 136) [.d (.str a), .d (.str b)] (.d (.str (jStep a b))) := by
  refine CallIn.callD (in_join (ss := [b]) ok rm (Nat.le_of_ble_eq_true rfl) (fun i => ?_) (fun x hx => ?_))
  · rcases i with _ | i
    · show a.length ≤ 100000; lia
    · rw [List.take_succ_cons, List.take_nil]; exact h3
  · rw [List.mem_singleton.mp hx]; lia
end
theorem pUps_len (H : List Str) : (pUps H).length = H.length := by unfold pUps; rw [List.length_map, List.length_range]
theorem pShared_len (H T : List Str) : (pShared H T).length ≤ H.length := by
  have := List.length_filter_le (fun u => decide (u ∈ pUps T)) (pUps H)
  rw [pUps_len] at this
  exact this
theorem wt_take' (ps : List Str) (i : Nat) : wt (ps.take i) ≤ wt ps := wt_take ps i
theorem inj3 {x y z : Str} {k j l : Addr} (h1 : (j : Nat) ≠ l) (h2 : (k : Nat) ≠ l) : ∀ u, List.lookup u [(z, l), (y, j), (x, k)] = some l → u = z := fun u hu => by
  rw [List.lookup_cons] at hu
  by_cases e1 : (u == z) = true
  · exact beq_iff_eq.mp e1
  · simp only [e1] at hu
    rw [List.lookup_cons] at hu
    by_cases e2 : (u == y) = true
    · simp only [e2] at hu
      exact absurd (Option.some.inj hu) h1
    · simp only [e2] at hu
      rw [List.lookup_cons] at hu
      by_cases e3 : (u == x) = true
      · simp only [e3] at hu
        exact absurd (Option.some.inj hu) h2
      · simp only [e3] at hu; cases hu
theorem in_pair {w : World} {c : Cx} {H T : List Str} {one two : Str} (ok : CxOk w c) (rm : Rm c 30) (po : PairOk H T one two) : CallIn w c 257 [.d (.str one), .d (.str two), .d (.list (H.map .str)), .d (.list (T.map .str))] (.d (.bool true)) := by
  have hfill := Mine.fillT w
  revert hfill
  k_fill
  intro hfill
  clear hfill
  refine' enterC [Str.ofString "one", Str.ofString "two", Str.ofString "here", Str.ofString "there"] [Str.ofString "here", Str.ofString "there", Str.ofString "others"] ?ho ?hcd ?hb ?hloc ?hnd ?hdb ?hcl ?hcn ?hlen ?hn ?ok ?rm ?h ?hco ?hgen ?hk
  case ok => assumption
  case rm => assumption
  case hn => decide
  case ho => k_is
  case hcd => k_is
  case hb => intro s vs hX hv; obtain _ | ⟨v1, _ | ⟨v2, _ | ⟨v3, _ | ⟨v4, _ | ⟨v5, vs⟩⟩⟩⟩⟩ := vs <;> first | (simp at hv; done) | exact BindsTo.of_eq rfl | exact binds_K hX rfl (by k_is) rfl rfl rfl
  case hloc => decide
  case hnd => decide
  case hdb => decide
  case hcl => intro k; rfl
  case hcn => decide
  case hco => rfl
  case hgen => rfl
  case hk => rfl
  case hlen => rfl
  intro L g ok rm keep
  have eo := envOk ok.k
  refine Does.body ?_
  generalize hσ0 : lkL _ = σ0
  have s1 : σ0 (Str.ofString "one") = some (.d (.str one)) := by subst hσ0; rfl
  have s2 : σ0 (Str.ofString "two") = some (.d (.str two)) := by subst hσ0; rfl
  have s3 : σ0 (Str.ofString "here") = some (.d (.list (H.map .str))) := by subst hσ0; rfl
  have s4 : σ0 (Str.ofString "there") = some (.d (.list (T.map .str))) := by subst hσ0; rfl
  clear hσ0
  obtain ⟨h1, h2, com, rel, back, r1, r2, r3, l1, l2, n1, n2, w1, w2, t1, t2, wr, wl, ws⟩ := po
  have hH : (H.map Dat.str).length ≤ 1000000 := by rw [List.length_map]; lia
  have hT : (T.map Dat.str).length ≤ 1000000 := by rw [List.length_map]; lia
  have hjl : ∀ (l : List Str) (k : Nat), wt l ≤ 1000 → (Txt.join (Str.ofString "/") (l.take k)).length ≤ 16000 := fun l k h => Nat.le_trans (join_len (Str.ofString "/") (l.take k) (by decide)) (by have := wt_take' l k; lia)
  have hs1 : (Str.ofString "/").length = 1 := rfl
  refine d_cons (σ' := upd _ (Str.ofString "ups") (.d (.list ((pUps H).map .str)))) (EvalX (xD_assignComp (cl := [(Str.ofString "here", L + 1)]) (xs := List.range H.length) (f := fun k : Nat => .d (.int k)) (g := fun k => .str (Str.ofString "/" ++ Txt.join (Str.ofString "/") (H.take (k + 1)))) ok ⟨rfl, by decide, rfl, by decide, rfl, by decide⟩ (Caps.one (z := Str.ofString "here") (by walk_at "mELK") (.inl rfl) (.inl rfl) rfl) (EvalD.to (Mine.eD_callT2 (T := "range") (by assumption) (by walk_at "mEOK") (Mine.gB_range w) rfl (Mine.aD_cons (Mine.eD_callB2 (id := "len") (by assumption) (by walk_at "mEOK") (Mine.gB_len w) rfl (Mine.aD_cons (Mine.eD_name (by walk_at "mELK")) Mine.aD_nil) (Mine.cD_len (by walk_at "mEBOUND"))) Mine.aD_nil) Mine.cD_range1) (by rw [List.length_map])) (.rng _) (by rw [List.length_range]; lia) (fun C k hk => ?_)) (by unfold pUps; rw [List.map_map]; rfl)) ?_
  · have hj := hjl H (k + 1) w1
    have hww : wt (H.take (k + 1)) ≤ 200000 := Nat.le_trans (wt_take' _ _) (by lia)
    exact eD_bin eD_str (eD_meth2 eD_str mt_join (aD_cons (EvalD.to (d' := .d (.list ((H.take (k + 1)).map .str))) (Mine.eD_sliceL_ns (Mine.eD_name (by walk_at "mELK")) (Mine.eD_bin (Mine.eD_name (by walk_at "mELK")) Mine.eD_int Mine.tD_addI) (by walk_at "mEBOUND") (by walk_at "mEBOUND")) (by rw [show ((k : Int) + 1).toNat = k + 1 by lia, List.map_take])) aD_nil) (cD_join (by decide) hww)) (tD_addS (by lia))
  refine d_cons (σ' := upd _ (Str.ofString "others") (.d (.list ((pUps T).map .str)))) (xD_assignC ok (EvalD.to (eD_comp (cl := [(Str.ofString "there", L + 1 + 1)]) (xs := List.range T.length) (f := fun k : Nat => .d (.int k)) (g := fun k => .str (Str.ofString "/" ++ Txt.join (Str.ofString "/") (T.take (k + 1)))) ⟨rfl, by decide, rfl, by decide, rfl, by decide⟩ (Caps.one (z := Str.ofString "there") (by walk_at "mELK") (.inl rfl) (.inl rfl) rfl) (EvalD.to (Mine.eD_callT2 (T := "range") (by assumption) (by walk_at "mEOK") (Mine.gB_range w) rfl (Mine.aD_cons (Mine.eD_callB2 (id := "len") (by assumption) (by walk_at "mEOK") (Mine.gB_len w) rfl (Mine.aD_cons (Mine.eD_name (by walk_at "mELK")) Mine.aD_nil) (Mine.cD_len (by walk_at "mEBOUND"))) Mine.aD_nil) Mine.cD_range1) (by rw [List.length_map])) (.rng _) (by rw [List.length_range]; lia) (fun C k hk => ?_)) (by unfold pUps; rw [List.map_map]; rfl)) rfl rfl (inj3 (Nat.ne_of_lt (Nat.lt_succ_self _)) (Nat.ne_of_lt (Nat.lt_succ_of_lt (Nat.lt_succ_self _))))) ?_
  · have hj := hjl T (k + 1) w2
    have hww : wt (T.take (k + 1)) ≤ 200000 := Nat.le_trans (wt_take' _ _) (by lia)
    exact eD_bin eD_str (eD_meth2 eD_str mt_join (aD_cons (EvalD.to (d' := .d (.list ((T.take (k + 1)).map .str))) (Mine.eD_sliceL_ns (Mine.eD_name (by walk_at "mELK")) (Mine.eD_bin (Mine.eD_name (by walk_at "mELK")) Mine.eD_int Mine.tD_addI) (by walk_at "mEBOUND") (by walk_at "mEBOUND")) (by rw [show ((k : Int) + 1).toNat = k + 1 by lia, List.map_take])) aD_nil) (cD_join (by decide) hww)) (tD_addS (by lia))
  have hul : (pUps H).length ≤ 1000000 := by rw [pUps_len]; lia
  refine d_cons (xD_assignCompT (cl := [(Str.ofString "others", L + 1 + 1 + 1)]) (xs := pUps H) (f := fun u => .d (.str u)) (g := .str) (p := fun u => decide (u ∈ pUps T)) ok ⟨rfl, by decide, rfl, by decide, rfl, by decide⟩ (Caps.one (z := Str.ofString "others") (by walk_at "mELK") (.inl rfl) (.inl rfl) rfl) (Mine.eD_name (by walk_at "mELK")) (.list _) hul (fun C u hu => ?_) (fun C u hu _ => ?_)) ?_
  · exact tT_cmp (Mine.eD_name (by walk_at "mELK")) (eD_name (σ := upd (upd _ (Str.ofString "others") _) _ _) rfl) (tD_inL (a := .str u) (xs := (pUps T).map .str) (rm.le (by decide)) (h1 u hu) (fun d hd => by
      obtain ⟨v, hv, rfl⟩ := List.mem_map.mp hd
      exact h2 v hv) (by
      rw [decide_eq_true_iff]
      constructor
      · intro h; exact List.mem_map_of_mem h
      · intro h
        obtain ⟨v, hv, e⟩ := List.mem_map.mp h
        cases e; exact hv))
  · exact (Mine.eD_name (by walk_at "mELK"))
  have hsl := pShared_len H T
  have hsl2 : ((pShared H T).map Dat.str).length ≤ 1000000 := by rw [List.length_map]; lia
  have hst : pSteps H T = List.replicate (T.length - (pShared H T).length) (Str.ofString "..") ++ H.drop (pShared H T).length := rfl
  rw [show (List.filter (fun u => decide (u ∈ pUps T)) (pUps H)) = pShared H T from rfl]
  generalize pShared H T = sh at *
  refine d_if (bb := false) ok (testX (EvalT (tT_cmp (eD_callG2 ok eo (gF_commonpath w) (gK_commonpath w) (aD_cons (Mine.eD_list (ds := [_, _]) (Mine.ad_cons (Mine.eD_name (by walk_at "mELK")) (Mine.ad_cons (Mine.eD_name (by walk_at "mELK")) Mine.ad_nil)) (Nat.le_of_ble_eq_true rfl)) aD_nil) ((in_commonpath ok (by walk_at "mROOM") r1.2.2.2 r2.2.2.2 l1 l2).callD)) (eD_if (d := .d (.str (pLast sh))) (b := !(sh.map Dat.str).isEmpty) (Mine.tT_val (Mine.eD_name (by walk_at "mELK")) (Mine.trL (by walk_at "mEBOUND"))) (fun h => ?_) (fun h => ?_)) tD_neS) (by rw [com]; simp))) (fun h => (nomatch h)) (fun _ => d_nil ?_)
  · have hne : sh ≠ [] := by rintro rfl; simp at h
    obtain ⟨u, hu⟩ : ∃ u, sh.getLast? = some u := by
      cases h2 : sh.getLast? with
      | none => exact absurd (List.getLast?_eq_none_iff.mp h2) hne
      | some u => exact ⟨u, rfl⟩
    have hlast : (sh.map Dat.str).getLast? = some (.str (pLast sh)) := by
      rw [List.getLast?_map, hu]; unfold pLast; rw [hu]; rfl
    exact (Mine.eD_sub (Mine.eD_name (by walk_at "mELK")) (Mine.eD_neg Mine.eD_int) (Mine.sD_last (by walk_at "mEGET")))
  · have hne : sh = [] := by simpa using h
    subst hne
    exact Mine.eD_str
  have hrep : (List.replicate (((T.map Dat.str).length : Int) - ((sh.map Dat.str).length : Int)).toNat [Dat.str (Str.ofString "..")]).flatten ++ (H.map Dat.str).drop ((sh.map Dat.str).length : Int).toNat = (pSteps H T).map Dat.str := by
    rw [hst, rep_flat, List.length_map, List.length_map, List.map_append, List.map_replicate, List.map_drop, show (((T.length : Int) - (sh.length : Int)).toNat) = T.length - sh.length by lia]
    rfl
  have hn : (((T.map Dat.str).length : Int) - ((sh.map Dat.str).length : Int)).toNat = T.length - sh.length := by rw [List.length_map, List.length_map]; lia
  have hm1 : [Dat.str (Str.ofString "..")].length * (((T.map Dat.str).length : Int) - ((sh.map Dat.str).length : Int)).toNat ≤ 256 := by rw [hn]; show 1 * _ ≤ 256; lia
  have hm2 : (-1000000 : Int) ≤ ((T.map Dat.str).length : Int) - ((sh.map Dat.str).length : Int) := by rw [List.length_map, List.length_map]; lia
  have hm3 : ((T.map Dat.str).length : Int) - ((sh.map Dat.str).length : Int) ≤ 1000000 := by rw [List.length_map, List.length_map]; lia
  have hm4 : (List.replicate (((T.map Dat.str).length : Int) - ((sh.map Dat.str).length : Int)).toNat [Dat.str (Str.ofString "..")]).flatten.length ≤ 1000000 := by rw [hn, rep_flat, List.length_replicate]; lia
  have hm5 : ((H.map Dat.str).drop ((sh.map Dat.str).length : Int).toNat).length ≤ 1000000 := by rw [List.length_drop, List.length_map]; lia
  refine d_cons (xD_assign (d := .d (.list ((pSteps H T).map .str))) ok (by
    rw [← hrep]
    exact eD_bin (eD_bin (Mine.eD_list (ds := [_]) (Mine.ad_cons Mine.eD_str Mine.ad_nil) (Nat.le_of_ble_eq_true rfl)) (Mine.eD_bin (Mine.eD_callB2 (id := "len") (by assumption) (by walk_at "mEOK") (Mine.gB_len w) rfl (Mine.aD_cons (Mine.eD_name (by walk_at "mELK")) Mine.aD_nil) (Mine.cD_len (by walk_at "mEBOUND"))) (Mine.eD_callB2 (id := "len") (by assumption) (by walk_at "mEOK") (Mine.gB_len w) rfl (Mine.aD_cons (Mine.eD_name (by walk_at "mELK")) Mine.aD_nil) (Mine.cD_len (by walk_at "mEBOUND"))) Mine.tD_subI) (tD_mulL hm1 hm2 hm3)) (eD_sliceL_sn (Mine.eD_name (by walk_at "mELK")) (Mine.eD_callB2 (id := "len") (by assumption) (by walk_at "mEOK") (Mine.gB_len w) rfl (Mine.aD_cons (Mine.eD_name (by walk_at "mELK")) Mine.aD_nil) (Mine.cD_len (by walk_at "mEBOUND"))) (by lia) hH) (tD_addL hm4 hm5))) ?_
  refine d_cons (xD_assign ok (Mine.eD_callG2 (by assumption) (by walk_at "mEOK") (Mine.gF_relpath w) (Mine.gK_relpath w) (Mine.aD_cons (Mine.eD_name (by walk_at "mELK")) (Mine.aD_cons (Mine.eD_name (by walk_at "mELK")) Mine.aD_nil)) ((in_relpath (by assumption) (by walk_at "mROOM") r1 r2 t1 t2 wr).callD))) ?_
  have hjl2 : (Txt.join (Str.ofString "/") (pSteps H T)).length ≤ 16000000 := Nat.le_trans (join_len (Str.ofString "/") _ (by decide)) (by lia)
  refine d_ret (xD_return ok (eD_and (d1 := .d (.bool true)) (b := true) (EvalD.to (eD_cmp (Mine.eD_name (by walk_at "mELK")) (eD_or (d := .d (.str (pWay (pSteps H T)))) (b := ((Txt.join (Str.ofString "/") (pSteps H T)).length : Int) != 0) (Mine.eD_meth2 Mine.eD_str Mine.mt_join (Mine.aD_cons (Mine.eD_name (by walk_at "mELK")) Mine.aD_nil) (Mine.cD_join (by decide) (by walk_at "mEBOUND"))) (trS hjl2) (fun h => by unfold pWay; rw [if_neg (by simpa using h)]) (fun h => by unfold pWay; rw [if_pos (by simpa using h)]; exact eD_one Mine.eD_str)) tD_eqS) (by rw [rel]; simp)) trB (fun h => (nomatch h)) (fun _ => eD_one (EvalD.to (Mine.eD_cmp (Mine.eD_callG2 (by assumption) (by walk_at "mEOK") (Mine.gF_normpath w) (Mine.gK_normpath w) (Mine.aD_cons (Mine.eD_callG2 (by assumption) (by walk_at "mEOK") (Mine.gF_join w) (Mine.gK_join w) (Mine.aD_cons (Mine.eD_name (by walk_at "mELK")) (Mine.aD_cons (Mine.eD_name (by walk_at "mELK")) Mine.aD_nil)) (cF_join1 (by assumption) (by walk_at "mROOM") l2 wl r3.1)) Mine.aD_nil) (cF_normpath (by assumption) (by walk_at "mROOM") r3)) (Mine.eD_name (by walk_at "mELK")) Mine.tD_eqS) (by rw [back]; simp))))) rfl
end Mine

namespace Mine
theorem intsData {lg : Lg} {vs : List Value} {ns : List Int} (h : IntsAre vs ns) : DatAll lg vs (ns.map .int) := by
  induction h with
  | nil => exact .nil
  | cons _ _ _ ih => exact .cons (.int _ _) ih
section
variable {w : World} {c : Cx} {env : Env} {σ : Sg} {d : Vl}
theorem eD_sliceRaw {value u : Expr} {p pos : Pos} {a : Addr} {vs : List Value} {ns : List Int} {j : Int} (hv : EvalD w c env σ value (.raw (.ref a))) (hu : EvalD w c env σ u (.d (.int j))) (hj : 0 ≤ j) (hL : c.h₀.IsList a vs.toArray) (hi : IntsAre vs ns) (hl : vs.length ≤ 1000000) (hg : ∀ a r, letTemporaryGo value (.ref a) r = pure () := by intro _ _; with_unfolding_all rfl)
    (hs : ∀ a n, subscripted (.Slice none (some u) none p) false (.ref a) (.ref n) = operate [.ref n, .ref a] (getItem (.ref a) (.ref n)) := by intro _ _; with_unfolding_all rfl) : EvalD w c env σ (.Subscript value (.Slice none (some u) none p) pos) (.d (.list ((ns.take j.toNat).map .int))) := fun fx m news t s Q E P k => by
  refine Subscript_ (hv.run P fun v1 hA tkA tlA tA PA UA hv1 => ?_)
  have hv2 : v1 = .ref a := hv1
  subst hv2
  refine wpAny_Slice (wpAny_pure (hu.run PA fun v2 hB tkB tlB tB PB UB hv2 => wpAny_pure ?_))
  (first | refine Mine.inI (show DatIn _ _ _ from hv2) fun _ => ?_ | refine Mine.inS (show DatIn _ _ _ from hv2) fun _ => ?_ | refine Mine.inB (show DatIn _ _ _ from hv2) ?_ | refine Mine.inN (show DatIn _ _ _ from hv2) ?_)
  have hLs : hB.IsList a vs.toArray := let ⟨o, e, r⟩ := hL; ⟨o, PB.F.keep _ _ e, r⟩
  refine kmk_slice (s := { s with heap := hB, toks := tkB }) PB.F PB.N hLs .none (.int _ _) (fun R h' F' N' l1 => ?_) (hs _ _) (hg _) (by rw [List.size_toArray, sizeLine_eq]; lia)
  rw [pick_upto vs hj] at N'
  obtain ⟨PC, UC⟩ := PB.one F' N' l1
  refine ((k.after UA).after UB) _ h' tkB _ tB PC UC (.list (memR _ (.head _)) ?_)
  rw [List.map_take]
  exact DatAll_take (intsData hi) _
end
noncomputable def pCell (n : Int) : Int := (if n < 0 then -n else n).fmod (10 ^ (6 : Int).toNat)
noncomputable def pieces : List Str := [Str.ofString "/", Str.ofString "/", Str.ofString "/../", Str.ofString "a", Str.ofString "b", Str.ofString "/a", Str.ofString ".", Str.ofString "/ab", Str.ofString "/b"]
noncomputable def pPiece (k : Int) : Str := pieces.getD (k.fmod 9).toNat (Str.ofString "")
noncomputable def pStep (rows : List Str) (k : Int) : List Str :=
  if (k.fmod 9 == 0) && (decide ((rows.length : Int) < 5) && true) then rows ++ [Str.ofString "/./"] else rows.dropLast ++ [rows.getLastD (Str.ofString "") ++ pPiece k]
noncomputable def pDrawn (ns : List Int) : List Str := (((ns.take (6 : Int).toNat).map pCell).foldl pStep [Str.ofString "/./ab/a", Str.ofString "/./a"])
theorem pPiece_len (k : Int) : (pPiece k).length ≤ 4 := by
  have h : ∀ x ∈ pieces, x.length ≤ 4 := by decide
  unfold pPiece
  rw [List.getD_eq_getElem?_getD]
  cases hq : pieces[(k.fmod 9).toNat]? with
  | none => exact Nat.zero_le 4
  | some x => exact h x (List.mem_of_getElem? hq)
theorem pStep_ok {n : Nat} {rows : List Str} (k : Int) (h1 : rows ≠ []) (h2 : rows.length ≤ n) (h3 : ∀ x ∈ rows, x.length ≤ 4 * n) : pStep rows k ≠ [] ∧ (pStep rows k).length ≤ n + 1 ∧ ∀ x ∈ pStep rows k, x.length ≤ 4 * (n + 1) := by
  have hp := pPiece_len k
  have hpos : 1 ≤ rows.length := by cases rows with | nil => exact absurd rfl h1 | cons => simp
  unfold pStep
  split
  · refine ⟨by simp, by simp; lia, fun x hx => ?_⟩
    rcases List.mem_append.mp hx with hx | hx
    · have := h3 x hx; lia
    · rw [List.mem_singleton.mp hx]; show 3 ≤ _; lia
  · refine ⟨by simp, by simp; lia, fun x hx => ?_⟩
    rcases List.mem_append.mp hx with hx | hx
    · have := h3 x (List.dropLast_subset _ hx); lia
    · rw [List.mem_singleton.mp hx, Str.length_append]
      have : (rows.getLastD (Str.ofString "")).length ≤ 4 * n := by
        cases rows with
        | nil => exact absurd rfl h1
        | cons y r =>
          rw [List.getLastD_cons]
          refine h3 _ ?_
          rw [List.getLastD_eq_getLast?]
          cases hq : r.getLast? with
          | none => simp
          | some z => exact .tail _ (List.mem_of_getLast? hq)
      lia

theorem cD_drawn {w : World} {c : Cx} {env : Env} {σ : Sg} {a : Addr} {vs : List Value} {ns : List Int} (ok : CxOk w c) (rm : Rm c 3) (hL : c.h₀.IsList a vs.toArray) (hi : IntsAre vs ns) (hl : vs.length ≤ 63) : CallD w c env σ (.ref 196) [.raw (.ref a)] (.d (.list ((pDrawn ns).map .str))) := by
  refine CallIn.callD ?_
  have hfill := Mine.fillT w
  revert hfill
  k_fill
  intro hfill
  clear hfill
  refine' enterC [Str.ofString "script"] [] ?ho ?hcd ?hb ?hloc ?hnd ?hdb ?hcl ?hcn ?hlen ?hn ?ok ?rm ?h ?hco ?hgen ?hk
  case ok => assumption
  case rm => assumption
  case hn => decide
  case ho => k_is
  case hcd => k_is
  case hb => intro s vs hX hv; obtain _ | ⟨v1, _ | ⟨v2, _ | ⟨v3, _ | ⟨v4, _ | ⟨v5, vs⟩⟩⟩⟩⟩ := vs <;> first | (simp at hv; done) | exact BindsTo.of_eq rfl | exact binds_K hX rfl (by k_is) rfl rfl rfl
  case hloc => decide
  case hnd => decide
  case hdb => decide
  case hcl => intro k; rfl
  case hcn => decide
  case hco => rfl
  case hgen => rfl
  case hk => rfl
  case hlen => rfl
  intro L g ok rm keep
  have eo := envOk ok.k
  have hLg : g.IsList a vs.toArray := let ⟨o, e, r⟩ := hL; ⟨o, keep _ _ e, r⟩
  refine Does.body ?_
  generalize hσ0 : lkL _ = σ0
  have s1 : σ0 (Str.ofString "script") = some (.raw (.ref a)) := by subst hσ0; rfl
  have s2 : σ0 (Str.ofString "rows") = none := by subst hσ0; rfl
  clear hσ0
  refine d_cons (xD_newlist (ds := [.str (Str.ofString "/./ab/a"), .str (Str.ofString "/./a")]) ok (Mine.ad_cons Mine.eD_str (Mine.ad_cons Mine.eD_str Mine.ad_nil)) (Nat.le_of_ble_eq_true rfl) (by walk_at "mEATOM") (hσ := s2)) ?_
  refine d_for (ds := (((ns.take (6 : Int).toNat).map pCell).map .int)) (fun i σ mu => ∃ rows, mu = some (Str.ofString "rows", rows.map .str) ∧ rows = ((((ns.take (6 : Int).toNat).map pCell).take i).foldl pStep [Str.ofString "/./ab/a", Str.ofString "/./a"]) ∧ rows ≠ [] ∧ rows.length ≤ i + 2 ∧ ∀ x ∈ rows, x.length ≤ 4 * (i + 2)) ok ?it ⟨[Str.ofString "/./ab/a", Str.ofString "/./a"], rfl, rfl, by decide, by decide, by decide⟩ ?_ ?_ ?_
  case it =>
    rw [List.map_map]
    refine eD_comp (xs := ns.take (6 : Int).toNat) (f := fun n => .d (.int n)) (g := fun n => .int (pCell n)) ⟨rfl, by decide, rfl, by decide, rfl, by decide⟩ Caps.none (eD_sliceRaw (j := 6) (eD_name s1) eD_int (by decide) hLg hi (by lia)) (IterOf.list (fun n => .int n)) (by rw [List.length_take]; exact Nat.le_trans (Nat.min_le_left _ _) (by decide)) fun C n hn => ?_
    exact (Mine.eD_bin (Mine.eD_callB2 (id := "abs") (by assumption) (by walk_at "mEOK") (Mine.gB_abs w) rfl (Mine.aD_cons (Mine.eD_name (by walk_at "mELK")) Mine.aD_nil) Mine.cD_abs) (Mine.eD_bin Mine.eD_int Mine.eD_int (Mine.tD_powI (by decide) (by decide) (by decide))) (Mine.tD_modI (by decide)))
  · rintro i σ mu ⟨rows, rfl, _⟩; exact MuNe.of (by decide)
  · rintro i d σ mu hd ⟨rows, rfl, hr, h1, h2, h3⟩
    rw [List.getElem?_map] at hd
    obtain ⟨k, hk, rfl⟩ := Option.map_eq_some_iff.mp hd
    have hi6 : i < 6 := by
      have := (List.getElem?_eq_some_iff.mp hk).1
      rw [List.length_map, List.length_take] at this
      exact Nat.lt_of_lt_of_le this (Nat.min_le_left _ _)
    have hlen : (rows.map Dat.str).length ≤ 16000000 := by rw [List.length_map]; lia
    have hlen2 : (rows.map Dat.str).length ≤ 1000000 := by rw [List.length_map]; lia
    have hst := pStep_ok (n := i + 2) k h1 h2 h3
    have hnext : (((ns.take (6 : Int).toNat).map pCell).take (i + 1)).foldl pStep [Str.ofString "/./ab/a", Str.ofString "/./a"] = pStep rows k := by
      rw [take_get hk, List.foldl_append, ← hr]; rfl
    refine d_if (bb := (k.fmod 9 == 0) && (decide ((rows.length : Int) < 5) && true)) ok (.inr ⟨_, _, rfl, by decide, by
      rw [show (rows.length : Int) = (rows.map Dat.str).length by rw [List.length_map]]
      exact (Mine.tT_and (Mine.tT_cmp (Mine.eD_bin (Mine.eD_name (by walk_at "mELK")) Mine.eD_int (Mine.tD_modI (by decide))) Mine.eD_int Mine.tD_eqI) (fun _ => (Mine.tT_and (Mine.tT_cmp (Mine.eD_callB2 (id := "len") (by assumption) (by walk_at "mEOK") (Mine.gB_len w) rfl (Mine.aD_cons (Mine.eD_name (by walk_at "mELK")) Mine.aD_nil) (Mine.cD_len (by walk_at "mEBOUND"))) Mine.eD_int Mine.tD_ltI) (fun _ => Mine.tT_and0))))⟩) (fun hb => ?_) (fun hb => ?_)
    · refine d_cons (xD_append ok (eF_atom Mine.eD_str rfl) hlen2) (d_nil ?_)
      refine d_nil ⟨_, _, rfl, pStep rows k, ?_, hnext.symm, hst.1, by lia, ?_⟩
      · unfold pStep; rw [if_pos hb, List.map_append]; rfl
      · intro x hx; have := hst.2.2 x hx; lia
    · have hlast : (rows.map Dat.str).getLast? = some (.str (rows.getLastD (Str.ofString ""))) := by
        rw [List.getLast?_map]
        cases rows with
        | nil => exact absurd rfl h1
        | cons y r => rw [List.getLastD_cons, List.getLast?_cons, List.getLastD_eq_getLast?]; rfl
      have hk9 : 0 ≤ k.fmod 9 := Int.fmod_nonneg_of_pos _ (by decide)
      have hk9' : k.fmod 9 < 9 := Int.fmod_lt_of_pos _ (by decide)
      have hpc : [Dat.str (Str.ofString "/"), .str (Str.ofString "/"), .str (Str.ofString "/../"), .str (Str.ofString "a"), .str (Str.ofString "b"), .str (Str.ofString "/a"), .str (Str.ofString "."), .str (Str.ofString "/ab"), .str (Str.ofString "/b")][(k.fmod 9).toNat]? = some (.str (pPiece k)) := by
        show (pieces.map Dat.str)[(k.fmod 9).toNat]? = _
        rw [List.getElem?_map]
        unfold pPiece
        rw [List.getD_eq_getElem?_getD]
        have : (k.fmod 9).toNat < pieces.length := by show _ < 9; lia
        rw [List.getElem?_eq_getElem this]; rfl
      have hpl := pPiece_len k
      have hll : (rows.getLastD (Str.ofString "")).length ≤ 4 * (i + 2) := by
        rw [List.getLast?_map] at hlast
        obtain ⟨z, hz, e⟩ := Option.map_eq_some_iff.mp hlast
        cases e
        exact h3 _ (List.mem_of_getLast? hz)
      refine d_cons (xD_setlast ok (Mine.eD_bin (Mine.eD_sub (Mine.eD_name (by walk_at "mELK")) (Mine.eD_neg Mine.eD_int) (Mine.sD_last (by walk_at "mEGET"))) (Mine.eD_sub (Mine.eD_tuple (ds := [_, _, _, _, _, _, _, _, _]) (Mine.ad_cons Mine.eD_str (Mine.ad_cons Mine.eD_str (Mine.ad_cons Mine.eD_str (Mine.ad_cons Mine.eD_str (Mine.ad_cons Mine.eD_str (Mine.ad_cons Mine.eD_str (Mine.ad_cons Mine.eD_str (Mine.ad_cons Mine.eD_str (Mine.ad_cons Mine.eD_str Mine.ad_nil))))))))) (Nat.le_of_ble_eq_true rfl)) (Mine.eD_bin (Mine.eD_name (by walk_at "mELK")) Mine.eD_int (Mine.tD_modI (by decide))) (Mine.sD_titem (by walk_at "mEBOUND") (by walk_at "mEGET") (by walk_at "mEBOUND"))) (Mine.tD_addS (by walk_at "mEBOUND"))) rfl (by simpa using h1)) (d_nil ?_)
      refine d_nil ⟨_, _, rfl, pStep rows k, ?_, hnext.symm, hst.1, by lia, ?_⟩
      · unfold pStep; rw [if_neg (by rw [hb]; decide), List.map_append, List.map_dropLast]; rfl
      · intro x hx; have := hst.2.2 x hx; lia
  · rintro σ' mu' ⟨rows, rfl, hr, _⟩
    refine d_ret (xD_returnM ok rfl) ?_
    rw [hr, List.length_map, List.take_length]
    rfl
end Mine

namespace Mine
noncomputable def srGo (word x : Str) (col : Int) : Nat → Option (Int × Int) → Int → Int → Option (Int × Int)
  | 0, found, _, _ => found
  | n + 1, found, i, j => if i < col ∧ j ≤ col then (match pSearch word x j.toNat with | none => some (i, j) | some p => srGo word x col n (some (i, j)) p.1 p.2) else found
noncomputable def pSR (word x : Str) (col : Int) : Option (Int × Int) :=
  match pSearch word x 0 with
  | none => none
  | some p => srGo word x col (x.length + 1) none p.1 p.2

theorem fn_sr (w : World) : FnV w 28 8 (fun ds r => ∃ word x col, ds = [.prog word, .d (.str x), .d (.int col)] ∧ r = vOf (pSR word x col) ∧ x.length ≤ 100000 ∧ Goes word x) := by
  have hfill := Mine.fillT w
  revert hfill
  k_fill
  intro hfill
  clear hfill
  refine' fnV_of [Str.ofString "prog", Str.ofString "chars", Str.ofString "col"] ?ho ?hcd ?hb ?hloc ?hnd ?hdb ?hlen (by decide) ?h ?hco ?hgen ?hk ?hcell
  case ho => k_is
  case hcd => k_is
  case hb => intro s vs hv; obtain _ | ⟨v1, _ | ⟨v2, _ | ⟨v3, _ | ⟨v4, _ | ⟨v5, vs⟩⟩⟩⟩⟩ := vs <;> first | (simp at hv; done) | exact BindsTo.of_eq rfl
  case hloc => decide
  case hnd => decide
  case hdb => decide
  case hco => rfl
  case hgen => rfl
  case hk => rfl
  case hcell => decide
  case hlen => rintro ds r ⟨word, x, col, rfl, _⟩; rfl
  rintro c L g ds r ok rm ⟨word, x, col, rfl, rfl, hl, hgo⟩
  have eo := envOk ok.k
  refine Does.body ?_
  generalize hσ0 : lkL _ = σ0
  have s1 : σ0 (Str.ofString "prog") = some (.prog word) := by subst hσ0; rfl
  have s2 : σ0 (Str.ofString "chars") = some (.d (.str x)) := by subst hσ0; rfl
  have s3 : σ0 (Str.ofString "col") = some (.d (.int col)) := by subst hσ0; rfl
  clear hσ0
  refine d_cons (xD_assign ok (Mine.eD_search1 (by assumption) (by walk_at "mROOM") (Mine.eD_name (by walk_at "mELK")) (Mine.eD_name (by walk_at "mELK")) (by walk_at "mEBOUND"))) ?_
  generalize hr : pSR word x col = res
  unfold pSR at hr
  cases h0 : pSearch word x 0 with
  | none =>
    rw [h0] at hr
    subst hr
    rw [show vOf none = .d .none from rfl]
    refine d_if ok (testX (Mine.tT_not (Mine.tT_val (Mine.eD_name (by walk_at "mELK")) Mine.trN))) (fun _ => ?_) (fun h => (nomatch h))
    exact d_ret (xD_return ok Mine.eD_none) rfl
  | some p =>
    obtain ⟨i, j⟩ := p
    rw [h0] at hr
    dsimp only at hr
    rw [show vOf (some (i, j)) = .hit i j from rfl]
    refine d_if ok (testX (Mine.tT_not (Mine.tT_val (Mine.eD_name (by walk_at "mELK")) Mine.trH))) (fun h => (nomatch h)) (fun _ => d_nil ?_)
    refine d_cons (xD_assign ok Mine.eD_none) ?_
    refine d_cons (xD_unpack ok (Mine.eD_span (by assumption) (by walk_at "mROOM") (Mine.eD_name (by walk_at "mELK")))) ?_
    obtain ⟨i0, j0, rfl, rfl, _, g1, g2⟩ := hgo 0 i j h0
    refine d_while (fun n σ mu => mu = none ∧ ∃ (found : Option (Int × Int)) (i j : Nat), σ (Str.ofString "prog") = some (.prog word) ∧ σ (Str.ofString "chars") = some (.d (.str x)) ∧ σ (Str.ofString "col") = some (.d (.int col)) ∧ σ (Str.ofString "m") = some (.hit i j) ∧ σ (Str.ofString "i") = some (.d (.int i)) ∧ σ (Str.ofString "j") = some (.d (.int j)) ∧ σ (Str.ofString "found") = some (vOf found) ∧ i < j ∧ j ≤ x.length ∧ n = x.length - j ∧
      ∃ k, x.length - j < k ∧ res = srGo word x col k found i j) ok ?_ (x.length - j0) ?_
    · rintro n σ mu ⟨rfl, found, i, j, q1, q2, q3, q4, q5, q6, q7, q8, q9, rfl, k, hk, q10⟩
      refine ⟨_, testX (Mine.tT_and (Mine.tT_cmp (Mine.eD_name (by walk_at "mELK")) (Mine.eD_name (by walk_at "mELK")) Mine.tD_ltI) (fun _ => (Mine.tT_and (Mine.tT_cmp (Mine.eD_name (by walk_at "mELK")) (Mine.eD_name (by walk_at "mELK")) Mine.tD_leI) (fun _ => Mine.tT_and0)))), fun hb => ?_, fun hb => ?_⟩
      · obtain ⟨k, rfl⟩ : ∃ k', k = k' + 1 := ⟨k - 1, by lia⟩
        refine d_ret (xD_return ok (Mine.eD_name (by walk_at "mELK"))) ?_
        have : ¬ ((i : Int) < col ∧ (j : Int) ≤ col) := by simpa using hb
        rw [q10, srGo, if_neg this]
      · have hc : ((i : Int) < col ∧ (j : Int) ≤ col) := by simpa using hb
        refine d_cons (xD_assign ok (Mine.eD_name (by walk_at "mELK"))) ?_
        have hij : ((i : Int) == (j : Int)) = false := by simp; lia
        refine d_if (bb := false) ok (testX (by rw [← hij]; exact (Mine.tT_cmp (Mine.eD_name (by walk_at "mELK")) (Mine.eD_name (by walk_at "mELK")) Mine.tD_eqI))) (fun h => (nomatch h)) (fun _ => d_nil ?_)
        refine d_cons (xD_assign ok (Mine.eD_search2 (b := j) (by assumption) (by walk_at "mROOM") (Mine.eD_name (by walk_at "mELK")) (Mine.eD_name (by walk_at "mELK")) (Mine.eD_name (by walk_at "mELK")) (by walk_at "mEBOUND") (by lia))) ?_
        obtain ⟨k, rfl⟩ : ∃ k', k = k' + 1 := ⟨k - 1, by lia⟩
        rw [srGo, if_pos hc, Int.toNat_natCast] at q10
        cases h1 : pSearch word x j with
        | none =>
          rw [h1] at q10
          dsimp only at q10
          rw [show vOf none = .d .none from rfl]
          refine d_if ok (testX (Mine.tT_not (Mine.tT_val (Mine.eD_name (by walk_at "mELK")) Mine.trN))) (fun _ => ?_) (fun h => (nomatch h))
          refine d_brk (Or.inr ⟨_, _, rfl, ?_⟩)
          refine d_ret (xD_return ok (Mine.eD_name (by walk_at "mELK"))) ?_
          rw [q10]; rfl
        | some p =>
          obtain ⟨i', j'⟩ := p
          rw [h1] at q10
          dsimp only at q10
          rw [show vOf (some (i', j')) = .hit i' j' from rfl]
          obtain ⟨i1, j1, rfl, rfl, g3, g4, g5⟩ := hgo j i' j' h1
          refine d_if ok (testX (Mine.tT_not (Mine.tT_val (Mine.eD_name (by walk_at "mELK")) Mine.trH))) (fun h => (nomatch h)) (fun _ => d_nil ?_)
          refine d_cons (xD_unpack ok (Mine.eD_span (by assumption) (by walk_at "mROOM") (Mine.eD_name (by walk_at "mELK")))) ?_
          refine d_nil (Or.inl ⟨_, _, x.length - j1, by lia, rfl, rfl, some (i, j), i1, j1, by walk_at "mELK", by walk_at "mELK", by walk_at "mELK", by walk_at "mELK", by walk_at "mELK", by walk_at "mELK", by show _ = some (Vl.hit i j); walk_at "mELK", g4, g5, rfl, k, by lia, q10⟩)
    · exact ⟨rfl, none, i0, j0, by walk_at "mELK", by walk_at "mELK", by walk_at "mELK", by walk_at "mELK", by walk_at "mELK", by walk_at "mELK", by show _ = some (Vl.d .none); walk_at "mELK", g1, g2, rfl, x.length + 1, by lia, hr.symm⟩
end Mine

namespace Mine
theorem gB_int (w : World) : nsIn (Mine.top.heap_1 w.params) mainGlobals (Str.ofString "int") = some none := by
  have hfill := Mine.fillT w
  revert hfill
  k_fill
  intro hfill
  clear hfill
  change _ = _
  k_is
theorem xD_unpackMap {w : World} {c : Cx} {σ : Sg} {mu : Mu} {x y : Str} {e : Expr} {mp ip cpos xp yp tp pos : Pos} {kk : Nat} {i j : Int} (ok : CxOk w c) (eo : EnvOk c.env) (h : EvalD w c c.env σ e (.d (.list [.str (Str.ofString (toString i)), .str (Str.ofString (toString j))]))) (hi0 : 0 ≤ i) (hi1 : i < 10 ^ 10) (hj0 : 0 ≤ j) (hj1 : j < 10 ^ 10)
    (hb : c.env.builtins = builtinsNs := by rfl) (hx1 : c.env.kindOf (Str.ofString "map") = some .globalImplicit := by rfl) (hx2 : c.env.kindOf (Str.ofString "int") = some .globalImplicit := by rfl) (hx : c.env.kindOf x = some .local := by rfl) (hy : c.env.kindOf y = some .local := by rfl) (hmu : mu = none := by rfl)
    (hd : (x == ("__debug__" : Str)) = false ∧ (x == ("__classdict__" : Str)) = false := by decide) (he : (y == ("__debug__" : Str)) = false ∧ (y == ("__classdict__" : Str)) = false := by decide)
    (he2 : starEach [.Name (Str.ofString "int") ip, e] c.env = (false, eval (.Name (Str.ofString "int") ip) c.env) :: starEach [e] c.env := by rfl) (he3 : starEach [e] c.env = (false, eval e c.env) :: starEach [] c.env := by rfl) (hpl : (backTo cpos (starEach [e] c.env)).any (·.1) = false := by rfl)
    (hs : swapsWithSole [.Tuple [.Name x xp, .Name y yp] kk tp] (.Call (.Name (Str.ofString "map") mp) [.Name (Str.ofString "int") ip, e] [] cpos) pos.line c.env = pure false := by rfl) (hw : swappedStores [.Tuple [.Name x xp, .Name y yp] kk tp] (.Call (.Name (Str.ofString "map") mp) [.Name (Str.ofString "int") ip, e] [] cpos) c.env = pure none := by rfl) :
    ExecD w c σ mu (.Assign [.Tuple [.Name x xp, .Name y yp] kk tp] (.Call (.Name (Str.ofString "map") mp) [.Name (Str.ofString "int") ip, e] [] cpos) pos) (.next (upd (upd σ x (.d (.int i))) y (.d (.int j))) mu) := fun ex n₀ tl s Q E I k => by
  obtain ⟨m, fx, t, I⟩ := I
  subst hmu
  have P := I.pre ok
  refine Assign_Tuple (Call_ (nameG_B P.F ok (gB_map w) (v := .type "map") rfl (by decide) ?_ eo hb hx1 (by decide)) rfl) hs hw
  refine PyProof.Rows.callWith_type1 ((aD_cons (eD_nameB ok eo (gB_int w) rfl (hb := hb) (hx := hx2)) (aD_cons h aD_nil he3) he2) cpos _ _ _ _ _ _ _ ⟨P.F, P.N, P.tab, P.hi, P.rho⟩ fun us hA tkA tlA tA PA UA hvs => ?_) he2 hpl
  (first | refine Mine.all2 hvs fun _ _ h1 h2 => ?_ | refine Mine.dall2 hvs fun _ _ h1 h2 => ?_)
  have e1 := (show _ = _ from h1)
  subst e1
  have I' := I.after PA UA
  refine Mine.inL (show DatIn _ _ _ from h2) fun _ _ _ hml hvl => ?_
  revert hml
  (first | refine Mine.all2 hvl fun _ _ u0z u1z => ?_ | refine Mine.dall2 hvl fun _ _ u0z u1z => ?_)
  (first | refine Mine.inI (show DatIn _ _ _ from u0z) fun _ => ?_ | refine Mine.inS (show DatIn _ _ _ from u0z) fun _ => ?_ | refine Mine.inB (show DatIn _ _ _ from u0z) ?_ | refine Mine.inN (show DatIn _ _ _ from u0z) ?_)
  (first | refine Mine.inI (show DatIn _ _ _ from u1z) fun _ => ?_ | refine Mine.inS (show DatIn _ _ _ from u1z) fun _ => ?_ | refine Mine.inB (show DatIn _ _ _ from u1z) ?_ | refine Mine.inN (show DatIn _ _ _ from u1z) ?_)
  intro hml
  refine map_call (s := { s with heap := hA, toks := tkA }) PA.F PA.N (PA.nnw _ hml).1 fun D h' F' N' lt => ?_
  refine map_unpack2 (s := { s with heap := h', toks := tkA }) (P1 := fun v => ∃ tk, v = .int i tk) (P2 := fun v => ∃ tk, v = .int j tk) F' N' ⟨rfl, rfl⟩ (memR _ (memR _ hml)) (Nat.ne_of_gt (Nat.lt_add_of_pos_right (by decide))) (Nat.succ_ne_self _) (fun p hp => Nat.ne_of_lt (lt p hp)) rfl rfl rfl (fun _ _ => turn_int hi0 hi1) (fun _ _ => turn_int hj0 hj1) ?_
  rintro _ _ h9 tk9 ⟨t1, rfl⟩ ⟨t2, rfl⟩ F9 N9
  show wpAny (theM w) c.A (assignInOrder [assign (.Name x xp) c.env, assign (.Name y yp) c.env] [_, _]) _ _ _
  unfold assignInOrder
  refine wpAny_bind (wpAny_holding (assign_Name (storeX_L F9 N9 (fun h3 F3 N3 => ?_) ok.k hx)))
  unfold assignInOrder
  refine wpAny_bind (wpAny_holding (assign_Name (storeX_L F3 N3 (fun h4 F4 N4 => ?_) ok.k hy)))
  rw [List.append_assoc n₀] at N3 N4
  have J1 := I'.set (h' := h3) (x := x) (d := .d (.int i)) (.int _ _) hx (fun _ _ h => nomatch h) hd.1 hd.2 F3 N3
  have J2 := J1.set (h' := h4) (x := y) (d := .d (.int j)) (.int _ _) hy (fun _ _ h => nomatch h) he.1 he.2 F4 N4
  unfold assignInOrder
  exact wpAny_pure (k .next h4 _ tlA ⟨rfl, _, _, _, J2⟩)
theorem fn_getlc (w : World) : FnV w 35 8 (fun ds r => ∃ (x : Str) (i j : Int), ds = [.d (.str x)] ∧ r = .d (.tuple [.int i, .int j]) ∧ Txt.split x (Str.ofString ".") = [Str.ofString (toString i), Str.ofString (toString j)] ∧ 0 ≤ i ∧ i < 10 ^ 10 ∧ 0 ≤ j ∧ j < 10 ^ 10 ∧ x.length ≤ 100000) := by
  have hfill := Mine.fillT w
  revert hfill
  k_fill
  intro hfill
  clear hfill
  refine' fnV_of [Str.ofString "index"] ?ho ?hcd ?hb ?hloc ?hnd ?hdb ?hlen (by decide) ?h ?hco ?hgen ?hk ?hcell
  case ho => k_is
  case hcd => k_is
  case hb => intro s vs hv; obtain _ | ⟨v1, _ | ⟨v2, _ | ⟨v3, _ | ⟨v4, _ | ⟨v5, vs⟩⟩⟩⟩⟩ := vs <;> first | (simp at hv; done) | exact BindsTo.of_eq rfl
  case hloc => decide
  case hnd => decide
  case hdb => decide
  case hco => rfl
  case hgen => rfl
  case hk => rfl
  case hcell => decide
  case hlen => rintro ds r ⟨x, i, j, rfl, _⟩; rfl
  rintro c L g ds r ok rm ⟨x, i, j, rfl, rfl, hsp, hi0, hi1, hj0, hj1, hl⟩
  have eo := envOk ok.k
  have hx : x.length ≤ 1000000 := by lia
  refine Does.body ?_
  generalize hσ0 : lkL _ = σ0
  have s1 : σ0 (Str.ofString "index") = some (.d (.str x)) := by subst hσ0; rfl
  clear hσ0
  refine d_cons (xD_unpackMap ok eo (EvalD.to (Mine.eD_meth2 (Mine.eD_name (by walk_at "mELK")) Mine.mt_split (Mine.aD_cons Mine.eD_str Mine.aD_nil) (Mine.cD_split (by decide) (by walk_at "mEBOUND"))) (by rw [hsp]; rfl)) hi0 hi1 hj0 hj1) ?_
  exact d_ret (xD_return ok (Mine.eD_tuple (ds := [_, _]) (Mine.ad_cons (Mine.eD_name (by walk_at "mELK")) (Mine.ad_cons (Mine.eD_name (by walk_at "mELK")) Mine.ad_nil)) (Nat.le_of_ble_eq_true rfl))) rfl
end Mine

namespace Mine
theorem an0 {b d : Nat} {l : Lg} (h : AllLt b l) (hb : b ≤ d) : ∀ p ∈ l, p.1 ≠ d := fun p hp => Nat.ne_of_lt (Nat.lt_of_lt_of_le (allLt_mem h p hp) hb)
end Mine
local macro_rules | `(tactic| k_all) => `(tactic| first | with_reducible assumption | exact Mine.an0 (by with_reducible assumption) (by omega))
local macro_rules | `(tactic| k_mem) => `(tactic| assumption)


local macro_rules | `(tactic| walk_at "setAttr ref") => `(tactic| (k_here; k_dflt (refine' Mine.set_fn ?hn ?F ?N ?U ?_; (case hn => first | exact Mine.look_fn_span | exact Mine.look_fn_search); (case F => k_asm); (case N => k_asm); (case U => k_updF)); intro d' h' tk'' tk' F' N' l1; (try dsimp only at N'); (try k_lt l1); (try k_sweep)))
local macro_rules | `(tactic| k_all) => `(tactic| with_reducible assumption)
namespace Mine
/-- what a hit's ledger says: first the code objects are new, then they are known -/
theorem hit_end1 {w : World} {h₀ h : Heap} {L d3 f2 c2 f1 c1 a1 a2 L' : Addr} {hh : Int} {tk t1 t2 ti tj : Tok} {nm q1 q2 x1 x2 : Str} {p1 p2 tp : Pos} {kk : Nat} {scope : Scope} {pm ctv : Value} {oc1 oc2 o1 o2 : Obj} {fd : FuncData} {sl : Array (Option Value)} {vs1 vs2 : Array Value} {i j : Int} {ps2 : Array Value} {rest nk : Lg} {tab : Obj} {P : Prop}
    (kN : News h₀ L h ((d3, ({ cls := .type "dict", data := .dict #[⟨hh, .str (Str.ofString "span") tk, .ref f2⟩] 1 } : Obj)) :: (f2, kla_obj nm q2 noPar (.Tuple [.Name x1 p1, .Name x2 p2] kk tp) scope [(x1, a1), (x2, a2)] pm c2 ctv) :: (c2, oc2) :: (f1, (⟨.type "function", some d3, .func fd, sl⟩ : Obj)) :: (c1, oc1) :: (a2, o2) :: (a1, o1) :: (219, tab) :: (226, tabObj ps2) :: rest))
    (e1 : oc1.data = .fields vs1) (e2 : vs1[1]? = some (.str q1 t1)) (e3 : oc2.data = .fields vs2) (e4 : vs2[1]? = some (.str q2 t2)) (htab : tab = tabObj #[rawInt 278, rawInt 10, .ref c1, rawInt 279, rawInt 15, .ref c2]) (hq1 : q1 = hitQ1) (hq2 : q2 = hitQ2)
    (d1 : o1.data = .cell (some (.int i ti))) (d2 : o2.data = .cell (some (.int j tj))) (hx : x1 ≠ x2) (k1 : scope.names.lookup x1 = some .free) (k2 : scope.names.lookup x2 = some .free)
    (b1 : (x1 == ("__debug__" : Str)) = false) (b2 : (x2 == ("__debug__" : Str)) = false) (b3 : (x1 == ("__classdict__" : Str)) = false) (b4 : (x2 == ("__classdict__" : Str)) = false)
    (hco : scope.isCoroutine = false) (hgen : scope.isGenerator = false) (hk : scope.kind = .function) (hcell : ∀ x ∈ scope.names, x.2 ≠ .cell)
    (hL : AllLt L' rest) (hL1 : @LT.lt Nat _ 219 L') (hL2 : @LT.lt Nat _ 226 L') (za : @LT.lt Nat _ L' a1) (zb : @LT.lt Nat _ L' a2) (z1 : @LT.lt Nat _ L' c1) (z2 : @LT.lt Nat _ L' f1) (z3 : @LT.lt Nat _ L' c2) (z4 : @LT.lt Nat _ L' f2) (z5 : @LT.lt Nat _ L' d3)
    (kq : ∀ tl, News h₀ L h ((219, tab) :: (226, tabObj ps2) :: (tl ++ rest)) → (∀ p ∈ tl, 219 < p.1 ∧ 226 < p.1 ∧ ∀ q ∈ rest, q.1 < p.1) → CodeAtL tl c1 hitQ1 → CodeAtL tl c2 hitQ2 → HitIn w (tl ++ nk) (.ref f1) i j → P) : P := by
  subst hq1 hq2
  have lt : ∀ x : Nat, L' < x → (219 : Nat) < x ∧ (226 : Nat) < x ∧ ∀ q ∈ rest, @LT.lt Nat _ q.1 x := fun x hx => ⟨Nat.lt_trans hL1 hx, Nat.lt_trans hL2 hx, fun q hq => Nat.lt_trans (allLt_mem hL q hq) hx⟩
  refine kq [(d3, ({ cls := .type "dict", data := .dict #[⟨hh, .str (Str.ofString "span") tk, .ref f2⟩] 1 } : Obj)), (f2, kla_obj nm hitQ2 noPar (.Tuple [.Name x1 p1, .Name x2 p2] kk tp) scope [(x1, a1), (x2, a2)] pm c2 ctv), (c2, oc2), (f1, (⟨.type "function", some d3, .func fd, sl⟩ : Obj)), (c1, oc1), (a2, o2), (a1, o1)] (fun p hp => kN p ?_) (fun p hp => ?_)
    ⟨oc1, vs1, t1, .tail _ (.tail _ (.tail _ (.tail _ (.head _)))), e1, e2⟩ ⟨oc2, vs2, t2, .tail _ (.tail _ (.head _)), e3, e4⟩ ⟨f2, ⟨f1, d3, fd, sl, hh, tk, rfl, .tail _ (.tail _ (.tail _ (.head _))), .head _, _, _, _, _, .tail _ (.head _)⟩, ?_⟩
  · simp only [List.cons_append, List.nil_append, List.mem_cons] at hp ⊢
    rcases hp with h | h | h | h | h | h | h | h | h | h <;> simp [h]
  · simp only [List.mem_cons, List.not_mem_nil, or_false] at hp
    rcases hp with rfl | rfl | rfl | rfl | rfl | rfl | rfl
    · exact lt _ z5
    · exact lt _ z4
    · exact lt _ z3
    · exact lt _ z2
    · exact lt _ z1
    · exact lt _ zb
    · exact lt _ za
  · exact lam_calls (l := _) (.tail _ (.head _)) (.tail _ (.tail _ (.head _))) e3 e4 (.tail _ (.tail _ (.tail _ (.tail _ (.tail _ (.tail _ (.head _))))))) d1 (.tail _ (.tail _ (.tail _ (.tail _ (.tail _ (.head _)))))) d2 hx k1 k2 b1 b2 b3 b4 hco hgen hk hcell
theorem hit_end2 {w : World} {h₀ h : Heap} {L d3 f2 c2 f1 a1 a2 L' : Addr} {hh : Int} {tk ti tj : Tok} {nm q2 x1 x2 : Str} {p1 p2 tp : Pos} {kk : Nat} {scope : Scope} {pm ctv : Value} {o1 o2 : Obj} {fd : FuncData} {sl : Array (Option Value)} {i j : Int} {ps2 : Array Value} {rest nk : Lg} {tab : Obj} {P : Prop}
    (kN : News h₀ L h ((d3, ({ cls := .type "dict", data := .dict #[⟨hh, .str (Str.ofString "span") tk, .ref f2⟩] 1 } : Obj)) :: (f2, kla_obj nm q2 noPar (.Tuple [.Name x1 p1, .Name x2 p2] kk tp) scope [(x1, a1), (x2, a2)] pm c2 ctv) :: (f1, (⟨.type "function", some d3, .func fd, sl⟩ : Obj)) :: (a2, o2) :: (a1, o1) :: (219, tab) :: (226, tabObj ps2) :: rest))
    (hc2 : CodeAtL nk c2 hitQ2) (hq2 : q2 = hitQ2)
    (d1 : o1.data = .cell (some (.int i ti))) (d2 : o2.data = .cell (some (.int j tj))) (hx : x1 ≠ x2) (k1 : scope.names.lookup x1 = some .free) (k2 : scope.names.lookup x2 = some .free)
    (b1 : (x1 == ("__debug__" : Str)) = false) (b2 : (x2 == ("__debug__" : Str)) = false) (b3 : (x1 == ("__classdict__" : Str)) = false) (b4 : (x2 == ("__classdict__" : Str)) = false)
    (hco : scope.isCoroutine = false) (hgen : scope.isGenerator = false) (hk : scope.kind = .function) (hcell : ∀ x ∈ scope.names, x.2 ≠ .cell)
    (hL : AllLt L' rest) (hL1 : @LT.lt Nat _ 219 L') (hL2 : @LT.lt Nat _ 226 L') (za : @LT.lt Nat _ L' a1) (zb : @LT.lt Nat _ L' a2) (z2 : @LT.lt Nat _ L' f1) (z4 : @LT.lt Nat _ L' f2) (z5 : @LT.lt Nat _ L' d3)
    (kq : ∀ tl, News h₀ L h ((219, tab) :: (226, tabObj ps2) :: (tl ++ rest)) → (∀ p ∈ tl, 219 < p.1 ∧ 226 < p.1 ∧ ∀ q ∈ rest, q.1 < p.1) → HitIn w (tl ++ nk) (.ref f1) i j → P) : P := by
  subst hq2
  have lt : ∀ x : Nat, L' < x → (219 : Nat) < x ∧ (226 : Nat) < x ∧ ∀ q ∈ rest, @LT.lt Nat _ q.1 x := fun x hx => ⟨Nat.lt_trans hL1 hx, Nat.lt_trans hL2 hx, fun q hq => Nat.lt_trans (allLt_mem hL q hq) hx⟩
  obtain ⟨oc2, vs2, t2, hm, e3, e4⟩ := hc2
  refine kq [(d3, ({ cls := .type "dict", data := .dict #[⟨hh, .str (Str.ofString "span") tk, .ref f2⟩] 1 } : Obj)), (f2, kla_obj nm hitQ2 noPar (.Tuple [.Name x1 p1, .Name x2 p2] kk tp) scope [(x1, a1), (x2, a2)] pm c2 ctv), (f1, (⟨.type "function", some d3, .func fd, sl⟩ : Obj)), (a2, o2), (a1, o1)] (fun p hp => kN p ?_) (fun p hp => ?_)
    ⟨f2, ⟨f1, d3, fd, sl, hh, tk, rfl, .tail _ (.tail _ (.head _)), .head _, _, _, _, _, .tail _ (.head _)⟩, ?_⟩
  · simp only [List.cons_append, List.nil_append, List.mem_cons] at hp ⊢
    rcases hp with h | h | h | h | h | h | h | h <;> simp [h]
  · simp only [List.mem_cons, List.not_mem_nil, or_false] at hp
    rcases hp with rfl | rfl | rfl | rfl | rfl
    · exact lt _ z5
    · exact lt _ z4
    · exact lt _ z2
    · exact lt _ zb
    · exact lt _ za
  · exact lam_calls (l := _) (.tail _ (.head _)) (memR _ hm) e3 e4 (.tail _ (.tail _ (.tail _ (.tail _ (.head _))))) d1 (.tail _ (.tail _ (.tail _ (.head _)))) d2 hx k1 k2 b1 b2 b3 b4 hco hgen hk hcell
theorem hit_w (w : World) (i j : Int) (ti tj : Tok) (loose : List Str) (mean : ExcName → Option Value) (mg mb : Str → Option Value) (dp un : Nat) (gd : Option (List Code)) (cn : Str) (cs : Scope) (a : Addr) (ccd : Value) (cl : List (Str × Addr)) (outer : List Env) (A₀ : Around) (base h₀ : Heap) (L : Addr) (m : Str → Option Value) (rest nk : Lg) (ps2 : Array Value) (s : Shared) (Q E : Value → Shared → Prop)
   (B : Below A₀ base outer h₀) (F : Fr h₀ L s.heap m) (X : (Mine.top.heap_1 w.params).In h₀) (ps1 : Array Value) (hps : ps1 = #[] ∨ ∃ ca cb, ps1 = #[rawInt 278, rawInt 10, .ref ca, rawInt 279, rawInt 15, .ref cb] ∧ CodeAtL nk ca hitQ1 ∧ CodeAtL nk cb hitQ2) (N : News h₀ L s.heap ((219, tabObj ps1) :: (226, tabObj ps2) :: rest)) (hr1 : ∀ p ∈ rest, p.1 ≠ 219) (hr2 : ∀ p ∈ rest, p.1 ≠ 226) (T : Top topProg loose mean mg mb h₀) (hk : cs.kind = .function) (hd : dp + 3 < recursionLimit) (hu : un + 8 * 3 + 64 < cLine)
   (kq : ∀ f h' tk' tl ps1', Fr h₀ L h' m → News h₀ L h' ((219, tabObj ps1') :: (226, tabObj ps2) :: (tl ++ rest)) → (∀ p ∈ tl, 219 < p.1 ∧ 226 < p.1 ∧ ∀ q ∈ rest, q.1 < p.1) → (ps1' = ps1 ∨ ∃ ca cb, ps1' = #[rawInt 278, rawInt 10, .ref ca, rawInt 279, rawInt 15, .ref cb] ∧ CodeAtL tl ca hitQ1 ∧ CodeAtL tl cb hitQ2) → HitIn w (tl ++ nk) (.ref f) i j → Q (.ref f) { s with heap := h', toks := tk' }) :
    wpAny (model PySem.Challenge.rw_in0110_01.row.prog w) (ktrTop dp un gd cn cs L a ccd cl outer) (call (.ref 224) [.int i ti, .int j tj]) Q E s := by
  have hfill := Mine.fillT w
  revert hfill
  k_fill
  intro hfill
  clear hfill
  obtain rfl | ⟨ca, cb, rfl, hca, hcb⟩ := hps
  · refine wpAny_call ?_; k_dflt (refine' code_defC ?k1 ?k2 ?k3 ?k4 ?k5 ?kA ?kF ?kK ?k6 ?k7 ?k8 ?k9 ?kB ?kD ?_ ?c2 ?c3 ?c4; (case kA => exact rfl); (case kF => exact rfl); (case kK => first | assumption | exact rfl); (case k1 => k_asm); (case k2 => k_asm); (case k3 => k_asm); (case k4 => k_asm); (case k5 => k_asm); (case k6 => k_is); (case k7 => k_is); (case k8 => ktr_room); (case k9 => first | exact BindsTo.of_eq rfl | exact binds_K (by k_in) rfl (by k_is) rfl rfl rfl | fail "enterc"); (case kB => exact rfl); (case kD => decide +kernel); (case c2 => exact rfl); (case c3 => exact rfl); (case c4 => exact rfl); k_whole; intro g' L' h' tk' cells' FG' F' N' Y' B' X' T' l1; (try k_lt l1); k_cells Y'; (try simp only [List.cons_append, List.nil_append] at N'); (try dsimp only); (try k_lift B'); (try k_fold))
    have cc1 : CodeHd g' 223 219 := codeHd_of_K X' (by rfl)
    have hL : AllLt L' rest := l1.2.2
    have hL1 := l1.1
    have hL2 := l1.2.1
    repeat' (first | (k_unfold; (try dsimp only)) | (law_purse 150000 => walk1) | (law_purse 150000 => (dsimp only; walk1)) | fail "no step")
    rename_i o1 o2 d1 d2 f1 c1 oc1 vs1 t1 ct1 h1 tk1 e1 e2 l1a l2a h2 f2 c2 oc2 vs2 t2 ct2 h3 tk3 e3 e4 l1b l2b d3 h4 tkk tk4 F4 N4 l1c kF kN Tc kX
    have z1 : L' < c1 := Nat.lt_of_succ_lt (Nat.lt_of_succ_lt l1a.1)
    have z2 : L' < f1 := Nat.lt_trans z1 l2a
    have z3 : L' < c2 := Nat.lt_trans z2 l1b.1
    have z4 : L' < f2 := Nat.lt_trans z3 l2b
    have z5 : L' < d3 := Nat.lt_trans z4 l1c.1
    refine hit_end1 (w := w) (nk := nk) (ti := ti) (tj := tj) kN e1 e2 e3 e4 rfl (by rfl) (by rfl) (d2.trans (by rfl)) (d1.trans (by rfl)) (by decide) (by rfl) (by rfl) (by decide) (by decide) (by decide) (by decide) rfl rfl rfl (by decide) hL hL1 hL2 (Nat.lt_succ_self _) (Nat.lt_succ_of_lt (Nat.lt_succ_self _)) z1 z2 z3 z4 z5 fun tl y1 y2 y3 y4 y5 => ?_
    exact kq f1 _ _ tl _ kF y1 y2 (.inr ⟨c1, c2, rfl, y3, y4⟩) y5
  · refine wpAny_call ?_; k_dflt (refine' code_defC ?k1 ?k2 ?k3 ?k4 ?k5 ?kA ?kF ?kK ?k6 ?k7 ?k8 ?k9 ?kB ?kD ?_ ?c2 ?c3 ?c4; (case kA => exact rfl); (case kF => exact rfl); (case kK => first | assumption | exact rfl); (case k1 => k_asm); (case k2 => k_asm); (case k3 => k_asm); (case k4 => k_asm); (case k5 => k_asm); (case k6 => k_is); (case k7 => k_is); (case k8 => ktr_room); (case k9 => first | exact BindsTo.of_eq rfl | exact binds_K (by k_in) rfl (by k_is) rfl rfl rfl | fail "enterc"); (case kB => exact rfl); (case kD => decide +kernel); (case c2 => exact rfl); (case c3 => exact rfl); (case c4 => exact rfl); k_whole; intro g' L' h' tk' cells' FG' F' N' Y' B' X' T' l1; (try k_lt l1); k_cells Y'; (try simp only [List.cons_append, List.nil_append] at N'); (try dsimp only); (try k_lift B'); (try k_fold))
    have cc1 : CodeHd g' 223 219 := codeHd_of_K X' (by rfl)
    have hL : AllLt L' rest := l1.2.2
    have hL1 := l1.1
    have hL2 := l1.2.1
    repeat' (first | (k_unfold; (try dsimp only)) | (law_purse 150000 => walk1) | (law_purse 150000 => (dsimp only; walk1)) | fail "no step")
    rename_i o1 o2 d1 d2 f1 ct1 h1 tk1 l1a h2 f2 ct2 h3 tk3 l1b d3 h4 tkk tk4 F4 N4 l1c kF kN Tc kX
    have z2 : L' < f1 := Nat.lt_of_succ_lt (Nat.lt_of_succ_lt l1a.1)
    have z4 : L' < f2 := Nat.lt_trans z2 l1b.1
    have z5 : L' < d3 := Nat.lt_trans z4 l1c.1
    refine hit_end2 (w := w) (nk := nk) (ti := ti) (tj := tj) kN hcb (by rfl) (d2.trans (by rfl)) (d1.trans (by rfl)) (by decide) (by rfl) (by rfl) (by decide) (by decide) (by decide) (by decide) rfl rfl rfl (by decide) hL hL1 hL2 (Nat.lt_succ_self _) (Nat.lt_succ_of_lt (Nat.lt_succ_self _)) z2 z4 z5 fun tl y1 y2 y5 => ?_
    exact kq f1 _ _ tl _ kF y1 y2 (.inl rfl) y5

theorem fn_hit (w : World) : FnV w 224 3 (fun ds r => ∃ i j, ds = [.d (.int i), .d (.int j)] ∧ r = .hit i j) := by
  rintro c ok rm fx m news ⟨t1, t2⟩ s Q E vs ds r F N T H D ⟨i, j, rfl, rfl⟩ k
  (first | refine Mine.all2 D fun _ _ a1 a2 => ?_ | refine Mine.dall2 D fun _ _ a1 a2 => ?_)
  (first | refine Mine.inI (show DatIn _ _ _ from a1) fun _ => ?_ | refine Mine.inS (show DatIn _ _ _ from a1) fun _ => ?_ | refine Mine.inB (show DatIn _ _ _ from a1) ?_ | refine Mine.inN (show DatIn _ _ _ from a1) ?_)
  (first | refine Mine.inI (show DatIn _ _ _ from a2) fun _ => ?_ | refine Mine.inS (show DatIn _ _ _ from a2) fun _ => ?_ | refine Mine.inB (show DatIn _ _ _ from a2) ?_ | refine Mine.inN (show DatIn _ _ _ from a2) ?_)
  refine hit_w w i j _ _ c.loose c.mean c.mg c.mb c.dp c.un c.gd c.cn c.cs c.a c.ccd c.cl c.outer c.A₀ c.base c.h₀ c.L m (fx ++ news) news t2 s Q E ok.B F ok.X t1 T.1 N (fun p hp => (H p hp).1) (fun p hp => (H p hp).2) ok.T ok.k rm.d rm.u fun f h' tk' tl ps1' F' N' lt hp hh => ?_
  refine k (.ref f) h' tk' tl (ps1', t2) F' (fun p hp => N' p ?_) ⟨?_, (T.mono memL).2⟩ ⟨fun q hq p hp => Nat.ne_of_lt ((lt p hp).2.2 q hq), fun p hp => ⟨Nat.ne_of_gt (lt p hp).1, Nat.ne_of_gt (lt p hp).2.1⟩⟩ ?_
  · simp only [List.mem_append, List.mem_cons, List.not_mem_nil, or_false] at hp ⊢
    rcases hp with (h | h) | h | h | h <;> simp [h]
  · rcases hp with rfl | ⟨ca, cb, rfl, x, y⟩
    · exact (T.mono memL).1
    · exact .inr ⟨ca, cb, rfl, x.mono memR, y.mono memR⟩
  · exact VIn.mono (d := .hit i j) (fun p hp => by rcases List.mem_append.mp hp with h | h; exact memR p h; exact memL p h) hh
end Mine

namespace Mine
open PySem.StrLaws Builtin Builtin.Str
noncomputable abbrev ch (x : Str) : List Nat := x.cps.toList
theorem ch_ext {x y : Str} (h : ch x = ch y) : x = y := by
  cases x; cases y
  simp only [ch] at h
  congr 1
  exact Array.toList_inj.mp h
theorem ch_len (x : Str) : (ch x).length = x.length := rfl
theorem ch_app (x y : Str) : ch (x ++ y) = ch x ++ ch y := by
  show (x ++ y).cps.toList = _
  show (x.cps ++ y.cps).toList = _
  rw [Array.toList_append]
noncomputable def clipN (v : Option Int) (d n : Nat) : Nat := match v with
  | none => d
  | some i => (max 0 (min (if i < 0 then i + n else i) (n : Int))).toNat
theorem ssi_eq (l u : Option Int) (n : Nat) : strSliceIndices l u 1 n = (List.range (clipN u n n - clipN l 0 n)).map (fun k => clipN l 0 n + k) := by
  have key : ∀ a b : Int, 0 ≤ a → 0 ≤ b → sliceRange a b 1 = (List.range (b.toNat - a.toNat)).map (fun k => a.toNat + k) := by
    intro a b ha hb
    unfold sliceRange
    simp only [show (1 : Int) > 0 by decide, if_true]
    have : (if a < b then (b - a + 1 - 1) / 1 else 0 : Int).toNat = b.toNat - a.toNat := by
      split
      · rw [Int.ediv_one]; lia
      · rename_i h; show 0 = _; lia
    rw [this]
    refine List.map_congr_left fun k _ => ?_
    lia
  unfold strSliceIndices
  simp only [show (1 : Int) > 0 by decide, if_true]
  rw [key]
  · cases l <;> cases u <;> simp [clipN]
  · cases l with
    | none => exact Int.le_refl 0
    | some i => exact Int.le_max_left _ _
  · cases u with
    | none => exact Int.natCast_nonneg n
    | some i => exact Int.le_max_left _ _
theorem pick_range {α : Type} (l : List α) (s : Nat) : ∀ k, ((List.range k).map (fun i => s + i)).filterMap (l[·]?) = (l.drop s).take k := by
  intro k
  induction k with
  | zero => rfl
  | succ k ih =>
    rw [List.range_succ, List.map_append, List.filterMap_append, ih, List.take_add_one, List.getElem?_drop]
    congr 1
theorem clipN_le (v : Option Int) {d n : Nat} (hd : d ≤ n) : clipN v d n ≤ n := by
  cases v with
  | none => exact hd
  | some i => simp only [clipN]; lia
theorem ch_slice (x : Str) (l u : Option Int) : ch (Txt.slice x l u) = ((ch x).drop (clipN l 0 x.length)).take (clipN u x.length x.length - clipN l 0 x.length) := by
  unfold Txt.slice
  have h1 := clipN_le l (Nat.zero_le x.length)
  have h2 := clipN_le u (Nat.le_refl x.length)
  split
  · rename_i h
    simp only [ssi_eq, List.length_map, List.length_range, Bool.and_eq_true, beq_iff_eq] at h
    have e1 : clipN l 0 x.length = 0 := by lia
    have e2 : clipN u x.length x.length = x.length := by lia
    rw [e1, e2, List.drop_zero, Nat.sub_zero]
    exact (List.take_of_length_le (Nat.le_refl _)).symm
  · show ((strSliceIndices l u 1 x.length).filterMap (x.cps[·]?)).toArray.toList = _
    rw [ssi_eq]
    rw [← pick_range]
    simp [ch]
theorem sl_ss (x : Str) (a b : Nat) : ch (Txt.slice x (some a) (some b)) = ((ch x).drop a).take (b - a) := by
  rw [ch_slice]
  have e1 : clipN (some (a : Int)) 0 x.length = min a x.length := by simp only [clipN]; rw [if_neg (by lia)]; lia
  have e2 : clipN (some (b : Int)) x.length x.length = min b x.length := by simp only [clipN]; rw [if_neg (by lia)]; lia
  rw [e1, e2]
  by_cases h : a ≤ x.length
  · rw [Nat.min_eq_left h]
    by_cases h' : b ≤ x.length
    · rw [Nat.min_eq_left h']
    · rw [Nat.min_eq_right (Nat.le_of_lt (Nat.lt_of_not_le h'))]
      rw [List.take_of_length_le (l := (ch x).drop a) (by rw [List.length_drop]; exact Nat.le_refl _), List.take_of_length_le (by rw [List.length_drop, ch_len]; lia)]
  · rw [Nat.min_eq_right (Nat.le_of_lt (Nat.lt_of_not_le h)), List.drop_of_length_le (l := ch x) (i := x.length) (Nat.le_refl _), List.drop_of_length_le (l := ch x) (i := a) (by rw [ch_len]; lia)]
    simp
theorem sl_ns (x : Str) (b : Nat) : ch (Txt.slice x none (some b)) = (ch x).take b := by
  have h := sl_ss x 0 b
  rw [ch_slice] at h ⊢
  have : clipN (some ((0 : Nat) : Int)) 0 x.length = clipN none 0 x.length := by simp only [clipN]; rw [if_neg (by lia)]; lia
  rw [this] at h
  rw [h, List.drop_zero, Nat.sub_zero]
theorem sl_sn (x : Str) (a : Nat) : ch (Txt.slice x (some a) none) = (ch x).drop a := by
  rw [ch_slice]
  have e1 : clipN (some (a : Int)) 0 x.length = min a x.length := by simp only [clipN]; rw [if_neg (by lia)]; lia
  rw [e1]
  show ((ch x).drop (min a x.length)).take (x.length - min a x.length) = _
  by_cases h : a ≤ x.length
  · rw [Nat.min_eq_left h, List.take_of_length_le (by rw [List.length_drop, ch_len]; exact Nat.le_refl _)]
  · rw [Nat.min_eq_right (Nat.le_of_lt (Nat.lt_of_not_le h)), List.drop_of_length_le (l := ch x) (i := x.length) (Nat.le_refl _), List.drop_of_length_le (l := ch x) (i := a) (by rw [ch_len]; lia)]
    simp
-- the first place of a part
theorem occ_stop (s sub : Str) (hi limit : Nat) : ∀ (l : List Nat) (st : Array Nat × Nat), limit ≤ st.fst.size → (forIn l st (occBody s sub hi limit)).run.fst = st.fst
  | [], st, h => rfl
  | a :: l, st, h => by
    rw [List.forIn_cons]
    unfold occBody
    rw [if_neg (by intro z; exact absurd z.1.1.1 (Nat.not_lt.mpr h))]
    exact occ_stop s sub hi limit l st h
theorem occ_first (s sub : Str) (hi : Nat) : ∀ (l : List Nat) (free : Nat), (∀ i ∈ l, free ≤ i) →
    (forIn l ((#[] : Array Nat), free) (occBody s sub hi 1)).run.fst.toList = (l.find? (fun i => decide (i + sub.length ≤ hi) && subAt s sub i)).toList
  | [], free, _ => rfl
  | a :: l, free, hf => by
    rw [List.forIn_cons]
    unfold occBody
    have ha : free ≤ a := hf a (.head _)
    by_cases hc : a + sub.length ≤ hi ∧ subAt s sub a = true
    · rw [if_pos ⟨⟨⟨by simp, ha⟩, hc.1⟩, hc.2⟩, List.find?_cons_of_pos (by simp [hc.1, hc.2])]
      show (forIn l ((#[] : Array Nat).push a, a + sub.length) (occBody s sub hi 1)).run.fst.toList = _
      rw [occ_stop _ _ _ _ _ _ (by simp)]
      rfl
    · rw [if_neg (fun h => hc ⟨h.1.2, h.2⟩), List.find?_cons_of_neg (by simpa using hc)]
      exact occ_first s sub hi l free fun i hi' => hf i (.tail _ hi')
/-- the first place, from i on, where p stands in l -/
noncomputable def fnd (l p : List Nat) (i : Nat) : Option Nat := (List.range' i (l.length + 1 - i)).find? (fun k => decide (k + p.length ≤ l.length) && ((l.drop k).take p.length == p))
theorem find3_eq (x y : Str) (i : Nat) : Txt.find3 x y i = match fnd (ch x) (ch y) i with | some k => (k : Int) | none => -1 := by
  unfold Txt.find3
  have e : fromIndex x.length (i : Int) = i := by unfold fromIndex; rw [if_neg (by lia)]; lia
  rw [e, occ_eq, occ_first _ _ _ _ _ (fun j hj => (List.mem_range'_1.mp hj).1)]
  unfold fnd
  have : (fun k => decide (k + y.length ≤ x.length) && subAt x y k) = (fun k => decide (k + (ch y).length ≤ (ch x).length) && (((ch x).drop k).take (ch y).length == ch y)) := by
    funext k
    rw [subAt_eq]
    rfl
  rw [this]
  show (match ((List.range' i ((ch x).length + 1 - i)).find? _).toList with | k :: _ => (k : Int) | [] => -1) = _
  cases (List.range' i ((ch x).length + 1 - i)).find? _ <;> rfl
theorem fnd_some {l p : List Nat} {i k : Nat} (h : fnd l p i = some k) : i ≤ k ∧ k + p.length ≤ l.length ∧ (l.drop k).take p.length = p ∧ ∀ j, i ≤ j → j < k → (l.drop j).take p.length ≠ p := by
  unfold fnd at h
  have h1 := List.find?_some h
  have h2 := List.mem_of_find?_eq_some h
  simp only [Bool.and_eq_true, decide_eq_true_eq, beq_iff_eq] at h1
  have h3 := List.mem_range'_1.mp h2
  refine ⟨h3.1, h1.1, h1.2, fun j hj hk hp => ?_⟩
  rw [List.find?_eq_some_iff_append] at h
  obtain ⟨_, as, bs, e, hn⟩ := h
  have hjm : j ∈ as := by
    have hj' : j ∈ List.range' i (l.length + 1 - i) := List.mem_range'_1.mpr ⟨hj, by lia⟩
    rw [e] at hj'
    rcases List.mem_append.mp hj' with h | h
    · exact h
    · exfalso
      have hs := List.pairwise_lt_range' (s := i) (n := l.length + 1 - i)
      rw [e] at hs
      have hs2 := (List.pairwise_append.mp hs).2.1
      rcases List.mem_cons.mp h with rfl | h
      · exact Nat.lt_irrefl _ hk
      · exact Nat.lt_asymm hk ((List.pairwise_cons.mp hs2).1 j h)
  have := hn j hjm
  simp only [Bool.not_eq_true', Bool.and_eq_false_iff, decide_eq_false_iff_not, beq_eq_false_iff_ne] at this
  rcases this with h | h
  · exact h (by lia)
  · exact h hp
theorem fnd_none {l p : List Nat} {i : Nat} (h : fnd l p i = none) (j : Nat) (hj : i ≤ j) (hl : j + p.length ≤ l.length) : (l.drop j).take p.length ≠ p := by
  unfold fnd at h
  have := List.find?_eq_none.mp h j (List.mem_range'_1.mpr ⟨hj, by lia⟩)
  simpa [hl] using this
theorem fnd_is {l p : List Nat} {i k : Nat} (h1 : i ≤ k) (h2 : k + p.length ≤ l.length) (h3 : (l.drop k).take p.length = p) (h4 : ∀ j, i ≤ j → j < k → (l.drop j).take p.length ≠ p) : fnd l p i = some k := by
  cases h : fnd l p i with
  | none => exact absurd h3 (fnd_none h k h1 h2)
  | some k' =>
    obtain ⟨a, b, c, d⟩ := fnd_some h
    congr 1
    rcases Nat.lt_trichotomy k k' with hlt | he | hgt
    · exact absurd h3 (d k h1 hlt)
    · exact he.symm
    · exact absurd c (h4 k' a hgt)
theorem fnd_no {l p : List Nat} {i : Nat} (h : ∀ j, i ≤ j → j + p.length ≤ l.length → (l.drop j).take p.length ≠ p) : fnd l p i = none := by
  cases hq : fnd l p i with
  | none => rfl
  | some k =>
    obtain ⟨a, b, c, d⟩ := fnd_some hq
    exact absurd c (h k a b)
end Mine

namespace Mine
theorem slash_lt {x : Str} {k : Nat} (h : Txt.slice x (some (k : Int)) (some ((k : Int) + 1)) = Str.ofString "/") : k < x.length := by
  have h1 := sl_ss x k (k + 1)
  rw [show ((k : Int) + 1) = ((k + 1 : Nat) : Int) by lia] at h
  rw [h] at h1
  by_cases hk : k < x.length
  · exact hk
  · rw [List.drop_of_length_le (by rw [ch_len]; lia)] at h1
    simp at h1
    exact absurd h1 (by decide)
theorem skipS_stop {x : Str} {n k : Nat} (h : ¬ Txt.slice x (some (k : Int)) (some ((k : Int) + 1)) = Str.ofString "/") : skipS x n k = k := by
  cases n with
  | zero => rfl
  | succ n => unfold skipS; exact if_neg h
theorem skipS_go {x : Str} {n k : Nat} (hn : n = x.length - k) (h : Txt.slice x (some (k : Int)) (some ((k : Int) + 1)) = Str.ofString "/") : skipS x n k = skipS x (x.length - (k + 1)) (k + 1) := by
  have := slash_lt h
  obtain ⟨n', rfl⟩ : ∃ n', n = n' + 1 := ⟨n - 1, by lia⟩
  rw [skipS, if_pos h]
  congr 1
  lia

theorem CallsOk.imp {w : World} {g : Addr} {n : Nat} {vs : List Value} {R R' : Lg → Value → Prop} {l : Lg} (h : CallsOk w g n vs R l) (hi : ∀ l v, R l v → R' l v) : CallsOk w g n vs R' l :=
  fun c ok rm fx m news' t s Q E hn F N T H k => h c ok rm fx m news' t s Q E hn F N T H fun v h' tk' tl t' a b d e r => k v h' tk' tl t' a b d e (hi _ _ r)
theorem hitOr_of {w : World} {l : Lg} {v : Value} {r : Option (Int × Int)} (h : VIn w l v (vOf r)) : HitOr w l v r := by
  cases r with
  | none => cases (show DatIn l v .none from h); rfl
  | some p => exact h
theorem prog_in {w : World} {l : Lg} {f1 d3 g T1 c1 a1 : Addr} {fd : FuncData} {sl : Array (Option Value)} {hh : Int} {tk t1 t0 tw : Tok} {nm qual wn an bn : Str} {params : Arguments} {body : List Stmt} {scope : Scope} {pm ctv : Value} {oc1 o1 : Obj} {vs1 : Array Value} {word : Str}
    (hf : (f1, (⟨.type "function", some d3, .func fd, sl⟩ : Obj)) ∈ l) (hd : (d3, ({ cls := .type "dict", data := .dict #[⟨hh, .str (Str.ofString "search") tk, .ref g⟩] 1 } : Obj)) ∈ l) (hg : (g, fnD nm qual params body scope [(wn, a1)] T1 pm c1 ctv) ∈ l) (hT : (T1, ({ cls := .type "tuple", data := .seq #[.int 0 t0] } : Obj)) ∈ l)
    (hc : (c1, oc1) ∈ l) (e1 : oc1.data = .fields vs1) (e2 : vs1[1]? = some (.str qual t1)) (ho : (a1, o1) ∈ l) (hw : o1.data = .cell (some (.str word tw)))
    (hb1 : ∀ (s : Shared) (x : Str) (t : Tok), s.heap.get? T1 = some ({ cls := .type "tuple", data := .seq #[.int 0 t0] } : Obj) → BindsTo s (fnX nm qual params body scope [(wn, a1)] (.ref T1) .none .none pm none (.ref c1) ctv) ⟨[.str x t], []⟩ ([an, bn].zip [.str x t, .int 0 t0]))
    (hb2 : ∀ (s : Shared) (x : Str) (t : Tok) (b : Int) (u : Tok), s.heap.get? T1 = some ({ cls := .type "tuple", data := .seq #[.int 0 t0] } : Obj) → BindsTo s (fnX nm qual params body scope [(wn, a1)] (.ref T1) .none .none pm none (.ref c1) ctv) ⟨[.str x t, .int b u], []⟩ ([an, bn].zip [.str x t, .int b u]))
    (hloc : ∀ y ∈ [an, bn], scope.names.lookup y = some .local) (hnd : [an, bn].Nodup) (hdb : ∀ y ∈ [an, bn], (y == ("__debug__" : Str)) = false ∧ (y == ("__classdict__" : Str)) = false) (hwd : (wn == ("__debug__" : Str)) = false ∧ (wn == ("__classdict__" : Str)) = false) (hwk : scope.names.lookup wn = some .free)
    (hco : scope.isCoroutine = false) (hgen : scope.isGenerator = false) (hk : scope.kind = .function) (hcell : ∀ x ∈ scope.names, x.2 ≠ .cell)
    (hbody : ∀ (c : Cx) L' g' (x : Str) (b : Nat), CxOk w (c.intoN qual scope L' g (.ref c1) g' [(wn, a1)] [(a1, o1)]) → Rm (c.intoN qual scope L' g (.ref c1) g' [(wn, a1)] [(a1, o1)]) 4 → x.length ≤ 100000 → b ≤ 1000000 →
      ExecsD w (c.intoN qual scope L' g (.ref c1) g' [(wn, a1)] [(a1, o1)]) (both (lkL ([an, bn].zip [.d (.str x), .d (.int b)])) (upd (fun _ => none) wn (.d (.str word)))) none body (.ret (vOf (pSearch word x b)))) : ProgIn w l (.ref f1) word := by
  have hcap : ∀ p ∈ [(a1, o1)], p ∈ l := fun p hp => by rw [List.mem_singleton.mp hp]; exact ho
  have hσ : ∀ (x : Str) d, (upd (fun _ => none) wn (.d (.str word)) : Sg) x = some d → (x == ("__debug__" : Str)) = false ∧ (x == ("__classdict__" : Str)) = false ∧ scope.names.lookup x = some .free ∧ ∃ a o v, [(wn, a1)].lookup x = some a ∧ (a, o) ∈ [(a1, o1)] ∧ o.data = .cell (some v) ∧ VIn w [] v d := by
    intro x d hx
    unfold upd at hx
    by_cases h : x = wn
    · subst h
      rw [if_pos rfl] at hx; cases hx
      exact ⟨hwd.1, hwd.2, hwk, a1, o1, _, List.lookup_cons_self, .head _, hw, .str word tw⟩
    · rw [if_neg h] at hx; cases hx
  refine ⟨g, ⟨f1, d3, fd, sl, hh, tk, rfl, hf, hd, _, _, _, _, hg⟩, fun x t hx => ?_, fun x t b u hx hb => ?_⟩
  · refine (enterN (r := vOf (pSearch word x 0)) (ds := [.d (.str x), .d (.int 0)]) (vs' := [.str x t, .int 0 t0]) [an, bn] (upd (fun _ => none) wn (.d (.str word))) hg hc e1 e2 hcap (fun s h => hb1 s x t (h _ hT)) rfl (.cons (.str _ _) (.cons (.int _ _) .nil)) hloc hnd hdb hσ (by decide) (fun c L' g' ok rm => hbody c L' g' x 0 ok rm hx (by decide)) hco hgen hk hcell).imp fun l v h => hitOr_of h
  · exact (enterN (r := vOf (pSearch word x b)) (ds := [.d (.str x), .d (.int b)]) (vs' := [.str x t, .int b u]) [an, bn] (upd (fun _ => none) wn (.d (.str word))) hg hc e1 e2 hcap (fun s h => hb2 s x t b u (h _ hT)) rfl (.cons (.str _ _) (.cons (.int _ _) .nil)) hloc hnd hdb hσ (by decide) (fun c L' g' ok rm => hbody c L' g' x b ok rm hx hb) hco hgen hk hcell).imp fun l v h => hitOr_of h
end Mine

namespace Mine
theorem prog_end1 {w : World} {h₀ h : Heap} {L d3 f1 c2 g c1 T1 a1 L' : Addr} {hh : Int} {tk t1 t2 t0 tw : Tok} {nm qual wn an bn q2 : Str} {params : Arguments} {body : List Stmt} {scope : Scope} {pm ctv : Value} {oc1 oc2 o1 : Obj} {fd : FuncData} {sl : Array (Option Value)} {vs1 vs2 : Array Value} {ps1 : Array Value} {rest nk : Lg} {tab : Obj} {P : Prop} {word : Str}
    (kN : News h₀ L h ((d3, ({ cls := .type "dict", data := .dict #[⟨hh, .str (Str.ofString "search") tk, .ref g⟩] 1 } : Obj)) :: (f1, (⟨.type "function", some d3, .func fd, sl⟩ : Obj)) :: (c2, oc2) :: (g, fnD nm qual params body scope [(wn, a1)] T1 pm c1 ctv) :: (c1, oc1) :: (T1, ({ cls := .type "tuple", data := .seq #[.int 0 t0] } : Obj)) :: (226, tab) :: (a1, o1) :: (219, tabObj ps1) :: rest))
    (lt : ∀ x : Nat, L' < x → (219 : Nat) < x ∧ (226 : Nat) < x ∧ ∀ q ∈ rest, @LT.lt Nat _ q.1 x) (y0 : @LT.lt Nat _ L' a1) (y1 : @LT.lt Nat _ L' T1) (y2 : @LT.lt Nat _ L' c1) (y3 : @LT.lt Nat _ L' g) (y4 : @LT.lt Nat _ L' c2) (y5 : @LT.lt Nat _ L' f1) (y6 : @LT.lt Nat _ L' d3)
    (e1 : oc1.data = .fields vs1) (e2 : vs1[1]? = some (.str qual t1)) (e3 : oc2.data = .fields vs2) (e4 : vs2[1]? = some (.str q2 t2)) (htab : tab = tabObj #[rawInt 283, rawInt 4, .ref c1, rawInt 294, rawInt 11, .ref c2]) (hq1 : qual = prgQ1) (hq2 : q2 = prgQ2)
    (hw : o1.data = .cell (some (.str word tw)))
    (hb1 : ∀ (s : Shared) (x : Str) (t : Tok), s.heap.get? T1 = some ({ cls := .type "tuple", data := .seq #[.int 0 t0] } : Obj) → BindsTo s (fnX nm qual params body scope [(wn, a1)] (.ref T1) .none .none pm none (.ref c1) ctv) ⟨[.str x t], []⟩ ([an, bn].zip [.str x t, .int 0 t0]))
    (hb2 : ∀ (s : Shared) (x : Str) (t : Tok) (b : Int) (u : Tok), s.heap.get? T1 = some ({ cls := .type "tuple", data := .seq #[.int 0 t0] } : Obj) → BindsTo s (fnX nm qual params body scope [(wn, a1)] (.ref T1) .none .none pm none (.ref c1) ctv) ⟨[.str x t, .int b u], []⟩ ([an, bn].zip [.str x t, .int b u]))
    (hloc : ∀ y ∈ [an, bn], scope.names.lookup y = some .local) (hnd : [an, bn].Nodup) (hdb : ∀ y ∈ [an, bn], (y == ("__debug__" : Str)) = false ∧ (y == ("__classdict__" : Str)) = false) (hwd : (wn == ("__debug__" : Str)) = false ∧ (wn == ("__classdict__" : Str)) = false) (hwk : scope.names.lookup wn = some .free)
    (hco : scope.isCoroutine = false) (hgen : scope.isGenerator = false) (hk : scope.kind = .function) (hcell : ∀ x ∈ scope.names, x.2 ≠ .cell)
    (hbody : ∀ (c : Cx) L' g' (x : Str) (b : Nat), CxOk w (c.intoN qual scope L' g (.ref c1) g' [(wn, a1)] [(a1, o1)]) → Rm (c.intoN qual scope L' g (.ref c1) g' [(wn, a1)] [(a1, o1)]) 4 → x.length ≤ 100000 → b ≤ 1000000 →
      ExecsD w (c.intoN qual scope L' g (.ref c1) g' [(wn, a1)] [(a1, o1)]) (both (lkL ([an, bn].zip [.d (.str x), .d (.int b)])) (upd (fun _ => none) wn (.d (.str word)))) none body (.ret (vOf (pSearch word x b))))
    (kq : ∀ tl, News h₀ L h ((219, tabObj ps1) :: (226, tab) :: (tl ++ rest)) → (∀ p ∈ tl, 219 < p.1 ∧ 226 < p.1 ∧ ∀ q ∈ rest, q.1 < p.1) → CodeAtL tl c1 prgQ1 → CodeAtL tl c2 prgQ2 → ProgIn w (tl ++ nk) (.ref f1) word → P) : P := by
  refine kq [(d3, ({ cls := .type "dict", data := .dict #[⟨hh, .str (Str.ofString "search") tk, .ref g⟩] 1 } : Obj)), (f1, (⟨.type "function", some d3, .func fd, sl⟩ : Obj)), (c2, oc2), (g, fnD nm qual params body scope [(wn, a1)] T1 pm c1 ctv), (c1, oc1), (T1, ({ cls := .type "tuple", data := .seq #[.int 0 t0] } : Obj)), (a1, o1)] (fun p hp => kN p ?_) (fun p hp => ?_)
    ⟨oc1, vs1, t1, .tail _ (.tail _ (.tail _ (.tail _ (.head _)))), e1, hq1 ▸ e2⟩ ⟨oc2, vs2, t2, .tail _ (.tail _ (.head _)), e3, hq2 ▸ e4⟩
    (prog_in (l := _) (.tail _ (.head _)) (.head _) (.tail _ (.tail _ (.tail _ (.head _)))) (.tail _ (.tail _ (.tail _ (.tail _ (.tail _ (.head _)))))) (.tail _ (.tail _ (.tail _ (.tail _ (.head _))))) e1 e2 (.tail _ (.tail _ (.tail _ (.tail _ (.tail _ (.tail _ (.head _))))))) hw hb1 hb2 hloc hnd hdb hwd hwk hco hgen hk hcell hbody)
  · simp only [List.cons_append, List.nil_append, List.mem_cons] at hp ⊢
    rcases hp with h | h | h | h | h | h | h | h | h | h <;> simp [h]
  · simp only [List.mem_cons, List.not_mem_nil, or_false] at hp
    rcases hp with rfl | rfl | rfl | rfl | rfl | rfl | rfl
    · exact lt _ y6
    · exact lt _ y5
    · exact lt _ y4
    · exact lt _ y3
    · exact lt _ y2
    · exact lt _ y1
    · exact lt _ y0
theorem prog_end2 {w : World} {h₀ h : Heap} {L d3 f1 g c1 T1 a1 L' : Addr} {hh : Int} {tk t0 tw : Tok} {nm qual wn an bn : Str} {params : Arguments} {body : List Stmt} {scope : Scope} {pm ctv : Value} {o1 : Obj} {fd : FuncData} {sl : Array (Option Value)} {ps1 : Array Value} {rest nk : Lg} {tab : Obj} {P : Prop} {word : Str}
    (kN : News h₀ L h ((d3, ({ cls := .type "dict", data := .dict #[⟨hh, .str (Str.ofString "search") tk, .ref g⟩] 1 } : Obj)) :: (f1, (⟨.type "function", some d3, .func fd, sl⟩ : Obj)) :: (g, fnD nm qual params body scope [(wn, a1)] T1 pm c1 ctv) :: (T1, ({ cls := .type "tuple", data := .seq #[.int 0 t0] } : Obj)) :: (a1, o1) :: (219, tabObj ps1) :: (226, tab) :: rest))
    (lt : ∀ x : Nat, L' < x → (219 : Nat) < x ∧ (226 : Nat) < x ∧ ∀ q ∈ rest, @LT.lt Nat _ q.1 x) (y0 : @LT.lt Nat _ L' a1) (y1 : @LT.lt Nat _ L' T1) (y3 : @LT.lt Nat _ L' g) (y5 : @LT.lt Nat _ L' f1) (y6 : @LT.lt Nat _ L' d3)
    (hc1 : CodeAtL nk c1 prgQ1) (hq1 : qual = prgQ1)
    (hw : o1.data = .cell (some (.str word tw)))
    (hb1 : ∀ (s : Shared) (x : Str) (t : Tok), s.heap.get? T1 = some ({ cls := .type "tuple", data := .seq #[.int 0 t0] } : Obj) → BindsTo s (fnX nm qual params body scope [(wn, a1)] (.ref T1) .none .none pm none (.ref c1) ctv) ⟨[.str x t], []⟩ ([an, bn].zip [.str x t, .int 0 t0]))
    (hb2 : ∀ (s : Shared) (x : Str) (t : Tok) (b : Int) (u : Tok), s.heap.get? T1 = some ({ cls := .type "tuple", data := .seq #[.int 0 t0] } : Obj) → BindsTo s (fnX nm qual params body scope [(wn, a1)] (.ref T1) .none .none pm none (.ref c1) ctv) ⟨[.str x t, .int b u], []⟩ ([an, bn].zip [.str x t, .int b u]))
    (hloc : ∀ y ∈ [an, bn], scope.names.lookup y = some .local) (hnd : [an, bn].Nodup) (hdb : ∀ y ∈ [an, bn], (y == ("__debug__" : Str)) = false ∧ (y == ("__classdict__" : Str)) = false) (hwd : (wn == ("__debug__" : Str)) = false ∧ (wn == ("__classdict__" : Str)) = false) (hwk : scope.names.lookup wn = some .free)
    (hco : scope.isCoroutine = false) (hgen : scope.isGenerator = false) (hk : scope.kind = .function) (hcell : ∀ x ∈ scope.names, x.2 ≠ .cell)
    (hbody : ∀ (c : Cx) L' g' (x : Str) (b : Nat), CxOk w (c.intoN qual scope L' g (.ref c1) g' [(wn, a1)] [(a1, o1)]) → Rm (c.intoN qual scope L' g (.ref c1) g' [(wn, a1)] [(a1, o1)]) 4 → x.length ≤ 100000 → b ≤ 1000000 →
      ExecsD w (c.intoN qual scope L' g (.ref c1) g' [(wn, a1)] [(a1, o1)]) (both (lkL ([an, bn].zip [.d (.str x), .d (.int b)])) (upd (fun _ => none) wn (.d (.str word)))) none body (.ret (vOf (pSearch word x b))))
    (kq : ∀ tl, News h₀ L h ((219, tabObj ps1) :: (226, tab) :: (tl ++ rest)) → (∀ p ∈ tl, 219 < p.1 ∧ 226 < p.1 ∧ ∀ q ∈ rest, q.1 < p.1) → ProgIn w (tl ++ nk) (.ref f1) word → P) : P := by
  subst hq1
  obtain ⟨oc1, vs1, t1, hm, e1, e2⟩ := hc1
  refine kq [(d3, ({ cls := .type "dict", data := .dict #[⟨hh, .str (Str.ofString "search") tk, .ref g⟩] 1 } : Obj)), (f1, (⟨.type "function", some d3, .func fd, sl⟩ : Obj)), (g, fnD nm prgQ1 params body scope [(wn, a1)] T1 pm c1 ctv), (T1, ({ cls := .type "tuple", data := .seq #[.int 0 t0] } : Obj)), (a1, o1)] (fun p hp => kN p ?_) (fun p hp => ?_)
    (prog_in (l := _) (.tail _ (.head _)) (.head _) (.tail _ (.tail _ (.head _))) (.tail _ (.tail _ (.tail _ (.head _)))) (memR _ hm) e1 e2 (.tail _ (.tail _ (.tail _ (.tail _ (.head _))))) hw hb1 hb2 hloc hnd hdb hwd hwk hco hgen hk hcell hbody)
  · simp only [List.cons_append, List.nil_append, List.mem_cons] at hp ⊢
    rcases hp with h | h | h | h | h | h | h | h <;> simp [h]
  · simp only [List.mem_cons, List.not_mem_nil, or_false] at hp
    rcases hp with rfl | rfl | rfl | rfl | rfl
    · exact lt _ y6
    · exact lt _ y5
    · exact lt _ y3
    · exact lt _ y1
    · exact lt _ y0
theorem prog_w (w : World) (x : Str) (tx : Tok) (loose : List Str) (mean : ExcName → Option Value) (mg mb : Str → Option Value) (dp un : Nat) (gd : Option (List Code)) (cn : Str) (cs : Scope) (a : Addr) (ccd : Value) (cl : List (Str × Addr)) (outer : List Env) (A₀ : Around) (base h₀ : Heap) (L : Addr) (m : Str → Option Value) (rest nk : Lg) (ps1 : Array Value) (s : Shared) (Q E : Value → Shared → Prop)
   (B : Below A₀ base outer h₀) (F : Fr h₀ L s.heap m) (X : (Mine.top.heap_1 w.params).In h₀) (ps2 : Array Value) (hps : ps2 = #[] ∨ ∃ ca cb, ps2 = #[rawInt 283, rawInt 4, .ref ca, rawInt 294, rawInt 11, .ref cb] ∧ CodeAtL nk ca prgQ1 ∧ CodeAtL nk cb prgQ2) (N : News h₀ L s.heap ((219, tabObj ps1) :: (226, tabObj ps2) :: rest)) (hr1 : ∀ p ∈ rest, p.1 ≠ 219) (hr2 : ∀ p ∈ rest, p.1 ≠ 226) (T : Top topProg loose mean mg mb h₀) (hk : cs.kind = .function) (hd : dp + 3 < recursionLimit) (hu : un + 8 * 3 + 64 < cLine) (hxl : x.length ≤ 100000)
   (kq : ∀ f h' tk' tl ps2', Fr h₀ L h' m → News h₀ L h' ((219, tabObj ps1) :: (226, tabObj ps2') :: (tl ++ rest)) → (∀ p ∈ tl, 219 < p.1 ∧ 226 < p.1 ∧ ∀ q ∈ rest, q.1 < p.1) → (ps2' = ps2 ∨ ∃ ca cb, ps2' = #[rawInt 283, rawInt 4, .ref ca, rawInt 294, rawInt 11, .ref cb] ∧ CodeAtL tl ca prgQ1 ∧ CodeAtL tl cb prgQ2) → ProgIn w (tl ++ nk) (.ref f) x → Q (.ref f) { s with heap := h', toks := tk' }) :
    wpAny (model PySem.Challenge.rw_in0110_01.row.prog w) (ktrTop dp un gd cn cs L a ccd cl outer) (call (.ref 231) [.str x tx]) Q E s := by
  have hfill := Mine.fillT w
  revert hfill
  k_fill
  intro hfill
  clear hfill
  obtain rfl | ⟨ca, cb, rfl, hca, hcb⟩ := hps
  · refine wpAny_call ?_; k_dflt (refine' code_defC ?k1 ?k2 ?k3 ?k4 ?k5 ?kA ?kF ?kK ?k6 ?k7 ?k8 ?k9 ?kB ?kD ?_ ?c2 ?c3 ?c4; (case kA => exact rfl); (case kF => exact rfl); (case kK => first | assumption | exact rfl); (case k1 => k_asm); (case k2 => k_asm); (case k3 => k_asm); (case k4 => k_asm); (case k5 => k_asm); (case k6 => k_is); (case k7 => k_is); (case k8 => ktr_room); (case k9 => first | exact BindsTo.of_eq rfl | exact binds_K (by k_in) rfl (by k_is) rfl rfl rfl | fail "enterc"); (case kB => exact rfl); (case kD => decide +kernel); (case c2 => exact rfl); (case c3 => exact rfl); (case c4 => exact rfl); k_whole; intro g' L' h' tk' cells' FG' F' N' Y' B' X' T' l1; (try k_lt l1); k_cells Y'; (try simp only [List.cons_append, List.nil_append] at N'); (try dsimp only); (try k_lift B'); (try k_fold))
    have cc1 : CodeHd g' 230 226 := codeHd_of_K X' (by rfl)
    have hL : AllLt L' rest := l1.2.2
    have hL1 := l1.1
    have hL2 := l1.2.1
    rename_i oW dW
    refine wpAny_execs_cons ?_
    refine execDefD rfl rfl rfl (wpAny_Constant_int ?_)
    refine makeD (rest := (L' + 1, oW) :: (219, tabObj ps1) :: rest) F' N' (.tail _ (.tail _ (.head _))) (fun z hz => ?_) T' cc1 rfl (by kn_triples) (by kn_among) rfl rfl rfl (fun c' => #[rawInt 283, rawInt 4, .ref c']) (fun _ => rfl) fun g c1 oc1 vs1 t1 ct1 T1 h1 tk1 F1 N1 e1 e2 z1 z2 z3 => ?_
    · rcases List.mem_cons.mp hz with rfl | hz
      · exact ⟨.head _, Nat.ne_of_gt (Nat.lt_succ_of_lt hL2)⟩
      · rcases List.mem_cons.mp hz with rfl | hz
        · exact ⟨.tail _ (.head _), by show (219 : Nat) ≠ 226; decide⟩
        · exact ⟨.tail _ (.tail _ (.tail _ hz)), hr2 _ hz⟩
    · refine storeX_L F1 N1 (fun h2 F2 N2 => ?_) rfl rfl
      clear F1 N1 F' N'
      dsimp only at N2 ⊢
      k_lt z1
      k_lt2 z2
      k_lt2 z3
      repeat' (first | (k_unfold; (try dsimp only)) | (law_purse 150000 => walk1) | (law_purse 150000 => (dsimp only; walk1)) | fail "no step")
      rename_i f1 c2 oc2 vs2 t2 ct2 h3 tk3 e3 e4 l1b l2b h3' d3 h4 tkk tk4 F4 N4 l1c kF kN Tc kX
      have lt : ∀ x : Nat, L' < x → (219 : Nat) < x ∧ (226 : Nat) < x ∧ ∀ q ∈ rest, @LT.lt Nat _ q.1 x := fun x hx => ⟨Nat.lt_trans hL1 hx, Nat.lt_trans hL2 hx, fun q hq => Nat.lt_trans (allLt_mem hL q hq) hx⟩
      have y1 : L' < T1 := Nat.lt_of_succ_lt z1.1
      have y2 : L' < c1 := Nat.lt_trans y1 z2
      have y3 : L' < g := Nat.lt_trans y2 z3
      have y4 : L' < c2 := Nat.lt_trans y3 l1b.1
      have y5 : L' < f1 := Nat.lt_trans y4 l2b
      have y6 : L' < d3 := Nat.lt_trans y5 l1c.1
      refine prog_end1 (w := w) (nk := nk) kN lt (Nat.lt_succ_self _) y1 y2 y3 y4 y5 y6 e1 e2 e3 e4 (by rfl) (by rfl) (by rfl) (dW.trans (by rfl)) (an := Str.ofString "chars") (bn := Str.ofString "begin") ?hb1 ?hb2 (by decide) (by decide) (by decide) (by decide) (by rfl) rfl rfl rfl (by decide) ?hbody fun tl w1 w2 w3 w4 w5 => kq f1 _ _ tl _ kF w1 w2 (.inr ⟨c1, c2, rfl, w3, w4⟩) w5
      case hb1 => intro s y t h; exact BindsTo.of_defaults rfl h rfl rfl rfl
      case hb2 => intro s y t b u h; exact BindsTo.of_defaults rfl h rfl rfl rfl
      case hbody =>
        intro c L2 g2 y b ok rm hy hb
        have eo := envOk ok.k
        refine Does.body ?_
        generalize hσ0 : both _ _ = σ0
        have s1 : σ0 (Str.ofString "chars") = some (.d (.str y)) := by subst hσ0; rfl
        have s2 : σ0 (Str.ofString "begin") = some (.d (.int b)) := by subst hσ0; rfl
        have s3 : σ0 (Str.ofString "word") = some (.d (.str x)) := by subst hσ0; rfl
        clear hσ0
        have hll : (y ++ Str.ofString "/").length = y.length + 1 := by rw [Str.length_append]; rfl
        have hl1 : (Str.ofString "/" ++ x).length = x.length + 1 := by rw [Str.length_append]; show 1 + _ = _; lia
        have hl2 : (Str.ofString "/").length = 1 := rfl
        by_cases hw : x.length = 0
        · refine d_if (bb := ((x.length : Int) != 0)) ok (testX (Mine.tT_val (Mine.eD_name (by walk_at "mELK")) (Mine.trS (by walk_at "mEBOUND")))) (fun h => absurd h (by simp [hw])) (fun _ => d_nil ?_)
          refine d_cons (xD_assign ok (Mine.eD_name (by walk_at "mELK"))) ?_
          unfold pSearch
          rw [if_pos hw]
          refine d_while (fun n σ mu => mu = none ∧ ∃ k : Nat, σ (Str.ofString "chars") = some (.d (.str y)) ∧ σ (Str.ofString "first") = some (.d (.int k)) ∧ n = y.length - k ∧ k ≤ 1100000 ∧ (k ≤ b ∨ k ≤ y.length) ∧ skipS y (y.length - b) b = skipS y (y.length - k) k) ok ?_ (y.length - b) ⟨rfl, b, by walk_at "mELK", by walk_at "mELK", rfl, by lia, .inl (Nat.le_refl _), rfl⟩
          rintro n σ mu ⟨rfl, k, q1, q2, rfl, q3, q4, q5⟩
          refine ⟨_, testX (Mine.tT_cmp (Mine.eD_sliceS_ss (Mine.eD_name (by walk_at "mELK")) (Mine.eD_name (by walk_at "mELK")) (Mine.eD_bin (Mine.eD_name (by walk_at "mELK")) Mine.eD_int Mine.tD_addI) (by walk_at "mEBOUND")) Mine.eD_str Mine.tD_eqS), fun hb => ?_, fun hb => ?_⟩
          · have hs : ¬ Txt.slice y (some (k : Int)) (some ((k : Int) + 1)) = Str.ofString "/" := by simpa using hb
            rw [q5, skipS_stop hs]
            refine d_if (bb := decide ((k : Int) ≥ (y.length : Int))) ok (testX (Mine.tT_cmp (Mine.eD_name (by walk_at "mELK")) (Mine.eD_callB2 (id := "len") (by assumption) (by walk_at "mEOK") (Mine.gB_len w) rfl (Mine.aD_cons (Mine.eD_name (by walk_at "mELK")) Mine.aD_nil) (Mine.cD_strlen (by walk_at "mEBOUND"))) Mine.tD_geI)) (fun h => ?_) (fun h => d_nil ?_)
            · rw [if_pos (by simpa using h)]
              exact d_ret (xD_return ok Mine.eD_none) rfl
            · rw [if_neg (by simpa using h)]
              refine d_cons (xD_assign ok (Mine.eD_meth2 (Mine.eD_name (by walk_at "mELK")) Mine.mt_find (Mine.aD_cons Mine.eD_str (Mine.aD_cons (Mine.eD_name (by walk_at "mELK")) Mine.aD_nil)) Mine.cD_find3)) ?_
              by_cases hk : Txt.find3 y (Str.ofString "/") k ≥ 0
              · refine d_ret (xD_return (r := .hit k (Txt.find3 y (Str.ofString "/") k)) ok ?_) (by dsimp only; rw [if_pos hk]; rfl)
                refine eD_callG2 (by assumption) (by walk_at "mEOK") (gF_law_hit w) (gK_law_hit w) (aD_cons (Mine.eD_name (by walk_at "mELK")) (aD_cons (eD_if (b := decide (Txt.find3 y (Str.ofString "/") k ≥ 0)) (d := .d (.int (Txt.find3 y (Str.ofString "/") k))) (Mine.tT_cmp (Mine.eD_name (by walk_at "mELK")) Mine.eD_int Mine.tD_geI) (fun _ => (Mine.eD_name (by walk_at "mELK"))) (fun h => absurd hk (by simpa using h))) aD_nil)) (cD_fn (by assumption) (fn_hit w) (by walk_at "mROOM") ⟨_, _, rfl, rfl⟩)
              · refine d_ret (xD_return (r := .hit k y.length) ok ?_) (by dsimp only; rw [if_neg hk]; rfl)
                refine eD_callG2 (by assumption) (by walk_at "mEOK") (gF_law_hit w) (gK_law_hit w) (aD_cons (Mine.eD_name (by walk_at "mELK")) (aD_cons (eD_if (b := decide (Txt.find3 y (Str.ofString "/") k ≥ 0)) (d := .d (.int y.length)) (Mine.tT_cmp (Mine.eD_name (by walk_at "mELK")) Mine.eD_int Mine.tD_geI) (fun h => absurd (by simpa using h) hk) (fun _ => (Mine.eD_callB2 (id := "len") (by assumption) (by walk_at "mEOK") (Mine.gB_len w) rfl (Mine.aD_cons (Mine.eD_name (by walk_at "mELK")) Mine.aD_nil) (Mine.cD_strlen (by walk_at "mEBOUND"))))) aD_nil)) (cD_fn (by assumption) (fn_hit w) (by walk_at "mROOM") ⟨_, _, rfl, rfl⟩)
          · have hs : Txt.slice y (some (k : Int)) (some ((k : Int) + 1)) = Str.ofString "/" := by simpa using hb
            have hk := slash_lt hs
            refine d_cons (xD_assign ok (Mine.eD_bin (Mine.eD_name (by walk_at "mELK")) Mine.eD_int Mine.tD_addI)) (d_nil (Or.inl ⟨_, _, y.length - (k + 1), by lia, rfl, rfl, k + 1, by walk_at "mELK", ?_, rfl, by lia, .inr hk, by rw [q5, skipS_go rfl hs]⟩))
            exact upd_self
        · refine d_if (bb := ((x.length : Int) != 0)) ok (testX (Mine.tT_val (Mine.eD_name (by walk_at "mELK")) (Mine.trS (by walk_at "mEBOUND")))) (fun _ => ?_) (fun h => absurd h (by simp; lia))
          refine d_cons (xD_assign ok (Mine.eD_bin (Mine.eD_meth2 (Mine.eD_bin (Mine.eD_name (by walk_at "mELK")) Mine.eD_str (Mine.tD_addS (by walk_at "mEBOUND"))) Mine.mt_find (Mine.aD_cons (Mine.eD_bin (Mine.eD_bin Mine.eD_str (Mine.eD_name (by walk_at "mELK")) (Mine.tD_addS (by walk_at "mEBOUND"))) Mine.eD_str (Mine.tD_addS (by walk_at "mEBOUND"))) (Mine.aD_cons (Mine.eD_callB2 (id := "max") (by assumption) (by walk_at "mEOK") (Mine.gB_max w) rfl (Mine.aD_cons (Mine.eD_bin (Mine.eD_name (by walk_at "mELK")) Mine.eD_int Mine.tD_subI) (Mine.aD_cons Mine.eD_int Mine.aD_nil)) Mine.cD_max) Mine.aD_nil)) Mine.cD_find3) Mine.eD_int Mine.tD_addI)) ?_
          unfold pSearch
          rw [if_neg hw]
          dsimp only
          generalize (Txt.find3 (y ++ Str.ofString "/") (Str.ofString "/" ++ x ++ Str.ofString "/") (if (0 : Int) > (b : Int) - 1 then 0 else (b : Int) - 1)) + 1 = f
          by_cases hf : f = 0
          · rw [if_pos hf]
            refine d_ret (xD_return (r := .d .none) ok (eD_if (b := (f != 0)) (Mine.tT_val (Mine.eD_name (by walk_at "mELK")) Mine.trI) (fun h => absurd h (by simp [hf])) (fun _ => Mine.eD_none))) rfl
          · rw [if_neg hf]
            refine d_ret (xD_return (r := .hit f (f + x.length)) ok (eD_if (b := (f != 0)) (Mine.tT_val (Mine.eD_name (by walk_at "mELK")) Mine.trI) (fun _ => (Mine.eD_callG2 (by assumption) (by walk_at "mEOK") (Mine.gF_law_hit w) (Mine.gK_law_hit w) (Mine.aD_cons (Mine.eD_name (by walk_at "mELK")) (Mine.aD_cons (Mine.eD_bin (Mine.eD_name (by walk_at "mELK")) (Mine.eD_callB2 (id := "len") (by assumption) (by walk_at "mEOK") (Mine.gB_len w) rfl (Mine.aD_cons (Mine.eD_name (by walk_at "mELK")) Mine.aD_nil) (Mine.cD_strlen (by walk_at "mEBOUND"))) Mine.tD_addI) Mine.aD_nil)) (Mine.cD_fn (by assumption) (Mine.fn_hit w) (by walk_at "mROOM") ⟨_, _, rfl, rfl⟩))) (fun h => absurd h (by simp [hf])))) rfl
  · refine wpAny_call ?_; k_dflt (refine' code_defC ?k1 ?k2 ?k3 ?k4 ?k5 ?kA ?kF ?kK ?k6 ?k7 ?k8 ?k9 ?kB ?kD ?_ ?c2 ?c3 ?c4; (case kA => exact rfl); (case kF => exact rfl); (case kK => first | assumption | exact rfl); (case k1 => k_asm); (case k2 => k_asm); (case k3 => k_asm); (case k4 => k_asm); (case k5 => k_asm); (case k6 => k_is); (case k7 => k_is); (case k8 => ktr_room); (case k9 => first | exact BindsTo.of_eq rfl | exact binds_K (by k_in) rfl (by k_is) rfl rfl rfl | fail "enterc"); (case kB => exact rfl); (case kD => decide +kernel); (case c2 => exact rfl); (case c3 => exact rfl); (case c4 => exact rfl); k_whole; intro g' L' h' tk' cells' FG' F' N' Y' B' X' T' l1; (try k_lt l1); k_cells Y'; (try simp only [List.cons_append, List.nil_append] at N'); (try dsimp only); (try k_lift B'); (try k_fold))
    have cc1 : CodeHd g' 230 226 := codeHd_of_K X' (by rfl)
    have hL : AllLt L' rest := l1.2.2
    have hL1 := l1.1
    have hL2 := l1.2.1
    rename_i oW dW
    refine wpAny_execs_cons ?_
    refine execDefD rfl rfl rfl (wpAny_Constant_int ?_)
    refine makeDhit (c' := ca) F' N' (.tail _ (.tail _ (.head _))) T' cc1 rfl (by kn_triples) (by kn_hit) rfl rfl rfl fun g ct1 T1 h1 tk1 F1 N1 z1 z2 => ?_
    refine storeX_L F1 N1 (fun h2 F2 N2 => ?_) rfl rfl
    clear F1 N1 F' N'
    dsimp only at N2 ⊢
    k_lt z1
    k_lt2 z2
    repeat' (first | (k_unfold; (try dsimp only)) | (law_purse 150000 => walk1) | (law_purse 150000 => (dsimp only; walk1)) | fail "no step")
    rename_i f1 ct2 h3 tk3 l1b h3' d3 h4 tkk tk4 F4 N4 l1c kF kN Tc kX
    have lt : ∀ x : Nat, L' < x → (219 : Nat) < x ∧ (226 : Nat) < x ∧ ∀ q ∈ rest, @LT.lt Nat _ q.1 x := fun x hx => ⟨Nat.lt_trans hL1 hx, Nat.lt_trans hL2 hx, fun q hq => Nat.lt_trans (allLt_mem hL q hq) hx⟩
    have y1 : L' < T1 := Nat.lt_of_succ_lt z1.1
    have y3 : L' < g := Nat.lt_trans y1 z2
    have y5 : L' < f1 := Nat.lt_trans y3 l1b.1
    have y6 : L' < d3 := Nat.lt_trans y5 l1c.1
    refine prog_end2 (w := w) (nk := nk) kN lt (Nat.lt_succ_self _) y1 y3 y5 y6 hca (by rfl) (dW.trans (by rfl)) (an := Str.ofString "chars") (bn := Str.ofString "begin") ?hb1 ?hb2 (by decide) (by decide) (by decide) (by decide) (by rfl) rfl rfl rfl (by decide) ?hbody fun tl w1 w2 w5 => kq f1 _ _ tl _ kF w1 w2 (.inl rfl) w5
    case hb1 => intro s y t h; exact BindsTo.of_defaults rfl h rfl rfl rfl
    case hb2 => intro s y t b u h; exact BindsTo.of_defaults rfl h rfl rfl rfl
    case hbody =>
      intro c L2 g2 y b ok rm hy hb
      have eo := envOk ok.k
      refine Does.body ?_
      generalize hσ0 : both _ _ = σ0
      have s1 : σ0 (Str.ofString "chars") = some (.d (.str y)) := by subst hσ0; rfl
      have s2 : σ0 (Str.ofString "begin") = some (.d (.int b)) := by subst hσ0; rfl
      have s3 : σ0 (Str.ofString "word") = some (.d (.str x)) := by subst hσ0; rfl
      clear hσ0
      have hll : (y ++ Str.ofString "/").length = y.length + 1 := by rw [Str.length_append]; rfl
      have hl1 : (Str.ofString "/" ++ x).length = x.length + 1 := by rw [Str.length_append]; show 1 + _ = _; lia
      have hl2 : (Str.ofString "/").length = 1 := rfl
      by_cases hw : x.length = 0
      · refine d_if (bb := ((x.length : Int) != 0)) ok (testX (Mine.tT_val (Mine.eD_name (by walk_at "mELK")) (Mine.trS (by walk_at "mEBOUND")))) (fun h => absurd h (by simp [hw])) (fun _ => d_nil ?_)
        refine d_cons (xD_assign ok (Mine.eD_name (by walk_at "mELK"))) ?_
        unfold pSearch
        rw [if_pos hw]
        refine d_while (fun n σ mu => mu = none ∧ ∃ k : Nat, σ (Str.ofString "chars") = some (.d (.str y)) ∧ σ (Str.ofString "first") = some (.d (.int k)) ∧ n = y.length - k ∧ k ≤ 1100000 ∧ (k ≤ b ∨ k ≤ y.length) ∧ skipS y (y.length - b) b = skipS y (y.length - k) k) ok ?_ (y.length - b) ⟨rfl, b, by walk_at "mELK", by walk_at "mELK", rfl, by lia, .inl (Nat.le_refl _), rfl⟩
        rintro n σ mu ⟨rfl, k, q1, q2, rfl, q3, q4, q5⟩
        refine ⟨_, testX (Mine.tT_cmp (Mine.eD_sliceS_ss (Mine.eD_name (by walk_at "mELK")) (Mine.eD_name (by walk_at "mELK")) (Mine.eD_bin (Mine.eD_name (by walk_at "mELK")) Mine.eD_int Mine.tD_addI) (by walk_at "mEBOUND")) Mine.eD_str Mine.tD_eqS), fun hb => ?_, fun hb => ?_⟩
        · have hs : ¬ Txt.slice y (some (k : Int)) (some ((k : Int) + 1)) = Str.ofString "/" := by simpa using hb
          rw [q5, skipS_stop hs]
          refine d_if (bb := decide ((k : Int) ≥ (y.length : Int))) ok (testX (Mine.tT_cmp (Mine.eD_name (by walk_at "mELK")) (Mine.eD_callB2 (id := "len") (by assumption) (by walk_at "mEOK") (Mine.gB_len w) rfl (Mine.aD_cons (Mine.eD_name (by walk_at "mELK")) Mine.aD_nil) (Mine.cD_strlen (by walk_at "mEBOUND"))) Mine.tD_geI)) (fun h => ?_) (fun h => d_nil ?_)
          · rw [if_pos (by simpa using h)]
            exact d_ret (xD_return ok Mine.eD_none) rfl
          · rw [if_neg (by simpa using h)]
            refine d_cons (xD_assign ok (Mine.eD_meth2 (Mine.eD_name (by walk_at "mELK")) Mine.mt_find (Mine.aD_cons Mine.eD_str (Mine.aD_cons (Mine.eD_name (by walk_at "mELK")) Mine.aD_nil)) Mine.cD_find3)) ?_
            by_cases hk : Txt.find3 y (Str.ofString "/") k ≥ 0
            · refine d_ret (xD_return (r := .hit k (Txt.find3 y (Str.ofString "/") k)) ok ?_) (by dsimp only; rw [if_pos hk]; rfl)
              refine eD_callG2 (by assumption) (by walk_at "mEOK") (gF_law_hit w) (gK_law_hit w) (aD_cons (Mine.eD_name (by walk_at "mELK")) (aD_cons (eD_if (b := decide (Txt.find3 y (Str.ofString "/") k ≥ 0)) (d := .d (.int (Txt.find3 y (Str.ofString "/") k))) (Mine.tT_cmp (Mine.eD_name (by walk_at "mELK")) Mine.eD_int Mine.tD_geI) (fun _ => (Mine.eD_name (by walk_at "mELK"))) (fun h => absurd hk (by simpa using h))) aD_nil)) (cD_fn (by assumption) (fn_hit w) (by walk_at "mROOM") ⟨_, _, rfl, rfl⟩)
            · refine d_ret (xD_return (r := .hit k y.length) ok ?_) (by dsimp only; rw [if_neg hk]; rfl)
              refine eD_callG2 (by assumption) (by walk_at "mEOK") (gF_law_hit w) (gK_law_hit w) (aD_cons (Mine.eD_name (by walk_at "mELK")) (aD_cons (eD_if (b := decide (Txt.find3 y (Str.ofString "/") k ≥ 0)) (d := .d (.int y.length)) (Mine.tT_cmp (Mine.eD_name (by walk_at "mELK")) Mine.eD_int Mine.tD_geI) (fun h => absurd (by simpa using h) hk) (fun _ => (Mine.eD_callB2 (id := "len") (by assumption) (by walk_at "mEOK") (Mine.gB_len w) rfl (Mine.aD_cons (Mine.eD_name (by walk_at "mELK")) Mine.aD_nil) (Mine.cD_strlen (by walk_at "mEBOUND"))))) aD_nil)) (cD_fn (by assumption) (fn_hit w) (by walk_at "mROOM") ⟨_, _, rfl, rfl⟩)
        · have hs : Txt.slice y (some (k : Int)) (some ((k : Int) + 1)) = Str.ofString "/" := by simpa using hb
          have hk := slash_lt hs
          refine d_cons (xD_assign ok (Mine.eD_bin (Mine.eD_name (by walk_at "mELK")) Mine.eD_int Mine.tD_addI)) (d_nil (Or.inl ⟨_, _, y.length - (k + 1), by lia, rfl, rfl, k + 1, by walk_at "mELK", ?_, rfl, by lia, .inr hk, by rw [q5, skipS_go rfl hs]⟩))
          exact upd_self
      · refine d_if (bb := ((x.length : Int) != 0)) ok (testX (Mine.tT_val (Mine.eD_name (by walk_at "mELK")) (Mine.trS (by walk_at "mEBOUND")))) (fun _ => ?_) (fun h => absurd h (by simp; lia))
        refine d_cons (xD_assign ok (Mine.eD_bin (Mine.eD_meth2 (Mine.eD_bin (Mine.eD_name (by walk_at "mELK")) Mine.eD_str (Mine.tD_addS (by walk_at "mEBOUND"))) Mine.mt_find (Mine.aD_cons (Mine.eD_bin (Mine.eD_bin Mine.eD_str (Mine.eD_name (by walk_at "mELK")) (Mine.tD_addS (by walk_at "mEBOUND"))) Mine.eD_str (Mine.tD_addS (by walk_at "mEBOUND"))) (Mine.aD_cons (Mine.eD_callB2 (id := "max") (by assumption) (by walk_at "mEOK") (Mine.gB_max w) rfl (Mine.aD_cons (Mine.eD_bin (Mine.eD_name (by walk_at "mELK")) Mine.eD_int Mine.tD_subI) (Mine.aD_cons Mine.eD_int Mine.aD_nil)) Mine.cD_max) Mine.aD_nil)) Mine.cD_find3) Mine.eD_int Mine.tD_addI)) ?_
        unfold pSearch
        rw [if_neg hw]
        dsimp only
        generalize (Txt.find3 (y ++ Str.ofString "/") (Str.ofString "/" ++ x ++ Str.ofString "/") (if (0 : Int) > (b : Int) - 1 then 0 else (b : Int) - 1)) + 1 = f
        by_cases hf : f = 0
        · rw [if_pos hf]
          refine d_ret (xD_return (r := .d .none) ok (eD_if (b := (f != 0)) (Mine.tT_val (Mine.eD_name (by walk_at "mELK")) Mine.trI) (fun h => absurd h (by simp [hf])) (fun _ => Mine.eD_none))) rfl
        · rw [if_neg hf]
          refine d_ret (xD_return (r := .hit f (f + x.length)) ok (eD_if (b := (f != 0)) (Mine.tT_val (Mine.eD_name (by walk_at "mELK")) Mine.trI) (fun _ => (Mine.eD_callG2 (by assumption) (by walk_at "mEOK") (Mine.gF_law_hit w) (Mine.gK_law_hit w) (Mine.aD_cons (Mine.eD_name (by walk_at "mELK")) (Mine.aD_cons (Mine.eD_bin (Mine.eD_name (by walk_at "mELK")) (Mine.eD_callB2 (id := "len") (by assumption) (by walk_at "mEOK") (Mine.gB_len w) rfl (Mine.aD_cons (Mine.eD_name (by walk_at "mELK")) Mine.aD_nil) (Mine.cD_strlen (by walk_at "mEBOUND"))) Mine.tD_addI) Mine.aD_nil)) (Mine.cD_fn (by assumption) (Mine.fn_hit w) (by walk_at "mROOM") ⟨_, _, rfl, rfl⟩))) (fun h => absurd h (by simp [hf])))) rfl
theorem fn_program (w : World) : FnV w 231 3 (fun ds r => ∃ x, ds = [.d (.str x)] ∧ r = .prog x ∧ x.length ≤ 100000) := by
  rintro c ok rm fx m news ⟨t1, t2⟩ s Q E vs ds r F N T H D ⟨x, rfl, rfl, hxl⟩ k
  (first | refine Mine.all1 D fun _ a1 => ?_ | refine Mine.dall1 D fun _ a1 => ?_)
  (first | refine Mine.inI (show DatIn _ _ _ from a1) fun _ => ?_ | refine Mine.inS (show DatIn _ _ _ from a1) fun _ => ?_ | refine Mine.inB (show DatIn _ _ _ from a1) ?_ | refine Mine.inN (show DatIn _ _ _ from a1) ?_)
  refine prog_w w x _ c.loose c.mean c.mg c.mb c.dp c.un c.gd c.cn c.cs c.a c.ccd c.cl c.outer c.A₀ c.base c.h₀ c.L m (fx ++ news) news t1 s Q E ok.B F ok.X t2 T.2 N (fun p hp => (H p hp).1) (fun p hp => (H p hp).2) ok.T ok.k rm.d rm.u hxl fun f h' tk' tl ps2' F' N' lt hp hh => ?_
  refine k (.ref f) h' tk' tl (t1, ps2') F' (fun p hp => N' p ?_) ⟨(T.mono memL).1, ?_⟩ ⟨fun q hq p hp => Nat.ne_of_lt ((lt p hp).2.2 q hq), fun p hp => ⟨Nat.ne_of_gt (lt p hp).1, Nat.ne_of_gt (lt p hp).2.1⟩⟩ ?_
  · simp only [List.mem_append, List.mem_cons, List.not_mem_nil, or_false] at hp ⊢
    rcases hp with (h | h) | h | h | h <;> simp [h]
  · rcases hp with rfl | ⟨ca, cb, rfl, x, y⟩
    · exact (T.mono memL).2
    · exact .inr ⟨ca, cb, rfl, x.mono memR, y.mono memR⟩
  · exact VIn.mono (d := .prog x) (fun p hp => by rcases List.mem_append.mp hp with h | h; exact memR p h; exact memL p h) hh
end Mine

namespace Mine
noncomputable def rowEnts (line : Int) : Int → List Str → List Ent
  | _, [] => []
  | b, n :: r => (line, b, b + n.length, n) :: rowEnts line (b + n.length + 1) r
noncomputable def tabFrom : Int → List (List Str) → List Ent
  | _, [] => []
  | k, ns :: r => rowEnts k 1 ns ++ tabFrom (k + 1) r
noncomputable abbrev pTable (lists : List (List Str)) : List Ent := tabFrom 1 lists
noncomputable def nextB (b : Int) : List Str → Int
  | [] => b
  | n :: r => nextB (b + n.length + 1) r
theorem rowEnts_append (k b : Int) (xs ys : List Str) : rowEnts k b (xs ++ ys) = rowEnts k b xs ++ rowEnts k (nextB b xs) ys := by
  induction xs generalizing b with
  | nil => rfl
  | cons n r ih => rw [List.cons_append, rowEnts, rowEnts, nextB, ih]; rfl
theorem nextB_append (b : Int) (xs ys : List Str) : nextB b (xs ++ ys) = nextB (nextB b xs) ys := by
  induction xs generalizing b with
  | nil => rfl
  | cons n r ih => rw [List.cons_append, nextB, nextB, ih]
theorem tabFrom_append (k : Int) (xs ys : List (List Str)) : tabFrom k (xs ++ ys) = tabFrom k xs ++ tabFrom (k + xs.length) ys := by
  induction xs generalizing k with
  | nil => simp [tabFrom]
  | cons n r ih =>
    rw [List.cons_append, tabFrom, tabFrom, ih, List.append_assoc]
    congr 3
    rw [List.length_cons]; push_cast; lia
noncomputable abbrev encN (ns : List Str) : Dat := .list (ns.map .str)
theorem fn_table (w : World) : FnV w 210 4 (fun ds r => ∃ lists : List (List Str), ds = [.d (.list (lists.map encN))] ∧ r = .d (.list ((pTable lists).map encE)) ∧ lists.length ≤ 1000 ∧ (∀ ns ∈ lists, ns.length ≤ 1000 ∧ ∀ n ∈ ns, n.length ≤ 100000) ∧ (pTable lists).length ≤ 100000) := by
  have hfill := Mine.fillT w
  revert hfill
  k_fill
  intro hfill
  clear hfill
  refine' fnV_of [Str.ofString "lists"] ?ho ?hcd ?hb ?hloc ?hnd ?hdb ?hlen (by decide) ?h ?hco ?hgen ?hk ?hcell
  case ho => k_is
  case hcd => k_is
  case hb => intro s vs hv; obtain _ | ⟨v1, _ | ⟨v2, _ | ⟨v3, _ | ⟨v4, _ | ⟨v5, vs⟩⟩⟩⟩⟩ := vs <;> first | (simp at hv; done) | exact BindsTo.of_eq rfl
  case hloc => decide
  case hnd => decide
  case hdb => decide
  case hco => rfl
  case hgen => rfl
  case hk => rfl
  case hcell => decide
  case hlen => rintro ds r ⟨lists, rfl, _⟩; rfl
  rintro c L g ds r ok rm ⟨lists, rfl, rfl, hl, hns, htl⟩
  have eo := envOk ok.k
  have hll : (lists.map encN).length ≤ 16000000 := by rw [List.length_map]; lia
  have hll2 : (lists.map encN).length ≤ 1000000 := by rw [List.length_map]; lia
  refine Does.body ?_
  generalize hσ0 : lkL _ = σ0
  have hlists : σ0 (Str.ofString "lists") = some (.d (.list (lists.map encN))) := by subst hσ0; rfl
  have htab0 : σ0 (Str.ofString "table") = none := by subst hσ0; rfl
  clear hσ0
  refine d_cons (xD_newlist ok ad_nil (by decide) (fun _ h => (nomatch h)) (hσ := htab0)) ?_
  refine d_forR (a := 0) (b := (lists.map encN).length) (fun i σ mu => σ (Str.ofString "lists") = some (.d (.list (lists.map encN))) ∧ mu = some (Str.ofString "table", (tabFrom 1 (lists.take i)).map encE)) ok (Mine.eD_callT2 (T := "range") (by assumption) (by walk_at "mEOK") (Mine.gB_range w) rfl (Mine.aD_cons (Mine.eD_callB2 (id := "len") (by assumption) (by walk_at "mEOK") (Mine.gB_len w) rfl (Mine.aD_cons (Mine.eD_name (by walk_at "mELK")) Mine.aD_nil) (Mine.cD_len (by walk_at "mEBOUND"))) Mine.aD_nil) Mine.cD_range1) (by lia) (by rw [List.length_map]; lia) (by decide) (by decide) ⟨hlists, rfl⟩ ?_ ?_ ?_
  · rintro i σ mu ⟨_, rfl⟩; exact MuNe.of (by decide)
  · rintro i σ mu hi ⟨hσ, rfl⟩
    have hi' : i < lists.length := by rw [List.length_map] at hi; lia
    have hgi : lists[i]? = some lists[i] := List.getElem?_eq_getElem hi'
    have hget : (lists.map encN)[((0 : Int) + (i : Int)).toNat]? = some (encN lists[i]) := by
      rw [show ((0 : Int) + (i : Int)).toNat = i by lia, List.getElem?_map, hgi]; rfl
    obtain ⟨hn1, hn2⟩ := hns _ (List.getElem_mem hi')
    have htk := take_get hgi
    have hsub : (tabFrom 1 (lists.take (i + 1))).length ≤ 100000 := by
      have e : pTable lists = tabFrom 1 (lists.take (i + 1)) ++ tabFrom (1 + (lists.take (i + 1)).length) (lists.drop (i + 1)) := by
        rw [← tabFrom_append, List.take_append_drop]
      rw [e, List.length_append] at htl
      lia
    have htab : tabFrom 1 (lists.take (i + 1)) = tabFrom 1 (lists.take i) ++ rowEnts (0 + (i : Int) + 1) 1 lists[i] := by
      rw [htk, tabFrom_append]
      simp only [tabFrom, List.append_nil]
      rw [List.length_take, Nat.min_eq_left (Nat.le_of_lt hi')]
      congr 2; lia
    rw [htab]  at hsub
    generalize lists[i] = ns at *
    refine d_cons (xD_assign ok Mine.eD_int rfl (MuNe.of (by decide))) ?_
    refine d_for (ds := ns.map .str) (fun j σ' mu => σ' (Str.ofString "lists") = some (.d (.list (lists.map encN))) ∧ σ' (Str.ofString "at") = some (.d (.int (0 + (i : Int)))) ∧ σ' (Str.ofString "begin") = some (.d (.int (nextB 1 (ns.take j)))) ∧ mu = some (Str.ofString "table", (tabFrom 1 (lists.take i) ++ rowEnts (0 + (i : Int) + 1) 1 (ns.take j)).map encE)) ok (Mine.eD_sub (Mine.eD_name (by walk_at "mELK")) (Mine.eD_name (by walk_at "mELK")) (Mine.sD_item (by walk_at "mEBOUND") (by walk_at "mEGET") (by walk_at "mEBOUND"))) ⟨by walk_at "mELK", by walk_at "mELK", by walk_at "mELK", by simp [rowEnts]⟩ ?_ ?_ ?_
    · rintro i σ mu ⟨_, _, _, rfl⟩; exact MuNe.of (by decide)
    · rintro j d σ' mu hj ⟨h1, h2, h3, rfl⟩
      rw [List.getElem?_map] at hj
      obtain ⟨n, hj0, rfl⟩ := Option.map_eq_some_iff.mp hj
      have hnl := hn2 n (List.mem_of_getElem? hj0)
      have hjt := take_get hj0
      have hlen2 : ((tabFrom 1 (lists.take i) ++ rowEnts (0 + (i : Int) + 1) 1 (ns.take j)).map encE).length ≤ 1000000 := by
        have e : ns = ns.take j ++ ns.drop j := (List.take_append_drop j ns).symm
        rw [e, rowEnts_append, ← List.append_assoc, List.length_append] at hsub
        rw [List.length_map]; lia
      have hn3 : n.length ≤ 16000000 := by lia
      refine d_cons (xD_append ok (eF_tuple (ds := [.int (0 + (i : Int) + 1), .int (nextB 1 (ns.take j)), .int (nextB 1 (ns.take j) + n.length), .str n]) (Mine.ad_cons (Mine.eD_bin (Mine.eD_name (by walk_at "mELK")) Mine.eD_int Mine.tD_addI) (Mine.ad_cons (Mine.eD_name (by walk_at "mELK")) (Mine.ad_cons (Mine.eD_bin (Mine.eD_name (by walk_at "mELK")) (Mine.eD_callB2 (id := "len") (by assumption) (by walk_at "mEOK") (Mine.gB_len w) rfl (Mine.aD_cons (Mine.eD_name (by walk_at "mELK")) Mine.aD_nil) (Mine.cD_strlen (by walk_at "mEBOUND"))) Mine.tD_addI) (Mine.ad_cons (Mine.eD_name (by walk_at "mELK")) Mine.ad_nil)))) (Nat.le_of_ble_eq_true rfl) (by walk_at "mEATOM")) hlen2) ?_
      refine d_cons (xD_assign ok (Mine.eD_bin (Mine.eD_bin (Mine.eD_name (by walk_at "mELK")) (Mine.eD_callB2 (id := "len") (by assumption) (by walk_at "mEOK") (Mine.gB_len w) rfl (Mine.aD_cons (Mine.eD_name (by walk_at "mELK")) Mine.aD_nil) (Mine.cD_strlen (by walk_at "mEBOUND"))) Mine.tD_addI) Mine.eD_int Mine.tD_addI) rfl (MuNe.of (by decide))) ?_
      refine d_nil ⟨_, _, rfl, ?_⟩
      refine ⟨by walk_at "mELK", by walk_at "mELK", ?_, ?_⟩
      · rw [hjt, nextB_append]; exact upd_self
      · rw [hjt, rowEnts_append, ← List.append_assoc, List.map_append (l₂ := rowEnts _ _ [n])]; rfl
    · rintro σ' mu ⟨h1, h2, h3, rfl⟩
      rw [List.length_map, List.take_length]
      refine d_nil ⟨_, _, rfl, h1, ?_⟩
      rw [htab]
  · rintro σ' mu ⟨h1, rfl⟩
    refine d_ret (xD_returnM ok rfl) ?_
    rw [show ((lists.map encN).length - (0 : Int)).toNat = lists.length by rw [List.length_map]; lia, List.take_length]
end Mine

namespace Mine
section
variable {w : World} {c : Cx} {env : Env} {σ : Sg}
theorem cF_split {x : Str} (ok : CxOk w c) (rm : Rm c 8) (h : x.length ≤ 100000) : CallD w c env σ (.ref 143) [.d (.str x)] (.d (.tuple [.str (pHead x), .str (pTail x)])) := cD_fn ok (fn_split w) rm ⟨x, rfl, rfl, h⟩
theorem cF_dirname {x : Str} (ok : CxOk w c) (rm : Rm c 8) (h : x.length ≤ 100000) : CallD w c env σ (.ref 164) [.d (.str x)] (.d (.str (pHead x))) := cD_fn ok (fn_dirname w) rm ⟨x, rfl, rfl, h⟩
theorem cF_basename {x : Str} (ok : CxOk w c) (rm : Rm c 8) (h : x.length ≤ 100000) : CallD w c env σ (.ref 157) [.d (.str x)] (.d (.str (pTail x))) := cD_fn ok (fn_basename w) rm ⟨x, rfl, rfl, h⟩
theorem cF_getlc {x : Str} {i j : Int} (ok : CxOk w c) (rm : Rm c 8) (h : Txt.split x (Str.ofString ".") = [Str.ofString (toString i), Str.ofString (toString j)]) (h0 : 0 ≤ i) (h1 : i < 10 ^ 10) (h2 : 0 ≤ j) (h3 : j < 10 ^ 10) (hx : x.length ≤ 100000) : CallD w c env σ (.ref 35) [.d (.str x)] (.d (.tuple [.int i, .int j])) :=
  cD_fn ok (fn_getlc w) rm ⟨x, i, j, rfl, rfl, h, h0, h1, h2, h3, hx⟩
theorem cF_told {table : List Ent} {line col : Int} {word : Str} (ok : CxOk w c) (rm : Rm c 8) (h1 : table.length ≤ 100000) (h2 : word.length ≤ 100000) (h3 : ∀ e ∈ table, e.2.2.2.length ≤ 100000) : CallD w c env σ (.ref 217) [.d (.list (table.map encE)), .d (.int line), .d (.int col), .d (.str word)] (.d (.tuple [.int (pTold table line col word).1, .int (pTold table line col word).2.1, .int (pTold table line col word).2.2])) :=
  cD_fn ok (fn_told w) rm ⟨table, line, col, word, rfl, rfl, h1, h2, h3⟩
theorem cF_sr {word x : Str} {col : Int} (ok : CxOk w c) (rm : Rm c 8) (h : x.length ≤ 100000) (hg : Goes word x) : CallD w c env σ (.ref 28) [.prog word, .d (.str x), .d (.int col)] (vOf (pSR word x col)) := cD_fn ok (fn_sr w) rm ⟨word, x, col, rfl, rfl, h, hg⟩
theorem cF_program {word : Str} (ok : CxOk w c) (rm : Rm c 3) (h : word.length ≤ 100000) : CallD w c env σ (.ref 231) [.d (.str word)] (.prog word) := cD_fn ok (fn_program w) rm ⟨word, rfl, rfl, h⟩
end
noncomputable def pBackGo (word : Str) (rows : List Str) : Nat → Int × Int × Int
  | 0 => (0, 0, 0)
  | 1 => (0, 0, 0)
  | n + 2 => match pSR word (rows.getD n (Str.ofString "")) (rows.getD n (Str.ofString "")).length with
    | some p => ((n + 1 : Nat), p.1, p.2)
    | none => pBackGo word rows (n + 1)
noncomputable def pBack (rows : List Str) (line col : Nat) (word : Str) : Int × Int × Int :=
  match pSR word (rows.getD (line - 1) (Str.ofString "")) col with
  | some p => (line, p.1, p.2)
  | none => pBackGo word rows line
theorem rowAt {rows : List Str} {k : Nat} (h : k < rows.length) : (rows.map Dat.str)[k]? = some (.str (rows.getD k (Str.ofString ""))) := by
  rw [List.getElem?_map, List.getD_eq_getElem?_getD, List.getElem?_eq_getElem h]; rfl
theorem rowMem {rows : List Str} {k : Nat} (h : k < rows.length) : rows.getD k (Str.ofString "") ∈ rows := by
  rw [List.getD_eq_getElem?_getD, List.getElem?_eq_getElem h]
  exact List.getElem_mem h
theorem fn_back (w : World) : FnV w 238 12 (fun ds r => ∃ (rows : List Str) (line col : Nat) (word place : Str), ds = [.d (.list (rows.map .str)), .d (.str place), .d (.str word)] ∧ r = .d (.tuple [.int (pBack rows line col word).1, .int (pBack rows line col word).2.1, .int (pBack rows line col word).2.2]) ∧
    Txt.split place (Str.ofString ".") = [Str.ofString (toString (line : Int)), Str.ofString (toString (col : Int))] ∧ place.length ≤ 100000 ∧ 1 ≤ line ∧ line ≤ rows.length ∧ rows.length ≤ 1000 ∧ col < 10 ^ 9 ∧ word.length ≤ 100000 ∧ ∀ x ∈ rows, x.length ≤ 100000 ∧ Goes word x) := by
  have hfill := Mine.fillT w
  revert hfill
  k_fill
  intro hfill
  clear hfill
  refine' fnV_of [Str.ofString "rows", Str.ofString "place", Str.ofString "word"] ?ho ?hcd ?hb ?hloc ?hnd ?hdb ?hlen (by decide) ?h ?hco ?hgen ?hk ?hcell
  case ho => k_is
  case hcd => k_is
  case hb => intro s vs hv; obtain _ | ⟨v1, _ | ⟨v2, _ | ⟨v3, _ | ⟨v4, _ | ⟨v5, vs⟩⟩⟩⟩⟩ := vs <;> first | (simp at hv; done) | exact BindsTo.of_eq rfl
  case hloc => decide
  case hnd => decide
  case hdb => decide
  case hco => rfl
  case hgen => rfl
  case hk => rfl
  case hcell => decide
  case hlen => rintro ds r ⟨rows, line, col, word, place, rfl, _⟩; rfl
  rintro c L g ds r ok rm ⟨rows, line, col, word, place, rfl, rfl, hsp, hpl, hl1, hl2, hrl, hcol, hwl, hrows⟩
  have eo := envOk ok.k
  refine Does.body ?_
  generalize hσ0 : lkL _ = σ0
  have s1 : σ0 (Str.ofString "rows") = some (.d (.list (rows.map .str))) := by subst hσ0; rfl
  have s2 : σ0 (Str.ofString "place") = some (.d (.str place)) := by subst hσ0; rfl
  have s3 : σ0 (Str.ofString "word") = some (.d (.str word)) := by subst hσ0; rfl
  clear hσ0
  have hrl2 : (rows.map Dat.str).length ≤ 1000000 := by rw [List.length_map]; lia
  have hat : ∀ k : Nat, 1 ≤ k → k ≤ rows.length → (rows.map Dat.str)[((k : Int) - 1).toNat]? = some (.str (rows.getD (k - 1) (Str.ofString ""))) := fun k h1 h2 => by
    rw [show ((k : Int) - 1).toNat = k - 1 by lia]; exact rowAt (by lia)
  have hlen : ∀ k : Nat, 1 ≤ k → k ≤ rows.length → (rows.getD (k - 1) (Str.ofString "")).length ≤ 100000 ∧ Goes word (rows.getD (k - 1) (Str.ofString "")) := fun k h1 h2 => hrows _ (rowMem (by lia))
  refine d_cons (xD_assign ok (Mine.eD_callG2 (by assumption) (by walk_at "mEOK") (Mine.gF_law_program w) (Mine.gK_law_program w) (Mine.aD_cons (Mine.eD_name (by walk_at "mELK")) Mine.aD_nil) (cF_program (by assumption) (by walk_at "mROOM") (by walk_at "mEBOUND")))) ?_
  refine d_cons (xD_unpack ok (Mine.eD_callG2 (by assumption) (by walk_at "mEOK") (Mine.gF_get_line_col w) (Mine.gK_get_line_col w) (Mine.aD_cons (Mine.eD_name (by walk_at "mELK")) Mine.aD_nil) (cF_getlc (by assumption) (by walk_at "mROOM") hsp (by lia) (by lia) (by lia) (by lia) (by walk_at "mEBOUND")))) ?_
  have hat0 := hat line hl1 hl2
  obtain ⟨hr1, hr2⟩ := hlen line hl1 hl2
  refine d_cons (xD_assign ok (Mine.eD_callG2 (by assumption) (by walk_at "mEOK") (Mine.gF_search_reverse w) (Mine.gK_search_reverse w) (Mine.aD_cons (Mine.eD_name (by walk_at "mELK")) (Mine.aD_cons (Mine.eD_sub (Mine.eD_name (by walk_at "mELK")) (Mine.eD_bin (Mine.eD_name (by walk_at "mELK")) Mine.eD_int Mine.tD_subI) (Mine.sD_item (by walk_at "mEBOUND") (by walk_at "mEGET") (by walk_at "mEBOUND"))) (Mine.aD_cons (Mine.eD_name (by walk_at "mELK")) Mine.aD_nil))) (cF_sr (by assumption) (by walk_at "mROOM") hr1 hr2))) ?_
  refine d_while (fun n σ mu => mu = none ∧ ∃ (k : Nat) (fd : Option (Int × Int)), 1 ≤ k ∧ k ≤ rows.length ∧ n = k ∧ σ (Str.ofString "rows") = some (.d (.list (rows.map .str))) ∧ σ (Str.ofString "program") = some (.prog word) ∧ σ (Str.ofString "line") = some (.d (.int k)) ∧ σ (Str.ofString "found") = some (vOf fd) ∧
    pBack rows line col word = (match fd with | some p => ((k : Nat), p.1, p.2) | none => pBackGo word rows k)) ok ?_ line ⟨rfl, line, pSR word (rows.getD (line - 1) (Str.ofString "")) col, hl1, hl2, rfl, by walk_at "mELK", by walk_at "mELK", by walk_at "mELK", by walk_at "mELK", by unfold pBack; rfl⟩
  rintro n σ mu ⟨rfl, k, fd, k1, k2, hnk, q1, q2, q3, q4, q5⟩
  have hnk' : k = n := hnk.symm
  clear hnk
  subst hnk'
  cases fd with
  | none =>
    replace q4 : σ (Str.ofString "found") = some (.d .none) := q4
    refine ⟨_, testX (Mine.tT_and (Mine.tT_cmp (Mine.eD_name (by walk_at "mELK")) Mine.eD_none Mine.tD_isN) (fun _ => (Mine.tT_and (Mine.tT_cmp (Mine.eD_name (by walk_at "mELK")) Mine.eD_int Mine.tD_gtI) (fun _ => Mine.tT_and0)))), fun hb => ?_, fun hb => ?_⟩
    · have hk : k = 1 := by
        have : ¬ (k : Int) > 1 := by simpa using hb
        lia
      subst hk
      have q6 : pBack rows line col word = (0, 0, 0) := q5
      rw [q6]
      refine d_if ok (testX (Mine.tT_cmp (Mine.eD_name (by walk_at "mELK")) Mine.eD_none Mine.tD_isN)) (fun _ => ?_) (fun h => (nomatch h))
      exact d_ret (xD_return ok (Mine.eD_tuple (ds := [_, _, _]) (Mine.ad_cons Mine.eD_int (Mine.ad_cons Mine.eD_int (Mine.ad_cons Mine.eD_int Mine.ad_nil))) (Nat.le_of_ble_eq_true rfl))) rfl
    · have hk : 1 < k := by
        have : (k : Int) > 1 := by simpa using hb
        lia
      obtain ⟨m, rfl⟩ : ∃ m, k = m + 2 := ⟨k - 2, by lia⟩
      have hat1 := hat (m + 1) (by lia) (by lia)
      obtain ⟨hr3, hr4⟩ := hlen (m + 1) (by lia) (by lia)
      rw [show ((m + 1 : Nat) : Int) = ((m + 2 : Nat) : Int) - 1 by lia] at hat1
      rw [show m + 1 - 1 = m by lia] at hat1 hr3 hr4
      refine d_cons (xD_assign ok (Mine.eD_bin (Mine.eD_name (by walk_at "mELK")) Mine.eD_int Mine.tD_subI)) ?_
      refine d_cons (xD_assign ok (Mine.eD_callG2 (by assumption) (by walk_at "mEOK") (Mine.gF_search_reverse w) (Mine.gK_search_reverse w) (Mine.aD_cons (Mine.eD_name (by walk_at "mELK")) (Mine.aD_cons (Mine.eD_sub (Mine.eD_name (by walk_at "mELK")) (Mine.eD_bin (Mine.eD_name (by walk_at "mELK")) Mine.eD_int Mine.tD_subI) (Mine.sD_item (by walk_at "mEBOUND") (by walk_at "mEGET") (by walk_at "mEBOUND"))) (Mine.aD_cons (Mine.eD_callB2 (id := "len") (by assumption) (by walk_at "mEOK") (Mine.gB_len w) rfl (Mine.aD_cons (Mine.eD_sub (Mine.eD_name (by walk_at "mELK")) (Mine.eD_bin (Mine.eD_name (by walk_at "mELK")) Mine.eD_int Mine.tD_subI) (Mine.sD_item (by walk_at "mEBOUND") (by walk_at "mEGET") (by walk_at "mEBOUND"))) Mine.aD_nil) (Mine.cD_strlen (by walk_at "mEBOUND"))) Mine.aD_nil))) (cF_sr (by assumption) (by walk_at "mROOM") hr3 hr4))) ?_
      refine d_nil (Or.inl ⟨_, _, m + 1, by lia, rfl, rfl, m + 1, pSR word (rows.getD m (Str.ofString "")) (rows.getD m (Str.ofString "")).length, by lia, by lia, rfl, by walk_at "mELK", by walk_at "mELK", ?_, by walk_at "mELK", ?_⟩)
      · rw [show ((m + 1 : Nat) : Int) = ((m + 2 : Nat) : Int) - 1 by lia]
        walk_at "mELK"
      · rw [q5]
        show pBackGo word rows (m + 2) = _
        rw [pBackGo]
  | some p =>
    obtain ⟨i, j⟩ := p
    replace q4 : σ (Str.ofString "found") = some (.hit i j) := q4
    refine ⟨_, testX (Mine.tT_and (Mine.tT_cmp (Mine.eD_name (by walk_at "mELK")) Mine.eD_none Mine.tD_isNH) (fun _ => (Mine.tT_and (Mine.tT_cmp (Mine.eD_name (by walk_at "mELK")) Mine.eD_int Mine.tD_gtI) (fun _ => Mine.tT_and0)))), fun hb => ?_, fun hb => absurd hb (by simp)⟩
    refine d_if ok (testX (Mine.tT_cmp (Mine.eD_name (by walk_at "mELK")) Mine.eD_none Mine.tD_isNH)) (fun h => (nomatch h)) (fun _ => d_nil ?_)
    refine d_cons (xD_unpack ok (Mine.eD_span (by assumption) (by walk_at "mROOM") (Mine.eD_name (by walk_at "mELK")))) ?_
    rw [q5]
    exact d_ret (xD_return ok (Mine.eD_tuple (ds := [_, _, _]) (Mine.ad_cons (Mine.eD_name (by walk_at "mELK")) (Mine.ad_cons (Mine.eD_name (by walk_at "mELK")) (Mine.ad_cons (Mine.eD_name (by walk_at "mELK")) Mine.ad_nil))) (Nat.le_of_ble_eq_true rfl))) rfl
end Mine

namespace Mine
theorem skipS_ge (x : Str) : ∀ n b, b ≤ skipS x n b := by
  intro n
  induction n with
  | zero => intro b; exact Nat.le_refl b
  | succ n ih =>
    intro b
    unfold skipS
    split
    · exact Nat.le_trans (Nat.le_succ b) (ih (b + 1))
    · exact Nat.le_refl b
theorem skipS_end (x : Str) : ∀ n b, x.length - b ≤ n → ¬ Txt.slice x (some ((skipS x n b : Nat) : Int)) (some (((skipS x n b : Nat) : Int) + 1)) = Str.ofString "/" := by
  intro n
  induction n with
  | zero =>
    intro b h h'
    have h'' : Txt.slice x (some (b : Int)) (some ((b : Int) + 1)) = Str.ofString "/" := h'
    have := slash_lt h''
    lia
  | succ n ih =>
    intro b h
    unfold skipS
    split
    · exact ih (b + 1) (by lia)
    · assumption
theorem goes (word x : Str) : Goes word x := by
  intro b i j h
  unfold pSearch at h
  split at h
  · rename_i hw
    dsimp only at h
    generalize hf : skipS x (x.length - b) b = f at h
    have h1 : b ≤ f := hf ▸ skipS_ge x _ b
    have h2 := skipS_end x (x.length - b) b (Nat.le_refl _)
    rw [hf] at h2
    split at h
    · cases h
    · rename_i hlt
      rw [Option.some.injEq, Prod.mk.injEq] at h
      obtain ⟨rfl, rfl⟩ := h
      rw [find3_eq]
      cases hq : fnd (ch x) (ch (Str.ofString "/")) f with
      | none => exact ⟨f, x.length, rfl, by rw [if_neg (by decide)], h1, by lia, Nat.le_refl _⟩
      | some k =>
        obtain ⟨a1, a2, a3, _⟩ := fnd_some hq
        have hkf : k ≠ f := fun e => h2 (ch_ext (by
          rw [show ((f : Int) + 1) = ((f + 1 : Nat) : Int) by lia, sl_ss]
          rw [e] at a3
          rw [← a3]
          congr 1
          show f + 1 - f = 1
          lia))
        refine ⟨f, k, rfl, by dsimp only; rw [if_pos (by lia)], h1, by lia, ?_⟩
        have : (ch (Str.ofString "/")).length = 1 := rfl
        rw [this, ch_len] at a2
        lia
  · rename_i hw
    dsimp only at h
    generalize hz : (if (0 : Int) > (b : Int) - 1 then 0 else (b : Int) - 1) = z at h
    obtain ⟨z', rfl⟩ : ∃ z' : Nat, z = z' := ⟨z.toNat, by split at hz <;> lia⟩
    rw [find3_eq] at h
    cases hq : fnd (ch (x ++ Str.ofString "/")) (ch (Str.ofString "/" ++ word ++ Str.ofString "/")) z' with
    | none => rw [hq] at h; simp at h
    | some k =>
      rw [hq] at h
      dsimp only at h
      have hne : ¬ ((k : Int) + 1 = 0) := by lia
      rw [if_neg hne, Option.some.injEq, Prod.mk.injEq] at h
      obtain ⟨rfl, rfl⟩ := h
      obtain ⟨a1, a2, a3, _⟩ := fnd_some hq
      rw [ch_app, ch_app, ch_app] at a2
      simp only [List.length_append] at a2
      have e1 : (ch (Str.ofString "/")).length = 1 := rfl
      rw [e1, ch_len, ch_len] at a2
      refine ⟨k + 1, k + 1 + word.length, by lia, by lia, ?_, by lia, by lia⟩
      split at hz <;> lia
end Mine

namespace Mine
section
variable {w : World} {c : Cx} {env : Env} {σ : Sg}
noncomputable abbrev pPlace (i j : Nat) : Str := Str.ofString (toString (i : Int)) ++ Str.ofString "." ++ Str.ofString (toString (j : Int))
/-- the place can be read -/
noncomputable def PlaceOk (i j : Nat) : Prop := Txt.split (pPlace i j) (Str.ofString ".") = [Str.ofString (toString (i : Int)), Str.ofString (toString (j : Int))] ∧ (pPlace i j).length ≤ 1000 ∧ (Str.ofString (toString (i : Int))).length ≤ 100 ∧ (Str.ofString (toString (j : Int))).length ≤ 100
theorem cF_back {rows : List Str} {line col : Nat} {word : Str} {f1 f2 f3 : Int} (ok : CxOk w c) (rm : Rm c 12) (h : pBack rows line col word = (f1, f2, f3)) (hp : PlaceOk line col) (h1 : 1 ≤ line) (h2 : line ≤ rows.length) (h3 : rows.length ≤ 1000) (h4 : col < 10 ^ 9) (h5 : word.length ≤ 100000) (h6 : ∀ x ∈ rows, x.length ≤ 100000) :
    CallD w c env σ (.ref 238) [.d (.list (rows.map .str)), .d (.str (pPlace line col)), .d (.str word)] (.d (.tuple [.int f1, .int f2, .int f3])) :=
  cD_fn ok (fn_back w) rm ⟨rows, line, col, word, pPlace line col, rfl, by rw [h], hp.1, by have := hp.2.1; lia, h1, h2, h3, h4, h5, fun x hx => ⟨h6 x hx, goes word x⟩⟩
theorem cF_told2 {table : List Ent} {line col : Int} {word : Str} {f1 f2 f3 : Int} (ok : CxOk w c) (rm : Rm c 8) (h : pTold table line col word = (f1, f2, f3)) (h1 : table.length ≤ 100000) (h2 : word.length ≤ 100000) (h3 : ∀ e ∈ table, e.2.2.2.length ≤ 100000) : CallD w c env σ (.ref 217) [.d (.list (table.map encE)), .d (.int line), .d (.int col), .d (.str word)] (.d (.tuple [.int f1, .int f2, .int f3])) := by
  have := cF_told (env := env) (σ := σ) (line := line) (col := col) (word := word) ok rm h1 h2 h3
  rw [h] at this
  exact this
theorem cF_getlc2 {i j : Nat} (ok : CxOk w c) (rm : Rm c 8) (hp : PlaceOk i j) (h1 : i < 10 ^ 9) (h2 : j < 10 ^ 9) : CallD w c env σ (.ref 35) [.d (.str (pPlace i j))] (.d (.tuple [.int i, .int j])) :=
  cF_getlc ok rm hp.1 (by lia) (by lia) (by lia) (by lia) (by have := hp.2.1; lia)
end
noncomputable def upHead (up : Str) (fi : Nat) : Str := if (Txt.slice up none (some ((fi : Int) - 1))).length = 0 then Str.ofString "/" else Txt.slice up none (some ((fi : Int) - 1))
/-- what the law asks at a place -/
structure AgreesAt (rows : List Str) (table : List Ent) (line col : Nat) : Prop where
  place : PlaceOk line col
  l1 : 1 ≤ line
  l2 : line ≤ rows.length
  cc : col < 10 ^ 9
  rest : ∃ f1 f2 f3 : Int, pBack rows line col (Str.ofString "") = (f1, f2, f3) ∧ pTold table line col (Str.ofString "") = (f1, f2, f3) ∧ (f1 = 0 ∨ ∃ (ln fi be : Nat) (g1 g2 g3 : Int), f1 = ln ∧ f2 = fi ∧ f3 = be ∧ 1 ≤ ln ∧ ln ≤ rows.length ∧ fi < 10 ^ 9 ∧ PlaceOk ln fi ∧ PyData.strOk (upHead (Txt.slice (rows.getD (ln - 1) (Str.ofString "")) none (some (be : Int))) fi) = true ∧ PyData.strOk (Txt.slice (Txt.slice (rows.getD (ln - 1) (Str.ofString "")) none (some (be : Int))) (some (fi : Int)) none) = true ∧
    pHead (Txt.slice (rows.getD (ln - 1) (Str.ofString "")) none (some (be : Int))) = upHead (Txt.slice (rows.getD (ln - 1) (Str.ofString "")) none (some (be : Int))) fi ∧
    pTail (Txt.slice (rows.getD (ln - 1) (Str.ofString "")) none (some (be : Int))) = Txt.slice (Txt.slice (rows.getD (ln - 1) (Str.ofString "")) none (some (be : Int))) (some (fi : Int)) none ∧
    pBack rows ln fi (Txt.slice (Txt.slice (rows.getD (ln - 1) (Str.ofString "")) none (some (be : Int))) (some (fi : Int)) none) = (g1, g2, g3) ∧
    pTold table ln fi (Txt.slice (Txt.slice (rows.getD (ln - 1) (Str.ofString "")) none (some (be : Int))) (some (fi : Int)) none) = (g1, g2, g3))
theorem fn_agrees (w : World) : FnV w 245 16 (fun ds r => ∃ (rows : List Str) (table : List Ent) (line col : Nat), ds = [.d (.list (rows.map .str)), .d (.list (table.map encE)), .d (.int line), .d (.int col)] ∧ r = .d (.bool true) ∧ AgreesAt rows table line col ∧ rows.length ≤ 1000 ∧ (∀ x ∈ rows, x.length ≤ 100000) ∧ table.length ≤ 100000 ∧ ∀ e ∈ table, e.2.2.2.length ≤ 100000) := by
  have hfill := Mine.fillT w
  revert hfill
  k_fill
  intro hfill
  clear hfill
  refine' fnV_of [Str.ofString "rows", Str.ofString "table", Str.ofString "line", Str.ofString "col"] ?ho ?hcd ?hb ?hloc ?hnd ?hdb ?hlen (by decide) ?h ?hco ?hgen ?hk ?hcell
  case ho => k_is
  case hcd => k_is
  case hb => intro s vs hv; obtain _ | ⟨v1, _ | ⟨v2, _ | ⟨v3, _ | ⟨v4, _ | ⟨v5, vs⟩⟩⟩⟩⟩ := vs <;> first | (simp at hv; done) | exact BindsTo.of_eq rfl
  case hloc => decide
  case hnd => decide
  case hdb => decide
  case hco => rfl
  case hgen => rfl
  case hk => rfl
  case hcell => decide
  case hlen => rintro ds r ⟨rows, table, line, col, rfl, _⟩; rfl
  rintro c L g ds r ok rm ⟨rows, table, line, col, rfl, rfl, ha, hrl, hrows, htl, htn⟩
  have eo := envOk ok.k
  refine Does.body ?_
  generalize hσ0 : lkL _ = σ0
  have s1 : σ0 (Str.ofString "rows") = some (.d (.list (rows.map .str))) := by subst hσ0; rfl
  have s2 : σ0 (Str.ofString "table") = some (.d (.list (table.map encE))) := by subst hσ0; rfl
  have s3 : σ0 (Str.ofString "line") = some (.d (.int line)) := by subst hσ0; rfl
  have s4 : σ0 (Str.ofString "col") = some (.d (.int col)) := by subst hσ0; rfl
  clear hσ0
  obtain ⟨hp, l1, l2, hc, f1, f2, f3, hb, ht, hmore⟩ := ha
  obtain ⟨p1, p2, p3, p4⟩ := id hp
  have hd1 : (Str.ofString ".").length = 1 := rfl
  have hda : (Str.ofString (toString (line : Int)) ++ Str.ofString ".").length ≤ 101 := by rw [Str.length_append]; lia
  have he : (Str.ofString "").length ≤ 100000 := by decide
  have hrl2 : (rows.map Dat.str).length ≤ 1000000 := by rw [List.length_map]; lia
  refine d_cons (xD_assign ok (Mine.eD_bin (Mine.eD_bin (Mine.eD_callT2 (T := "str") (by assumption) (by walk_at "mEOK") (Mine.gB_str w) rfl (Mine.aD_cons (Mine.eD_name (by walk_at "mELK")) Mine.aD_nil) (Mine.cD_str (by walk_at "mEBOUND") (by walk_at "mEBOUND"))) Mine.eD_str (Mine.tD_addS (by walk_at "mEBOUND"))) (Mine.eD_callT2 (T := "str") (by assumption) (by walk_at "mEOK") (Mine.gB_str w) rfl (Mine.aD_cons (Mine.eD_name (by walk_at "mELK")) Mine.aD_nil) (Mine.cD_str (by walk_at "mEBOUND") (by walk_at "mEBOUND"))) (Mine.tD_addS (by walk_at "mEBOUND")))) ?_
  refine d_if (bb := false) ok (testX (Mine.tT_cmp (Mine.eD_callG2 (by assumption) (by walk_at "mEOK") (Mine.gF_get_line_col w) (Mine.gK_get_line_col w) (Mine.aD_cons (Mine.eD_name (by walk_at "mELK")) Mine.aD_nil) (cF_getlc2 (by assumption) (by walk_at "mROOM") hp (by lia) hc)) (Mine.eD_tuple (ds := [_, _]) (Mine.ad_cons (Mine.eD_name (by walk_at "mELK")) (Mine.ad_cons (Mine.eD_name (by walk_at "mELK")) Mine.ad_nil)) (Nat.le_of_ble_eq_true rfl)) (tD_neD (bb := false) (rm.le (by decide)) rfl rfl ⟨fun h => (nomatch h), fun h => absurd rfl h⟩))) (fun h => (nomatch h)) (fun _ => d_nil ?_)
  refine d_cons (xD_assign ok (Mine.eD_callG2 (by assumption) (by walk_at "mEOK") (Mine.gF_law_back w) (Mine.gK_law_back w) (Mine.aD_cons (Mine.eD_name (by walk_at "mELK")) (Mine.aD_cons (Mine.eD_name (by walk_at "mELK")) (Mine.aD_cons Mine.eD_str Mine.aD_nil))) (cF_back (by assumption) (by walk_at "mROOM") hb hp l1 l2 hrl hc he hrows))) ?_
  refine d_if (bb := false) ok (testX (Mine.tT_cmp (Mine.eD_name (by walk_at "mELK")) (Mine.eD_callG2 (by assumption) (by walk_at "mEOK") (Mine.gF_law_told w) (Mine.gK_law_told w) (Mine.aD_cons (Mine.eD_name (by walk_at "mELK")) (Mine.aD_cons (Mine.eD_name (by walk_at "mELK")) (Mine.aD_cons (Mine.eD_name (by walk_at "mELK")) (Mine.aD_cons Mine.eD_str Mine.aD_nil)))) (cF_told2 (by assumption) (by walk_at "mROOM") ht htl he htn)) (tD_neD (bb := false) (rm.le (by decide)) rfl rfl ⟨fun h => (nomatch h), fun h => absurd rfl h⟩))) (fun h => (nomatch h)) (fun _ => d_nil ?_)
  by_cases hf : f1 = 0
  · refine d_if (bb := (f1 == 0)) ok (testX (Mine.tT_cmp (Mine.eD_sub (Mine.eD_name (by walk_at "mELK")) Mine.eD_int (Mine.sD_titem (by walk_at "mEBOUND") (by walk_at "mEGET") (by walk_at "mEBOUND"))) Mine.eD_int Mine.tD_eqI)) (fun _ => ?_) (fun h => absurd h (by simp [hf]))
    exact d_ret (xD_return ok Mine.eD_bool) rfl
  · refine d_if (bb := (f1 == 0)) ok (testX (Mine.tT_cmp (Mine.eD_sub (Mine.eD_name (by walk_at "mELK")) Mine.eD_int (Mine.sD_titem (by walk_at "mEBOUND") (by walk_at "mEGET") (by walk_at "mEBOUND"))) Mine.eD_int Mine.tD_eqI)) (fun h => absurd h (by simp [hf])) (fun _ => d_nil ?_)
    obtain ⟨ln, fi, be, g1, g2, g3, rfl, rfl, rfl, n1, n2, n3, n4, o1, o2, n5, n6, n7, n8⟩ := hmore.resolve_left hf
    have hat : (rows.map Dat.str)[((ln : Int) - 1).toNat]? = some (.str (rows.getD (ln - 1) (Str.ofString ""))) := by
      rw [show ((ln : Int) - 1).toNat = ln - 1 by lia]; exact rowAt (by lia)
    have hrow := hrows _ (rowMem (rows := rows) (k := ln - 1) (by lia))
    refine d_cons (xD_assign ok (Mine.eD_sliceS_ns (Mine.eD_sub (Mine.eD_name (by walk_at "mELK")) (Mine.eD_bin (Mine.eD_sub (Mine.eD_name (by walk_at "mELK")) Mine.eD_int (Mine.sD_titem (by walk_at "mEBOUND") (by walk_at "mEGET") (by walk_at "mEBOUND"))) Mine.eD_int Mine.tD_subI) (Mine.sD_item (by walk_at "mEBOUND") (by walk_at "mEGET") (by walk_at "mEBOUND"))) (Mine.eD_sub (Mine.eD_name (by walk_at "mELK")) Mine.eD_int (Mine.sD_titem (by walk_at "mEBOUND") (by walk_at "mEGET") (by walk_at "mEBOUND"))) (by walk_at "mEBOUND"))) ?_
    have hup : (Txt.slice (rows.getD (ln - 1) (Str.ofString "")) none (some (be : Int))).length ≤ 100000 := Nat.le_trans (Txt.slice_le _ _ _) hrow
    generalize Txt.slice (rows.getD (ln - 1) (Str.ofString "")) none (some (be : Int)) = up at *
    have hhd : (Txt.slice up none (some ((fi : Int) - 1))).length ≤ 100000 := Nat.le_trans (Txt.slice_le _ _ _) hup
    have hwd : (Txt.slice up (some (fi : Int)) none).length ≤ 100000 := Nat.le_trans (Txt.slice_le _ _ _) hup
    have hhd2 : (Txt.slice up none (some ((fi : Int) - 1))).length ≤ 16000000 := by lia
    refine d_cons (xD_assign (d := .d (.str (upHead up fi))) ok (eD_or (b := ((Txt.slice up none (some ((fi : Int) - 1))).length : Int) != 0) (Mine.eD_sliceS_ns (Mine.eD_name (by walk_at "mELK")) (Mine.eD_bin (Mine.eD_sub (Mine.eD_name (by walk_at "mELK")) Mine.eD_int (Mine.sD_titem (by walk_at "mEBOUND") (by walk_at "mEGET") (by walk_at "mEBOUND"))) Mine.eD_int Mine.tD_subI) (by walk_at "mEBOUND")) (trS hhd2) (fun h => by unfold upHead; rw [if_neg (by simpa using h)]) (fun h => by unfold upHead; rw [if_pos (by simpa using h)]; exact eD_one Mine.eD_str))) ?_
    refine d_cons (xD_assign ok (Mine.eD_sliceS_sn (Mine.eD_name (by walk_at "mELK")) (Mine.eD_sub (Mine.eD_name (by walk_at "mELK")) Mine.eD_int (Mine.sD_titem (by walk_at "mEBOUND") (by walk_at "mEGET") (by walk_at "mEBOUND"))) (by walk_at "mEBOUND"))) ?_
    generalize Txt.slice up (some (fi : Int)) none = word at *
    refine d_if (bb := (false || ((pHead up != upHead up fi) || ((pTail up != word) || false)))) ok (testX (Mine.tT_or (Mine.tT_cmp (Mine.eD_callG2 (by assumption) (by walk_at "mEOK") (Mine.gF_split w) (Mine.gK_split w) (Mine.aD_cons (Mine.eD_name (by walk_at "mELK")) Mine.aD_nil) (cF_split (by assumption) (by walk_at "mROOM") hup)) (Mine.eD_tuple (ds := [_, _]) (Mine.ad_cons (Mine.eD_name (by walk_at "mELK")) (Mine.ad_cons (Mine.eD_name (by walk_at "mELK")) Mine.ad_nil)) (Nat.le_of_ble_eq_true rfl)) (tD_neD (bb := false) (rm.le (by decide)) (by simp [kqdOk, n5, n6, o1, o2]) (by simp [kqdOk, o1, o2]) ⟨fun h => (nomatch h), fun h => absurd (by rw [n5, n6]) h⟩)) (fun _ => (Mine.tT_or (Mine.tT_cmp (Mine.eD_callG2 (by assumption) (by walk_at "mEOK") (Mine.gF_dirname w) (Mine.gK_dirname w) (Mine.aD_cons (Mine.eD_name (by walk_at "mELK")) Mine.aD_nil) (cF_dirname (by assumption) (by walk_at "mROOM") hup)) (Mine.eD_name (by walk_at "mELK")) Mine.tD_neS) (fun _ => (Mine.tT_or (Mine.tT_cmp (Mine.eD_callG2 (by assumption) (by walk_at "mEOK") (Mine.gF_basename w) (Mine.gK_basename w) (Mine.aD_cons (Mine.eD_name (by walk_at "mELK")) Mine.aD_nil) (cF_basename (by assumption) (by walk_at "mROOM") hup)) (Mine.eD_name (by walk_at "mELK")) Mine.tD_neS) (fun _ => Mine.tT_or0))))))) (fun h => absurd h (by simp [n5, n6])) (fun _ => d_nil ?_)
    obtain ⟨m1, m2, m3, m4⟩ := id n4
    have hda2 : (Str.ofString (toString (ln : Int)) ++ Str.ofString ".").length ≤ 101 := by rw [Str.length_append]; lia
    refine d_cons (xD_assign ok (Mine.eD_callG2 (by assumption) (by walk_at "mEOK") (Mine.gF_law_back w) (Mine.gK_law_back w) (Mine.aD_cons (Mine.eD_name (by walk_at "mELK")) (Mine.aD_cons (Mine.eD_bin (Mine.eD_bin (Mine.eD_callT2 (T := "str") (by assumption) (by walk_at "mEOK") (Mine.gB_str w) rfl (Mine.aD_cons (Mine.eD_sub (Mine.eD_name (by walk_at "mELK")) Mine.eD_int (Mine.sD_titem (by walk_at "mEBOUND") (by walk_at "mEGET") (by walk_at "mEBOUND"))) Mine.aD_nil) (Mine.cD_str (by walk_at "mEBOUND") (by walk_at "mEBOUND"))) Mine.eD_str (Mine.tD_addS (by walk_at "mEBOUND"))) (Mine.eD_callT2 (T := "str") (by assumption) (by walk_at "mEOK") (Mine.gB_str w) rfl (Mine.aD_cons (Mine.eD_sub (Mine.eD_name (by walk_at "mELK")) Mine.eD_int (Mine.sD_titem (by walk_at "mEBOUND") (by walk_at "mEGET") (by walk_at "mEBOUND"))) Mine.aD_nil) (Mine.cD_str (by walk_at "mEBOUND") (by walk_at "mEBOUND"))) (Mine.tD_addS (by walk_at "mEBOUND"))) (Mine.aD_cons (Mine.eD_name (by walk_at "mELK")) Mine.aD_nil))) (cF_back (by assumption) (by walk_at "mROOM") n7 n4 n1 n2 hrl n3 hwd hrows))) ?_
    exact d_ret (xD_return ok (Mine.eD_cmp (Mine.eD_name (by walk_at "mELK")) (Mine.eD_callG2 (by assumption) (by walk_at "mEOK") (Mine.gF_law_told w) (Mine.gK_law_told w) (Mine.aD_cons (Mine.eD_name (by walk_at "mELK")) (Mine.aD_cons (Mine.eD_sub (Mine.eD_name (by walk_at "mELK")) Mine.eD_int (Mine.sD_titem (by walk_at "mEBOUND") (by walk_at "mEGET") (by walk_at "mEBOUND"))) (Mine.aD_cons (Mine.eD_sub (Mine.eD_name (by walk_at "mELK")) Mine.eD_int (Mine.sD_titem (by walk_at "mEBOUND") (by walk_at "mEGET") (by walk_at "mEBOUND"))) (Mine.aD_cons (Mine.eD_name (by walk_at "mELK")) Mine.aD_nil)))) (cF_told2 (by assumption) (by walk_at "mROOM") n8 htl hwd htn)) (tD_eqD (bb := true) (rm.le (by decide)) rfl rfl ⟨fun _ => rfl, fun _ => rfl⟩))) rfl
end Mine

namespace Mine
inductive Chain (rows : List Str) : Int × Int × Int → List Ent → Prop
  | nil (b c : Int) : Chain rows (0, b, c) []
  | cons {ln fi be : Nat} {name : Str} {rest : List Ent} {next : Int × Int × Int} : 1 ≤ ln → ln ≤ rows.length → fi < 10 ^ 9 → PlaceOk ln fi → Txt.slice (rows.getD (ln - 1) (Str.ofString "")) (some (fi : Int)) (some (be : Int)) = name →
      pBack rows ln fi (Str.ofString "") = next → Chain rows next rest → Chain rows ((ln : Int), (fi : Int), (be : Int)) (((ln : Int), (fi : Int), (be : Int), name) :: rest)
theorem cF_backlast {w : World} {c : Cx} {env : Env} {σ : Sg} {rows : List Str} {f : Int × Int × Int} (ok : CxOk w c) (rm : Rm c 12) (hb : pBack rows rows.length (rows.getD (rows.length - 1) (Str.ofString "")).length (Str.ofString "") = f) (hp : PlaceOk rows.length (rows.getD (rows.length - 1) (Str.ofString "")).length) (h1 : 1 ≤ rows.length) (hrl : rows.length ≤ 1000) (hrows : ∀ x ∈ rows, x.length ≤ 100000) :
    CallD w c env σ (.ref 238) [.d (.list (rows.map .str)), .d (.str (Str.ofString (toString (((rows.map Dat.str).length : Nat) : Int)) ++ Str.ofString "." ++ Str.ofString (toString (((rows.getD (rows.length - 1) (Str.ofString "")).length : Nat) : Int)))), .d (.str (Str.ofString ""))] (.d (.tuple [.int f.1, .int f.2.1, .int f.2.2])) := by
  have hlrow := hrows _ (rowMem (rows := rows) (k := rows.length - 1) (by lia))
  rw [List.length_map]
  exact cF_back ok rm hb hp h1 (Nat.le_refl _) hrl (by lia) (by decide) hrows
theorem fn_taken (w : World) : FnV w 252 16 (fun ds r => ∃ (rows : List Str) (table : List Ent) (f : Int × Int × Int), ds = [.d (.list (rows.map .str)), .d (.int table.length)] ∧ r = .d (.list (table.map encE)) ∧ 1 ≤ rows.length ∧ rows.length ≤ 1000 ∧ (∀ x ∈ rows, x.length ≤ 100000) ∧ table.length ≤ 100000 ∧
    PlaceOk rows.length (rows.getD (rows.length - 1) (Str.ofString "")).length ∧ pBack rows rows.length (rows.getD (rows.length - 1) (Str.ofString "")).length (Str.ofString "") = f ∧ Chain rows f table.reverse) := by
  have hfill := Mine.fillT w
  revert hfill
  k_fill
  intro hfill
  clear hfill
  refine' fnV_of [Str.ofString "rows", Str.ofString "count"] ?ho ?hcd ?hb ?hloc ?hnd ?hdb ?hlen (by decide) ?h ?hco ?hgen ?hk ?hcell
  case ho => k_is
  case hcd => k_is
  case hb => intro s vs hv; obtain _ | ⟨v1, _ | ⟨v2, _ | ⟨v3, _ | ⟨v4, _ | ⟨v5, vs⟩⟩⟩⟩⟩ := vs <;> first | (simp at hv; done) | exact BindsTo.of_eq rfl
  case hloc => decide
  case hnd => decide
  case hdb => decide
  case hco => rfl
  case hgen => rfl
  case hk => rfl
  case hcell => decide
  case hlen => rintro ds r ⟨rows, table, f, rfl, _⟩; rfl
  rintro c L g ds r ok rm ⟨rows, table, f, rfl, rfl, h1, hrl, hrows, htl, hp, hb, hch⟩
  have eo := envOk ok.k
  refine Does.body ?_
  generalize hσ0 : lkL _ = σ0
  have s1 : σ0 (Str.ofString "rows") = some (.d (.list (rows.map .str))) := by subst hσ0; rfl
  have s2 : σ0 (Str.ofString "count") = some (.d (.int table.length)) := by subst hσ0; rfl
  have s3 : σ0 (Str.ofString "taken") = none := by subst hσ0; rfl
  clear hσ0
  have hrl2 : (rows.map Dat.str).length ≤ 1000000 := by rw [List.length_map]; lia
  have hrl3 : (rows.map Dat.str).length ≤ 16000000 := by rw [List.length_map]; lia
  have he : (Str.ofString "").length ≤ 100000 := by decide
  have hlast : (rows.map Dat.str).getLast? = some (.str (rows.getD (rows.length - 1) (Str.ofString ""))) := by
    rw [List.getLast?_eq_getElem?, List.length_map]; exact rowAt (by lia)
  have hlrow := hrows _ (rowMem (rows := rows) (k := rows.length - 1) (by lia))
  have hlrow2 : (rows.getD (rows.length - 1) (Str.ofString "")).length ≤ 16000000 := by lia
  obtain ⟨p1, p2, p3, p4⟩ := id hp
  have hd1 : (Str.ofString ".").length = 1 := rfl
  have hda : (Str.ofString (toString (((rows.map Dat.str).length : Nat) : Int)) ++ Str.ofString ".").length ≤ 101 := by rw [Str.length_append, List.length_map]; lia
  have p3' : (Str.ofString (toString (((rows.map Dat.str).length : Nat) : Int))).length ≤ 100 := by rw [List.length_map]; exact p3
  refine d_cons (xD_newlist ok ad_nil (by decide) (fun _ h => (nomatch h)) (hσ := s3)) ?_
  refine d_cons (xD_assign ok (Mine.eD_callG2 (by assumption) (by walk_at "mEOK") (Mine.gF_law_back w) (Mine.gK_law_back w) (Mine.aD_cons (Mine.eD_name (by walk_at "mELK")) (Mine.aD_cons (Mine.eD_bin (Mine.eD_bin (Mine.eD_callT2 (T := "str") (by assumption) (by walk_at "mEOK") (Mine.gB_str w) rfl (Mine.aD_cons (Mine.eD_callB2 (id := "len") (by assumption) (by walk_at "mEOK") (Mine.gB_len w) rfl (Mine.aD_cons (Mine.eD_name (by walk_at "mELK")) Mine.aD_nil) (Mine.cD_len (by walk_at "mEBOUND"))) Mine.aD_nil) (Mine.cD_str (by walk_at "mEBOUND") (by walk_at "mEBOUND"))) Mine.eD_str (Mine.tD_addS (by walk_at "mEBOUND"))) (Mine.eD_callT2 (T := "str") (by assumption) (by walk_at "mEOK") (Mine.gB_str w) rfl (Mine.aD_cons (Mine.eD_callB2 (id := "len") (by assumption) (by walk_at "mEOK") (Mine.gB_len w) rfl (Mine.aD_cons (Mine.eD_sub (Mine.eD_name (by walk_at "mELK")) (Mine.eD_neg Mine.eD_int) (Mine.sD_last (by walk_at "mEGET"))) Mine.aD_nil) (Mine.cD_strlen (by walk_at "mEBOUND"))) Mine.aD_nil) (Mine.cD_str (by walk_at "mEBOUND") (by walk_at "mEBOUND"))) (Mine.tD_addS (by walk_at "mEBOUND"))) (Mine.aD_cons Mine.eD_str Mine.aD_nil))) (cF_backlast (by assumption) (by walk_at "mROOM") hb hp h1 hrl hrows)) rfl (MuNe.of (by decide))) ?_
  refine d_while (fun n σ mu => ∃ (done rest : List Ent) (t : Int × Int × Int), mu = some (Str.ofString "taken", done.map encE) ∧ σ (Str.ofString "rows") = some (.d (.list (rows.map .str))) ∧ σ (Str.ofString "count") = some (.d (.int table.length)) ∧ σ (Str.ofString "found") = some (.d (.tuple [.int t.1, .int t.2.1, .int t.2.2])) ∧ done ++ rest = table.reverse ∧ Chain rows t rest ∧ n = rest.length) ok ?_ table.reverse.length ⟨[], table.reverse, f, rfl, by walk_at "mELK", by walk_at "mELK", by walk_at "mELK", rfl, hch, rfl⟩
  rintro n σ mu ⟨done, rest, t, rfl, q1, q2, q3, q4, q5, rfl⟩
  have hdl : done.length + rest.length = table.length := by rw [← List.length_append, q4, List.length_reverse]
  have hdl2 : (done.map encE).length ≤ 16000000 := by rw [List.length_map]; lia
  have hdl3 : (done.map encE).length ≤ 1000000 := by rw [List.length_map]; lia
  refine ⟨(t.1 != 0) && (decide (((done.map encE).length : Int) ≤ (table.length : Int)) && true), .inr ⟨_, _, rfl, by decide, (Mine.tT_and (Mine.tT_val (Mine.eD_sub (Mine.eD_name (by walk_at "mELK")) Mine.eD_int (Mine.sD_titem (by walk_at "mEBOUND") (by walk_at "mEGET") (by walk_at "mEBOUND"))) Mine.trI) (fun _ => (Mine.tT_and (Mine.tT_cmp (Mine.eD_callB2 (id := "len") (by assumption) (by walk_at "mEOK") (Mine.gB_len w) rfl (Mine.aD_cons (Mine.eD_name (by walk_at "mELK")) Mine.aD_nil) (Mine.cD_len (by walk_at "mEBOUND"))) (Mine.eD_name (by walk_at "mELK")) Mine.tD_leI) (fun _ => Mine.tT_and0))))⟩, fun hb => ?_, fun hb => ?_⟩
  · cases q5 with
    | nil b c' =>
      refine d_ret (xD_returnX ok rfl (eD_revL (Mine.eD_name (by walk_at "mELK")) (Mine.eD_neg Mine.eD_int) hdl3)) ?_
      rw [List.append_nil] at q4
      rw [q4, List.map_reverse, List.reverse_reverse]
    | cons k1 k2 k3 k4 k5 k6 k7 =>
      rename_i ln fi be name rest next
      rw [List.length_cons] at hdl
      have : ¬ (((done.map encE).length : Int) ≤ (table.length : Int)) ∨ ((ln : Int) = 0) := by
        simp at hb
        rcases Nat.eq_zero_or_pos ln with h | h
        · right; lia
        · left
          have := hb (by lia)
          rw [List.length_map]; lia
      rw [List.length_map] at this
      lia
  · cases q5 with
    | nil b c' => simp at hb
    | cons k1 k2 k3 k4 k5 k6 k7 =>
      rename_i ln fi be name rest next
      have hat : (rows.map Dat.str)[((ln : Int) - 1).toNat]? = some (.str (rows.getD (ln - 1) (Str.ofString ""))) := by
        rw [show ((ln : Int) - 1).toNat = ln - 1 by lia]; exact rowAt (by lia)
      have hrow := hrows _ (rowMem (rows := rows) (k := ln - 1) (by lia))
      have hrow2 : (rows.getD (ln - 1) (Str.ofString "")).length ≤ 16000000 := by lia
      obtain ⟨m1, m2, m3, m4⟩ := id k4
      have hda2 : (Str.ofString (toString (ln : Int)) ++ Str.ofString ".").length ≤ 101 := by rw [Str.length_append]; lia
      refine d_cons (xD_append ok (eF_addT (Mine.eD_name (by walk_at "mELK")) (Mine.eD_tuple (ds := [_]) (Mine.ad_cons (Mine.eD_sliceS_ss (Mine.eD_sub (Mine.eD_name (by walk_at "mELK")) (Mine.eD_bin (Mine.eD_sub (Mine.eD_name (by walk_at "mELK")) Mine.eD_int (Mine.sD_titem (by walk_at "mEBOUND") (by walk_at "mEGET") (by walk_at "mEBOUND"))) Mine.eD_int Mine.tD_subI) (Mine.sD_item (by walk_at "mEBOUND") (by walk_at "mEGET") (by walk_at "mEBOUND"))) (Mine.eD_sub (Mine.eD_name (by walk_at "mELK")) Mine.eD_int (Mine.sD_titem (by walk_at "mEBOUND") (by walk_at "mEGET") (by walk_at "mEBOUND"))) (Mine.eD_sub (Mine.eD_name (by walk_at "mELK")) Mine.eD_int (Mine.sD_titem (by walk_at "mEBOUND") (by walk_at "mEGET") (by walk_at "mEBOUND"))) (by walk_at "mEBOUND")) Mine.ad_nil) (Nat.le_of_ble_eq_true rfl)) (by simp) (by simp) (Nat.le_of_ble_eq_true rfl) (Nat.le_of_ble_eq_true rfl) (by walk_at "mEATOM")) hdl3) ?_
      refine d_cons (xD_assign ok (Mine.eD_callG2 (by assumption) (by walk_at "mEOK") (Mine.gF_law_back w) (Mine.gK_law_back w) (Mine.aD_cons (Mine.eD_name (by walk_at "mELK")) (Mine.aD_cons (Mine.eD_bin (Mine.eD_bin (Mine.eD_callT2 (T := "str") (by assumption) (by walk_at "mEOK") (Mine.gB_str w) rfl (Mine.aD_cons (Mine.eD_sub (Mine.eD_name (by walk_at "mELK")) Mine.eD_int (Mine.sD_titem (by walk_at "mEBOUND") (by walk_at "mEGET") (by walk_at "mEBOUND"))) Mine.aD_nil) (Mine.cD_str (by walk_at "mEBOUND") (by walk_at "mEBOUND"))) Mine.eD_str (Mine.tD_addS (by walk_at "mEBOUND"))) (Mine.eD_callT2 (T := "str") (by assumption) (by walk_at "mEOK") (Mine.gB_str w) rfl (Mine.aD_cons (Mine.eD_sub (Mine.eD_name (by walk_at "mELK")) Mine.eD_int (Mine.sD_titem (by walk_at "mEBOUND") (by walk_at "mEGET") (by walk_at "mEBOUND"))) Mine.aD_nil) (Mine.cD_str (by walk_at "mEBOUND") (by walk_at "mEBOUND"))) (Mine.tD_addS (by walk_at "mEBOUND"))) (Mine.aD_cons Mine.eD_str Mine.aD_nil))) (cF_back (f1 := next.1) (f2 := next.2.1) (f3 := next.2.2) (by assumption) (by walk_at "mROOM") k6 k4 k1 k2 hrl k3 he hrows)) rfl (MuNe.of (by decide))) ?_
      refine d_nil (Or.inl ⟨_, _, rest.length, by simp, rfl, done ++ [((ln : Int), (fi : Int), (be : Int), name)], rest, next, ?_, by walk_at "mELK", by walk_at "mELK", by walk_at "mELK", by rw [List.append_assoc]; exact q4, k7, rfl⟩)
      rw [List.map_append, ← k5]
      rfl
end Mine

namespace Mine
noncomputable def pPrev (n k : Nat) : Nat := if k = 0 then n - 1 else k - 1
noncomputable abbrev pRows (ns : List Int) : List Str := (pDrawn ns).map pNorm
noncomputable abbrev pLists (ns : List Int) : List (List Str) := (pDrawn ns).map pStraight
noncomputable def pSlash (l : List Str) : Str := Str.ofString "/" ++ Txt.join (Str.ofString "/") l
noncomputable def pNames (table : List Ent) (k : Nat) : List Str := (table.filter fun e => e.1 == (k : Int) + 1).map fun e => e.2.2.2
/-- what the law comes to, with no program in sight -/
structure LawOk (ns : List Int) : Prop where
  rooted : ∀ x ∈ pDrawn ns, Rooted x
  same : pRows ns = (pLists ns).map pSlash
  sok : ∀ r ∈ pRows ns, PyData.strOk r = true
  n1 : 1 ≤ (pRows ns).length
  n2 : (pRows ns).length ≤ 10
  rl : ∀ r ∈ pRows ns, r.length ≤ 1000
  ll : ∀ l ∈ pLists ns, wt l ≤ 1000
  tl : (pTable (pLists ns)).length ≤ 1000
  te : ∀ e ∈ pTable (pLists ns), e.2.2.2.length ≤ 1000 ∧ PyData.strOk e.2.2.2 = true
  agrees : ∀ line col : Nat, 1 ≤ line → line ≤ (pRows ns).length → col ≤ ((pRows ns).getD (line - 1) (Str.ofString "")).length → AgreesAt (pRows ns) (pTable (pLists ns)) line col
  place : PlaceOk (pRows ns).length ((pRows ns).getD ((pRows ns).length - 1) (Str.ofString "")).length
  chain : ∃ f, pBack (pRows ns) (pRows ns).length ((pRows ns).getD ((pRows ns).length - 1) (Str.ofString "")).length (Str.ofString "") = f ∧ Chain (pRows ns) f (pTable (pLists ns)).reverse
  joins : ∀ k, k < (pRows ns).length → (pNames (pTable (pLists ns)) k).foldl jStep (Str.ofString "/") = (pRows ns).getD k (Str.ofString "") ∧ ∀ i, (((pNames (pTable (pLists ns)) k).take i).foldl jStep (Str.ofString "/")).length ≤ 100000
  pairs : ∀ k, k < (pRows ns).length → PairOk ((pLists ns).getD k []) ((pLists ns).getD (pPrev (pRows ns).length k) []) ((pRows ns).getD k (Str.ofString "")) ((pRows ns).getD (pPrev (pRows ns).length k) (Str.ofString ""))
section
variable {w : World} {c : Cx} {env : Env} {σ : Sg}
theorem cF_straight {x : Str} (ok : CxOk w c) (rm : Rm c 4) (h : x.length ≤ 100000) : CallD w c env σ (.ref 203) [.d (.str x)] (.d (.list ((pStraight x).map .str))) := cD_fn ok (fn_straight w) rm ⟨x, rfl, rfl, h⟩
theorem cF_table {lists : List (List Str)} (ok : CxOk w c) (rm : Rm c 4) (h1 : lists.length ≤ 1000) (h2 : ∀ ns ∈ lists, ns.length ≤ 1000 ∧ ∀ n ∈ ns, n.length ≤ 100000) (h3 : (pTable lists).length ≤ 100000) : CallD w c env σ (.ref 210) [.d (.list (lists.map encN))] (.d (.list ((pTable lists).map encE))) := cD_fn ok (fn_table w) rm ⟨lists, rfl, rfl, h1, h2, h3⟩
end
noncomputable abbrev lawCx (loose : List Str) (mean : ExcName → Option Value) (mg mb : Str → Option Value) (dp un : Nat) (gd : Option (List Code)) (cn : Str) (scope : Scope) (fa : Addr) (ccd : Value) (outer : List Env) (A₀ : Around) (base h₀ : Heap) (L : Addr) : Cx :=
  ⟨loose, mean, mg, mb, dp, un, gd, cn, scope, fa, ccd, [(Str.ofString "taken", L + 1)], outer, A₀, base, h₀, L, []⟩
theorem law_start {w : World} {loose : List Str} {mean : ExcName → Option Value} {mg mb : Str → Option Value} {dp un : Nat} {gd : Option (List Code)} {cn : Str} {scope : Scope} {fa : Addr} {ccd : Value} {outer : List Env} {A₀ : Around} {base h₀ h₁ : Heap} {L a : Addr} {m : Str → Option Value} {o : Obj} (F : Fr h₀ L h₁ m) (N : News h₀ L h₁ [(L + 1, o), (219, tabObj #[]), (226, tabObj #[])]) {v₀ : Option Value} (ho : o.data = .cell v₀) (hm : m (Str.ofString "script") = some (.ref a)) (hl : 219 < L ∧ 226 < L)
    (hk : scope.names.lookup (Str.ofString "script") = some .local) : InSt w (lawCx loose mean mg mb dp un gd cn scope fa ccd outer A₀ base h₀ L) [] [] [] (upd (fun _ => none) (Str.ofString "script") (.raw (.ref a))) none h₁ := by
  refine ⟨m, [(L + 1, o)], (#[], #[]), F, fun p hp => N p ?_, ⟨.inl rfl, .inl rfl⟩, fun p hp => ?_, fun x d hx => ?_, fun _ _ _ h => (nomatch h), fun _ h => (nomatch h), fun _ _ _ h => (nomatch h), by simp, ⟨fun x b hx hb => ?_, fun _ h => (nomatch h)⟩, fun _ _ h => (nomatch h)⟩
  · simp only [List.append_nil, List.mem_append, List.mem_cons, List.not_mem_nil, or_false] at hp ⊢
    rcases hp with (h | h) | h <;> simp [h]
  · simp only [List.append_nil, List.mem_cons, List.not_mem_nil, or_false] at hp
    subst hp
    exact ⟨Nat.ne_of_gt (Nat.lt_succ_of_lt hl.1), Nat.ne_of_gt (Nat.lt_succ_of_lt hl.2)⟩
  · unfold upd at hx
    by_cases hxs : x = Str.ofString "script"
    · subst hxs
      rw [if_pos rfl] at hx
      cases hx
      exact ⟨by decide, by decide, _, rfl, .inl ⟨hk, hm⟩⟩
    · rw [if_neg hxs] at hx; cases hx
  · have hb' : List.lookup x [(Str.ofString "taken", L + 1)] = some b := hb
    rw [List.lookup_cons] at hb'
    by_cases h1 : (x == Str.ofString "taken") = true
    · simp only [h1] at hb'
      cases hb'
      exact ⟨o, _, .head _, ho⟩
    · simp only [h1] at hb'; cases hb'
theorem law_end {w : World} {loose : List Str} {mean : ExcName → Option Value} {mg mb : Str → Option Value} {cn : Str} {scope : Scope} {body : List Stmt} {fa : Addr} {ccd : Value} {base h₁ : Heap} {L a : Addr} {m : Str → Option Value} {o : Obj} {vs : List Value} {ns : List Int} {g : Array GenState} {dr : Drawn} {tk : Nat} {os : OsState} {Q : Flow → Shared → Prop} {E : Value → Shared → Prop}
    (hex : ∀ (w : World) (loose : List Str) (mean : ExcName → Option Value) (mg mb : Str → Option Value) (dp un : Nat) (gd : Option (List Code)) (cn : Str) (fa : Addr) (ccd : Value) (outer : List Env) (A₀ : Around) (base h₀ : Heap) (L a : Addr) (vs : List Value) (ns : List Int) (σ0 : Sg), CxOk w (lawCx loose mean mg mb dp un gd cn scope fa ccd outer A₀ base h₀ L) → Rm (lawCx loose mean mg mb dp un gd cn scope fa ccd outer A₀ base h₀ L) 40 → h₀.IsList a vs.toArray → IntsAre vs ns → vs.length ≤ 63 → LawOk ns → σ0 (Str.ofString "script") = some (.raw (.ref a)) → ExecsD w (lawCx loose mean mg mb dp un gd cn scope fa ccd outer A₀ base h₀ L) σ0 none body (.ret (.d (.bool true))))
    (K' : Below callerA base [] base) (X' : (Mine.top.heap_1 w.params).In base) (T' : Top topProg loose mean mg mb base) (F' : Fr base L h₁ m) (N' : News base L h₁ [(L + 1, o), (219, tabObj #[]), (226, tabObj #[])]) {v₀ : Option Value} (ho : o.data = .cell v₀) (hm : m (Str.ofString "script") = some (.ref a)) (hl : 219 < L ∧ 226 < L) (hL : base.IsList a vs.toArray) (hI : IntsAre vs ns) (hvl : vs.length ≤ 63) (lo : LawOk ns)
    (hcells : cellsFrom (L + 1) scope.names [] = [(Str.ofString "taken", L + 1)]) (hk : scope.names.lookup (Str.ofString "script") = some .local) (hkind : scope.kind = .function)
    (hQ : ∀ h' tk' m' ps1 ps2 rest, Fr base L h' m' → News base L h' ((219, tabObj ps1) :: (226, tabObj ps2) :: rest) → Q (.ret (.bool true)) ⟨h', g, dr, tk', os⟩) :
    wpAny (theM w) (callerA.deeper (envOfC cn scope L fa ccd)) (execs body (envOfC cn scope L fa ccd)) Q E ⟨h₁, g, dr, tk, os⟩ := by
  have ok : CxOk w (lawCx loose mean mg mb (1 + claimMargin + 1) 7 (some []) cn scope fa ccd [] callerA base base L) := ⟨K', X', T', hkind⟩
  have rm : Rm (lawCx loose mean mg mb (1 + claimMargin + 1) 7 (some []) cn scope fa ccd [] callerA base base L) 40 := ⟨by show 1 + claimMargin + 1 + 40 < recursionLimit; decide, by show 7 + 8 * 40 + 64 < cLine; decide⟩
  have he : envOfC cn scope L fa ccd = (lawCx loose mean mg mb (1 + claimMargin + 1) 7 (some []) cn scope fa ccd [] callerA base base L).env := by
    show envX cn scope L fa ccd (cellsFrom (L + 1) scope.names []) = _
    rw [hcells]
  rw [he]
  have key := hex _ _ _ _ _ _ _ _ _ _ _ _ _ _ _ _ a vs ns (upd (fun _ => none) (Str.ofString "script") (.raw (.ref a))) ok rm hL hI hvl lo (if_pos rfl)
  refine key [] [] [] ⟨h₁, g, dr, tk, os⟩ Q E (law_start F' N' ho hm hl hk) fun f h' tk' add hO => ?_
  obtain ⟨v, m', t', fx, rfl, F2, N2, _, _, hv⟩ := hO
  (first | refine Mine.inI (show DatIn _ _ _ from hv) fun _ => ?_ | refine Mine.inS (show DatIn _ _ _ from hv) fun _ => ?_ | refine Mine.inB (show DatIn _ _ _ from hv) ?_ | refine Mine.inN (show DatIn _ _ _ from hv) ?_)
  exact hQ h' tk' m' t'.1 t'.2 _ F2 N2
end Mine

namespace Mine
open PySem.StrLaws Builtin Builtin.Str
/-- texts as lists of signs: joined and cut at one sign -/
noncomputable def jn (c : Nat) : List (List Nat) → List Nat
  | [] => []
  | [a] => a
  | a :: b :: r => a ++ c :: jn c (b :: r)
noncomputable def prep (u : List Nat) : List (List Nat) → List (List Nat)
  | [] => [u]
  | h :: t => (u ++ h) :: t
noncomputable def sp (c : Nat) : List Nat → List (List Nat)
  | [] => [[]]
  | a :: r => if a = c then [] :: sp c r else prep [a] (sp c r)
noncomputable def pos (c : Nat) : Nat → List Nat → List Nat
  | _, [] => []
  | a, x :: r => if x = c then a :: pos c (a + 1) r else pos c (a + 1) r
theorem sp_ne (c : Nat) (l : List Nat) : sp c l ≠ [] := by
  cases l with
  | nil => simp [sp]
  | cons a r =>
    unfold sp
    split
    · simp
    · cases sp c r <;> simp [prep]
theorem prep_nil {ps : List (List Nat)} (h : ps ≠ []) : prep [] ps = ps := by
  cases ps with
  | nil => exact absurd rfl h
  | cons a r => rfl
theorem prep_prep (u v : List Nat) (ps : List (List Nat)) : prep u (prep v ps) = prep (u ++ v) ps := by
  cases ps with
  | nil => rfl
  | cons a r => simp [prep]
theorem sp_free_app {c : Nat} : ∀ (u : List Nat) (s : List Nat), c ∉ u → sp c (u ++ s) = prep u (sp c s) := by
  intro u
  induction u with
  | nil => intro s _; exact (prep_nil (sp_ne c s)).symm
  | cons a r ih =>
    intro s h
    have h1 : a ≠ c := fun e => h (e ▸ .head _)
    rw [List.cons_append]
    have e : sp c (a :: (r ++ s)) = prep [a] (sp c (r ++ s)) := by rw [sp]; exact if_neg h1
    rw [e, ih s (fun q => h (.tail _ q)), prep_prep]
    rfl
theorem sp_jn {c : Nat} : ∀ (ps : List (List Nat)), ps ≠ [] → (∀ p ∈ ps, c ∉ p) → sp c (jn c ps) = ps := by
  intro ps
  induction ps with
  | nil => intro h; exact absurd rfl h
  | cons a r ih =>
    intro _ h
    cases r with
    | nil =>
      show sp c a = [a]
      have := sp_free_app a [] (h a (.head _))
      rw [List.append_nil] at this
      rw [this]
      show [a ++ []] = [a]
      rw [List.append_nil]
    | cons b r =>
      show sp c (a ++ c :: jn c (b :: r)) = a :: b :: r
      rw [sp_free_app a _ (h a (.head _))]
      have e : sp c (c :: jn c (b :: r)) = [] :: sp c (jn c (b :: r)) := by
        rw [sp]; exact if_pos rfl
      rw [e, ih (by simp) (fun p hp => h p (.tail _ hp))]
      show (a ++ []) :: _ = _
      rw [List.append_nil]
theorem sp_free {c : Nat} : ∀ (l : List Nat), ∀ p ∈ sp c l, c ∉ p := by
  intro l
  induction l with
  | nil => intro p hp; simp [sp] at hp; subst hp; simp
  | cons a r ih =>
    intro p hp
    unfold sp at hp
    split at hp
    · rcases List.mem_cons.mp hp with rfl | hp
      · simp
      · exact ih p hp
    · rename_i h
      cases hs : sp c r with
      | nil => exact absurd hs (sp_ne c r)
      | cons q t =>
        rw [hs] at hp ih
        rcases List.mem_cons.mp hp with rfl | hp
        · intro hc
          rcases List.mem_cons.mp hc with e | hc
          · exact h e.symm
          · exact ih q (.head _) hc
        · exact ih p (.tail _ hp)
theorem jn_sp {c : Nat} : ∀ (l : List Nat), jn c (sp c l) = l := by
  intro l
  induction l with
  | nil => rfl
  | cons a r ih =>
    unfold sp
    cases hs : sp c r with
    | nil => exact absurd hs (sp_ne c r)
    | cons q t =>
      rw [hs] at ih
      split
      · rename_i h
        show [] ++ c :: jn c (q :: t) = _
        rw [ih, h]; rfl
      · cases t with
        | nil =>
          show a :: q = a :: r
          rw [← ih]; rfl
        | cons q2 t =>
          show (a :: q) ++ c :: jn c (q2 :: t) = a :: r
          rw [← ih]; rfl
theorem ch_glue (y : Str) (c : Nat) (hy : ch y = [c]) : ∀ (ss : List Str), ch (Str.join y ss) = jn c (ss.map ch) := by
  intro ss
  induction ss with
  | nil => rfl
  | cons a r ih =>
    cases r with
    | nil => rfl
    | cons b r =>
      show ch (a ++ y ++ Str.join y (b :: r)) = ch a ++ c :: jn c ((b :: r).map ch)
      rw [ch_app, ch_app, hy, ih, List.append_assoc]; rfl
theorem ch_join (y : Str) (c : Nat) (hy : ch y = [c]) (ss : List Str) : ch (Txt.join y ss) = jn c (ss.map ch) := by
  rw [show Txt.join y ss = Str.join y ss from StrLaws.glued_eq_join _ _]
  exact ch_glue y c hy ss
theorem ch_sub (x : Str) (a b : Nat) : ch (strSub x a b) = ((ch x).drop a).take (b - a) := strSub_toList ..
-- all places of one sign
theorem occ_loop (x y : Str) (c : Nat) (hy : ch y = [c]) : ∀ (m k : Nat) (acc : Array Nat) (free : Nat), k + m = x.length + 1 → free ≤ k → acc.size ≤ k →
    (forIn (List.range' k m) (acc, free) (occBody x y x.length (x.length + 1))).run.fst.toList = acc.toList ++ pos c k ((ch x).drop k) := by
  intro m
  induction m with
  | zero =>
    intro k acc free hk _ _
    rw [List.drop_of_length_le (by rw [ch_len]; lia)]
    show acc.toList = acc.toList ++ []
    rw [List.append_nil]
  | succ m ih =>
    intro k acc free hk hf ha
    rw [List.range'_succ, List.forIn_cons]
    unfold occBody
    have hyl : y.length = 1 := by rw [← ch_len, hy]; rfl
    have hsub : subAt x y k = (((ch x).drop k).take 1 == [c]) := by
      rw [subAt_eq]
      show (((ch x).drop k).take y.length == ch y) = _
      rw [hyl, hy]
    by_cases hlt : k < x.length
    · have hd : (ch x).drop k = (ch x)[k]'(by rw [ch_len]; exact hlt) :: (ch x).drop (k + 1) := List.drop_eq_getElem_cons (by rw [ch_len]; exact hlt)
      rw [hd] at hsub ⊢
      unfold pos
      by_cases hc : (ch x)[k]'(by rw [ch_len]; exact hlt) = c
      · have hs : subAt x y k = true := by rw [hsub, hc]; simp
        rw [if_pos ⟨⟨⟨by show acc.size < _; lia, hf⟩, by lia⟩, hs⟩, if_pos hc]
        have := ih (k + 1) (acc.push k) (k + y.length) (by lia) (by lia) (by rw [Array.size_push]; lia)
        show (forIn (List.range' (k + 1) m) (acc.push k, k + y.length) (occBody x y x.length (x.length + 1))).run.fst.toList = _
        rw [this, Array.toList_push, List.append_assoc]; rfl
      · have hs : ¬ subAt x y k = true := by rw [hsub]; simpa using hc
        rw [if_neg (fun q => hs q.2), if_neg hc]
        exact ih (k + 1) acc free (by lia) (by lia) (by lia)
    · rw [if_neg (fun q => by have := q.1.2; lia)]
      have e1 : (ch x).drop k = [] := List.drop_of_length_le (by rw [ch_len]; lia)
      have e2 : (ch x).drop (k + 1) = [] := List.drop_of_length_le (by rw [ch_len]; lia)
      have := ih (k + 1) acc free (by lia) (by lia) (by lia)
      rw [e2] at this
      rw [e1]
      exact this
theorem occ_pos (x y : Str) (c : Nat) (hy : ch y = [c]) : occurrences x y 0 x.length (x.length + 1) = pos c 0 (ch x) := by
  rw [occ_eq]
  have := occ_loop x y c hy (x.length + 1 - 0) 0 #[] 0 (by lia) (Nat.le_refl _) (Nat.le_refl _)
  rw [this]; rfl
theorem parts_sp (x : Str) (c : Nat) : ∀ (s pre u : List Nat), ch x = pre ++ u ++ s → (partsFrom x 1 pre.length (pos c (pre.length + u.length) s)).map ch = prep u (sp c s) := by
  intro s
  induction s with
  | nil =>
    intro pre u h
    show [ch (strSub x pre.length x.length)] = [u ++ []]
    rw [ch_sub, h, List.append_nil, List.append_nil, List.drop_left, List.take_of_length_le]
    rw [← ch_len, h]; simp
  | cons z r ih =>
    intro pre u h
    unfold pos sp
    by_cases hz : z = c
    · rw [if_pos hz, if_pos hz]
      show ch (strSub x pre.length (pre.length + u.length)) :: (partsFrom x 1 (pre.length + u.length + 1) (pos c (pre.length + u.length + 1) r)).map ch = (u ++ []) :: sp c r
      have := ih (pre ++ u ++ [z]) [] (by rw [h]; simp)
      simp only [List.length_append, List.length_cons, List.length_nil, Nat.add_zero, Nat.zero_add] at this
      rw [this, prep_nil (sp_ne c r), List.append_nil]
      congr 1
      rw [ch_sub, h, List.append_assoc, List.drop_left, show pre.length + u.length - pre.length = u.length by lia, List.take_left]
    · rw [if_neg hz, if_neg hz, prep_prep]
      have := ih pre (u ++ [z]) (by rw [h]; simp)
      simp only [List.length_append, List.length_cons, List.length_nil, Nat.zero_add] at this
      rw [← this, Nat.add_assoc]
theorem ch_split (x y : Str) (c : Nat) (hy : ch y = [c]) (hk : ∀ x : Str, decide (strKind x < strKind y) = false) : (Txt.split x y).map ch = sp c (ch x) := by
  have hyl : y.length = 1 := by rw [← ch_len, hy]; rfl
  have main := parts_sp x c (ch x) [] [] rfl
  simp only [List.length_nil, Nat.add_zero] at main
  rw [prep_nil (sp_ne c _)] at main
  unfold Txt.split
  rw [hk x, Bool.or_false, occ_pos x y c hy]
  split
  · rename_i h
    have : ch x = [] := by
      have h' := of_decide_eq_true h
      rw [hyl] at h'
      exact List.eq_nil_of_length_eq_zero (by rw [ch_len]; lia)
    rw [this]
    show [ch x] = [[]]
    rw [this]
  · split
    · rename_i h
      rw [List.isEmpty_iff.mp h] at main
      rw [← main]
      show [ch x] = [ch (strSub x 0 x.length)]
      rw [sub_whole]
    · rw [partsBetween_eq, hyl]
      exact main
end Mine

namespace Mine
open PySem.StrLaws Builtin Builtin.Str
noncomputable abbrev slash : Str := Str.ofString "/"
theorem ch_slash : ch (Str.ofString "/") = [47] := by decide
theorem ch_nil : ch (Str.ofString "") = [] := by decide
theorem ch_dot : ch (Str.ofString ".") = [46] := by decide
theorem map_ch_inj : ∀ {a b : List Str}, a.map ch = b.map ch → a = b := by
  intro a
  induction a with
  | nil => intro b h; cases b with | nil => rfl | cons => cases h
  | cons x r ih =>
    intro b h
    cases b with
    | nil => cases h
    | cons y t =>
      rw [List.map_cons, List.map_cons] at h
      injection h with h1 h2
      rw [ch_ext h1, ih h2]
theorem kind1 (y : Str) (h : Builtin.Str.strKind y = 1) (x : Str) : decide (Builtin.Str.strKind x < Builtin.Str.strKind y) = false := by
  rw [h]
  refine decide_eq_false ?_
  unfold Builtin.Str.strKind
  split
  · decide
  · split <;> decide
theorem split_sl (x : Str) : (Txt.split x (Str.ofString "/")).map ch = sp 47 (ch x) := ch_split x _ 47 ch_slash (kind1 _ (by decide +kernel))
theorem join_sl (ss : List Str) : ch (Txt.join (Str.ofString "/") ss) = jn 47 (ss.map ch) := ch_join _ 47 ch_slash ss
theorem ch_pSlash (l : List Str) : ch (pSlash l) = 47 :: jn 47 (l.map ch) := by
  unfold pSlash
  rw [ch_app, ch_slash, join_sl]; rfl
/-- a name -/
structure Nm (n : Str) : Prop where
  ne : ch n ≠ []
  free : 47 ∉ ch n
  d1 : n ≠ Str.ofString "."
  d2 : n ≠ Str.ofString ".."
noncomputable abbrev Nms (l : List Str) : Prop := ∀ n ∈ l, Nm n
theorem Nms.free {l : List Str} (h : Nms l) : ∀ p ∈ l.map ch, 47 ∉ p := fun p hp => by
  obtain ⟨n, hn, rfl⟩ := List.mem_map.mp hp
  exact (h n hn).free
theorem Nm.len {n : Str} (h : Nm n) : n.length ≠ 0 := fun e => h.ne (List.eq_nil_of_length_eq_zero (by rw [ch_len]; exact e))
theorem split_join {l : List Str} (hne : l ≠ []) (h : ∀ n ∈ l, 47 ∉ ch n) : Txt.split (Txt.join (Str.ofString "/") l) (Str.ofString "/") = l := by
  refine map_ch_inj ?_
  rw [split_sl, join_sl, sp_jn _ (by simpa using hne)]
  intro p hp
  obtain ⟨n, hn, rfl⟩ := List.mem_map.mp hp
  exact h n hn
theorem split_pSlash {l : List Str} (hne : l ≠ []) (h : ∀ n ∈ l, 47 ∉ ch n) : Txt.split (pSlash l) (Str.ofString "/") = Str.ofString "" :: l := by
  refine map_ch_inj ?_
  rw [split_sl, ch_pSlash, List.map_cons, ch_nil]
  have e : sp 47 (47 :: jn 47 (l.map ch)) = [] :: sp 47 (jn 47 (l.map ch)) := by rw [sp]; exact if_pos rfl
  rw [e, sp_jn _ (by simpa using hne)]
  intro p hp
  obtain ⟨n, hn, rfl⟩ := List.mem_map.mp hp
  exact h n hn
-- the two ways of making a row straight
theorem stF_cons (p : Str) (r : List Str) : stFold (p :: r).reverse = stStep (stFold r.reverse) p := by
  unfold stFold
  rw [List.reverse_cons, List.foldl_append]; rfl
theorem np_st : ∀ (ps cs : List Str), (∀ c ∈ cs, c ≠ Str.ofString "..") → ps.foldl npStep cs = cs.take (cs.length - (stFold ps.reverse).2.toNat) ++ (stFold ps.reverse).1.reverse ∧ 0 ≤ (stFold ps.reverse).2 := by
  intro ps
  induction ps with
  | nil =>
    intro cs _
    refine ⟨?_, Int.le_refl _⟩
    show cs = cs.take (cs.length - 0) ++ []
    rw [List.append_nil, Nat.sub_zero, List.take_length]
  | cons p r ih =>
    intro cs hcs
    rw [stF_cons, List.foldl_cons]
    by_cases h1 : p.length = 0 ∨ p = Str.ofString "."
    · have e1 : npStep cs p = cs := if_pos h1
      have h3 : p ≠ Str.ofString ".." := by
        rintro rfl
        rcases h1 with h | h
        · exact absurd h (by decide)
        · exact absurd h (by decide)
      have e2 : stStep (stFold r.reverse) p = stFold r.reverse := by
        unfold stStep
        rw [if_neg h3, if_neg]
        rintro ⟨q1, q2⟩
        rcases h1 with h | h
        · exact q1 (ch_ext (by rw [ch_nil]; exact List.eq_nil_of_length_eq_zero (by rw [ch_len]; exact h)))
        · exact q2 h
      rw [e1, e2]
      exact ih cs hcs
    · by_cases h2 : p = Str.ofString ".."
      · have e2 : stStep (stFold r.reverse) p = ((stFold r.reverse).1, (stFold r.reverse).2 + 1) := if_pos h2
        rw [e2]
        obtain ⟨_, hnn⟩ := ih cs hcs
        have e1 : npStep cs p = cs.dropLast := by
          unfold npStep
          rw [if_neg h1, if_neg (fun q => q h2)]
          by_cases h3 : cs = []
          · rw [if_pos h3, h3]; rfl
          · rw [if_neg h3, if_neg]
            intro h4
            exact hcs _ (List.mem_of_getLast? h4) rfl
        rw [e1]
        refine ⟨?_, by dsimp only; lia⟩
        rw [(ih cs.dropLast (fun c hc => hcs c (List.dropLast_subset _ hc))).1]
        dsimp only
        congr 1
        rw [List.length_dropLast, List.dropLast_eq_take, List.take_take]
        congr 1
        lia
      · have hne : p ≠ Str.ofString "" := fun e => h1 (.inl (by rw [e]; decide))
        have hnd : p ≠ Str.ofString "." := fun e => h1 (.inr e)
        have e1 : npStep cs p = cs ++ [p] := by
          unfold npStep
          rw [if_neg h1, if_pos h2]
        obtain ⟨g1, g2⟩ := ih (cs ++ [p]) (fun c hc => by
          rcases List.mem_append.mp hc with hc | hc
          · exact hcs c hc
          · rw [List.mem_singleton.mp hc]; exact h2)
        rw [e1, g1]
        by_cases h3 : (stFold r.reverse).2 = 0
        · have e2 : stStep (stFold r.reverse) p = ((stFold r.reverse).1 ++ [p], (stFold r.reverse).2) := by
            unfold stStep
            rw [if_neg h2, if_pos ⟨hne, hnd⟩, if_neg (fun q => q h3)]
          rw [e2]
          dsimp only
          rw [h3]
          refine ⟨?_, Int.le_refl _⟩
          show (cs ++ [p]).take ((cs ++ [p]).length - 0) ++ _ = cs.take (cs.length - 0) ++ _
          rw [Nat.sub_zero, Nat.sub_zero, List.take_length, List.take_length, List.reverse_append, List.append_assoc]; rfl
        · have e2 : stStep (stFold r.reverse) p = ((stFold r.reverse).1, (stFold r.reverse).2 - 1) := by
            unfold stStep
            rw [if_neg h2, if_pos ⟨hne, hnd⟩, if_pos h3]
          rw [e2]
          dsimp only
          refine ⟨?_, by lia⟩
          congr 1
          rw [List.length_append, List.length_singleton]
          rw [List.take_append_of_le_length (by lia)]
          congr 1
          lia
theorem st_mem : ∀ (ps : List Str) (c : List Str × Int), ∀ n ∈ (ps.foldl stStep c).1, n ∈ c.1 ∨ (n ∈ ps ∧ n ≠ Str.ofString ".." ∧ n ≠ Str.ofString "" ∧ n ≠ Str.ofString ".") := by
  intro ps
  induction ps with
  | nil => intro c n h; exact .inl h
  | cons p r ih =>
    intro c n h
    rw [List.foldl_cons] at h
    rcases ih _ n h with h | ⟨h, q⟩
    · unfold stStep at h
      split at h
      · exact .inl h
      · rename_i h1
        split at h
        · rename_i h2
          split at h
          · exact .inl h
          · rcases List.mem_append.mp h with h | h
            · exact .inl h
            · rw [List.mem_singleton.mp h]; exact .inr ⟨.head _, h1, h2.1, h2.2⟩
        · exact .inl h
    · exact .inr ⟨.tail _ h, q⟩
theorem straight_names (x : Str) : Nms (pStraight x) := fun n hn => by
  have hn' := List.mem_reverse.mp hn
  rcases st_mem _ _ n hn' with h | ⟨h, h1, h2, h3⟩
  · cases h
  · refine ⟨fun e => h2 (ch_ext (by rw [e, ch_nil])), ?_, h3, h1⟩
    have : ch n ∈ sp 47 (ch x) := by
      rw [← split_sl]
      exact List.mem_map_of_mem (List.mem_reverse.mp h)
    exact sp_free _ _ this
/-- the two agree -/
theorem norm_straight {x : Str} {y : List Nat} (h : ch x = 47 :: y) : pNorm x = pSlash (pStraight x) := by
  have e1 : Txt.split x (Str.ofString "/") = Str.ofString "" :: Txt.split (Txt.slice x (some 1) none) (Str.ofString "/") := by
    refine map_ch_inj ?_
    rw [List.map_cons, split_sl, split_sl, ch_nil, show ((1 : Int)) = ((1 : Nat) : Int) from rfl, sl_sn, h]
    rw [sp, if_pos rfl]; rfl
  have e2 : pStraight x = npFold (Txt.split (Txt.slice x (some 1) none) (Str.ofString "/")) := by
    unfold pStraight npFold
    rw [e1, stF_cons]
    obtain ⟨g1, g2⟩ := np_st (Txt.split (Txt.slice x (some 1) none) (Str.ofString "/")) [] (fun _ h => nomatch h)
    rw [g1]
    have : stStep (stFold (Txt.split (Txt.slice x (some 1) none) (Str.ofString "/")).reverse) (Str.ofString "") = stFold (Txt.split (Txt.slice x (some 1) none) (Str.ofString "/")).reverse := by
      unfold stStep
      rw [if_neg (by decide), if_neg (fun q => q.1 rfl)]
    rw [this]
    simp
  unfold pNorm pSlash
  rw [e2]
end Mine

namespace Mine
open PySem.StrLaws Builtin Builtin.Str
/-- pieces that hold something and no slash -/
noncomputable abbrev Pcs (l : List Str) : Prop := ∀ n ∈ l, ch n ≠ [] ∧ 47 ∉ ch n
theorem Nms.pcs {l : List Str} (h : Nms l) : Pcs l := fun n hn => ⟨(h n hn).ne, (h n hn).free⟩
theorem jn_head : ∀ {l : List Str}, Pcs l → l ≠ [] → ∃ c r, jn 47 (l.map ch) = c :: r ∧ c ≠ 47 := by
  intro l h hne
  cases l with
  | nil => exact absurd rfl hne
  | cons a r =>
    obtain ⟨h1, h2⟩ := h a (.head _)
    cases e : ch a with
    | nil => exact absurd e h1
    | cons c t =>
      have hc : c ≠ 47 := fun q => h2 (by rw [e, q]; exact .head _)
      cases r with
      | nil => exact ⟨c, t, by show jn 47 [ch a] = _; rw [e]; rfl, hc⟩
      | cons b r => exact ⟨c, t ++ 47 :: jn 47 ((b :: r).map ch), by show ch a ++ 47 :: jn 47 ((b :: r).map ch) = _; rw [e]; rfl, hc⟩
theorem jn_len : ∀ (l : List Str), (jn 47 (l.map ch)).length ≤ wt l := by
  intro l
  induction l with
  | nil => exact Nat.zero_le _
  | cons a r ih =>
    have e : wt (a :: r) = a.length + wt r + 1 := by unfold wt; simp only [List.map_cons, List.sum_cons, List.length_cons]; lia
    cases r with
    | nil => rw [e]; show (ch a).length ≤ _; rw [ch_len]; lia
    | cons b r =>
      have : jn 47 ((a :: b :: r).map ch) = ch a ++ 47 :: jn 47 ((b :: r).map ch) := rfl
      rw [this, List.length_append, List.length_cons, ch_len]
      lia
theorem pSlash_len (l : List Str) : (pSlash l).length ≤ wt l + 1 := by
  rw [← ch_len, ch_pSlash, List.length_cons]
  have := jn_len l
  lia
theorem starts_pSlash (l : List Str) : Txt.startswith (pSlash l) (Str.ofString "/") = true := by
  unfold Txt.startswith
  rw [Bool.and_eq_true]
  refine ⟨decide_eq_true ?_, ?_⟩
  · rw [← ch_len (pSlash l), ch_pSlash, List.length_cons]
    show 0 + 1 ≤ _
    lia
  · rw [subAt_eq]
    show (((ch (pSlash l)).drop 0).take 1 == ch (Str.ofString "/")) = true
    rw [ch_pSlash, ch_slash]; rfl
theorem rooted_pSlash {l : List Str} (h : Pcs l) (hl : wt l ≤ 10000) : Rooted (pSlash l) := by
  refine ⟨Nat.le_trans (pSlash_len l) (by lia), ?_, ?_, starts_pSlash l⟩
  · have : Txt.slice (pSlash l) none (some 1) = Str.ofString "/" := ch_ext (by
      rw [show ((1 : Int)) = ((1 : Nat) : Int) from rfl, sl_ns, ch_pSlash, ch_slash]; rfl)
    rw [this]; decide
  · rw [bne_iff_ne]
    intro e
    have e2 := congrArg ch e
    rw [show ((1 : Int)) = ((1 : Nat) : Int) from rfl, show ((2 : Int)) = ((2 : Nat) : Int) from rfl, sl_ss, ch_pSlash, ch_slash] at e2
    by_cases hn : l = []
    · rw [hn] at e2; cases e2
    · obtain ⟨c, r, hc, hcn⟩ := jn_head h hn
      rw [hc] at e2
      injection e2 with e3 _
      exact hcn e3
theorem lstrip_pSlash {l : List Str} (h : Pcs l) : Txt.lstripChars (pSlash l) (Str.ofString "/") = Txt.join (Str.ofString "/") l := by
  refine ch_ext ?_
  unfold Txt.lstripChars
  rw [PyProof.Rows.stripBy_eq, ch_sub]
  have e : stripLo (Str.ofString "/").cps.contains true (pSlash l) = 1 := by
    show ((ch (pSlash l)).takeWhile (Str.ofString "/").cps.contains).length = 1
    rw [ch_pSlash]
    have h47 : (Str.ofString "/").cps.contains 47 = true := by rw [show (Str.ofString "/").cps = #[47] from by decide]; simp
    rw [List.takeWhile_cons, if_pos h47]
    by_cases hn : l = []
    · rw [hn]; rfl
    · obtain ⟨c, r, hc, hcn⟩ := jn_head h hn
      rw [hc, List.takeWhile_cons, if_neg]
      · rfl
      · intro q
        have : (Str.ofString "/").cps = #[47] := by decide
        rw [this] at q
        simp at q
        exact hcn q
  rw [e]
  show ((ch (pSlash l)).drop 1).take ((pSlash l).length - 1) = _
  rw [ch_pSlash, join_sl]
  show (jn 47 (l.map ch)).take _ = _
  rw [List.take_of_length_le]
  rw [← ch_len (pSlash l), ch_pSlash, List.length_cons]
  lia
theorem join_zero {l : List Str} (h : Pcs l) : (Txt.join (Str.ofString "/") l).length = 0 ↔ l = [] := by
  rw [← ch_len, join_sl]
  constructor
  · intro e
    refine Classical.byContradiction fun hn => ?_
    obtain ⟨c, r, hc, _⟩ := jn_head h hn
    rw [hc] at e
    cases e
  · rintro rfl; rfl
theorem tail_pSlash {l : List Str} (h : Pcs l) : tailList (pSlash l) = l := by
  unfold tailList
  rw [lstrip_pSlash h]
  by_cases hn : l = []
  · rw [if_pos ((join_zero h).mpr hn), hn]
  · rw [if_neg (fun q => hn ((join_zero h).mp q))]
    exact split_join hn fun n hn => (h n hn).2
theorem pSlash_inj {a b : List Str} (ha : Pcs a) (hb : Pcs b) (e : pSlash a = pSlash b) : a = b := by
  rw [← tail_pSlash ha, ← tail_pSlash hb, e]
theorem split_one : Txt.split (pSlash []) (Str.ofString "/") = [Str.ofString "", Str.ofString ""] := by
  refine map_ch_inj ?_
  rw [split_sl, ch_pSlash]
  rfl
theorem cpn_pSlash {l : List Str} (h : Nms l) : cpNames (pSlash l) = l := by
  unfold cpNames
  have e0 : cpOk (Str.ofString "") = false := by decide
  by_cases hn : l = []
  · rw [hn, split_one]
    rw [List.filter_cons_of_neg (by rw [e0]; decide), List.filter_cons_of_neg (by rw [e0]; decide)]; rfl
  · rw [split_pSlash hn (fun n hn => (h n hn).free), List.filter_cons_of_neg (by rw [e0]; decide)]
    rw [List.filter_eq_self]
    intro n hn
    unfold cpOk
    have := (h n hn).len
    have h2 := (h n hn).d1
    simp [h2]
    lia
theorem np_names : ∀ (l cs : List Str), Nms l → l.foldl npStep cs = cs ++ l := by
  intro l
  induction l with
  | nil => intro cs _; rw [List.append_nil]; rfl
  | cons a r ih =>
    intro cs h
    have ha := h a (.head _)
    have e : npStep cs a = cs ++ [a] := by
      unfold npStep
      rw [if_neg (fun q => q.elim ha.len ha.d1), if_pos ha.d2]
    rw [List.foldl_cons, e, ih _ (fun n hn => h n (.tail _ hn)), List.append_assoc]; rfl
theorem np_dots : ∀ (k : Nat) (cs : List Str), Nms cs → (List.replicate k (Str.ofString "..")).foldl npStep cs = cs.take (cs.length - k) := by
  intro k
  induction k with
  | zero => intro cs _; rw [Nat.sub_zero, List.take_length]; rfl
  | succ k ih =>
    intro cs h
    have e : npStep cs (Str.ofString "..") = cs.dropLast := by
      unfold npStep
      rw [if_neg (by decide), if_neg (by decide)]
      by_cases h3 : cs = []
      · rw [if_pos h3, h3]; rfl
      · rw [if_neg h3, if_neg]
        intro h4
        exact (h _ (List.mem_of_getLast? h4)).d2 rfl
    rw [List.replicate_succ, List.foldl_cons, e, ih _ (fun n hn => h n (List.dropLast_subset _ hn)), List.length_dropLast, List.dropLast_eq_take, List.take_take]
    congr 1
    lia
/-- a path made straight -/
theorem norm_pSlash {l : List Str} (hne : l ≠ []) (h : ∀ n ∈ l, 47 ∉ ch n) : pNorm (pSlash l) = pSlash (npFold l) := by
  unfold pNorm
  have e : Txt.slice (pSlash l) (some 1) none = Txt.join (Str.ofString "/") l := ch_ext (by
    rw [show ((1 : Int)) = ((1 : Nat) : Int) from rfl, sl_sn, ch_pSlash, join_sl]; rfl)
  rw [e, split_join hne h]; rfl
theorem norm_names {l : List Str} (h : Nms l) : pNorm (pSlash l) = pSlash l := by
  by_cases hn : l = []
  · subst hn
    have e : Txt.slice (pSlash []) (some 1) none = Str.ofString "" := ch_ext (by
      rw [show ((1 : Int)) = ((1 : Nat) : Int) from rfl, sl_sn, ch_pSlash]; decide)
    unfold pNorm
    rw [e]
    have : npFold (Txt.split (Str.ofString "") (Str.ofString "/")) = [] := by
      have e2 : Txt.split (Str.ofString "") (Str.ofString "/") = [Str.ofString ""] := map_ch_inj (by rw [split_sl]; decide)
      rw [e2]; decide
    rw [this]; rfl
  · rw [norm_pSlash hn (fun n hn => (h n hn).free)]
    unfold npFold
    rw [np_names _ _ h]; rfl
end Mine

namespace Mine
open PySem.StrLaws Builtin Builtin.Str
noncomputable abbrev Sm (l : List Str) : Prop := ∀ n ∈ l, ∀ c ∈ ch n, c < 1000
theorem jn_mem : ∀ {l : List (List Nat)} {c : Nat}, c ∈ jn 47 l → c = 47 ∨ ∃ p ∈ l, c ∈ p := by
  intro l
  induction l with
  | nil => intro c h; cases h
  | cons a r ih =>
    intro c h
    cases r with
    | nil => exact .inr ⟨a, .head _, h⟩
    | cons b r =>
      rcases List.mem_append.mp (show c ∈ a ++ 47 :: jn 47 (b :: r) from h) with h | h
      · exact .inr ⟨a, .head _, h⟩
      · rcases List.mem_cons.mp h with h | h
        · exact .inl h
        · rcases ih h with h | ⟨p, hp, h⟩
          · exact .inl h
          · exact .inr ⟨p, .tail _ hp, h⟩
theorem strOk_of {x : Str} (h : ∀ c ∈ ch x, c < 1000) : PyData.strOk x = true := by
  show x.cps.all (· < 0x110000) = true
  rw [← Array.all_toList, List.all_eq_true]
  intro c hc
  have := h c hc
  exact decide_eq_true (by lia)
theorem sm_pSlash {l : List Str} (h : Sm l) : ∀ c ∈ ch (pSlash l), c < 1000 := by
  intro c hc
  rw [ch_pSlash] at hc
  rcases List.mem_cons.mp hc with rfl | hc
  · decide
  · rcases jn_mem hc with rfl | ⟨p, hp, hc⟩
    · decide
    · obtain ⟨n, hn, rfl⟩ := List.mem_map.mp hp
      exact h n hn c hc
theorem cp_self : ∀ xs ys, cp xs ys = xs.take (cp xs ys).length := by
  intro xs
  induction xs with
  | nil => intro ys; cases ys <;> rfl
  | cons x xs ih =>
    intro ys
    cases ys with
    | nil => rfl
    | cons y ys =>
      unfold cp
      split
      · rw [List.length_cons, List.take_succ_cons, ← ih ys]
      · rfl
theorem cp_most : ∀ (k : Nat) (xs ys : List Str), xs.take k = ys.take k → k ≤ xs.length → k ≤ ys.length → k ≤ (cp xs ys).length := by
  intro k
  induction k with
  | zero => intro xs ys _ _ _; exact Nat.zero_le _
  | succ k ih =>
    intro xs ys h h1 h2
    cases xs with
    | nil => exact absurd h1 (Nat.not_succ_le_zero _)
    | cons x xs =>
      cases ys with
      | nil => exact absurd h2 (Nat.not_succ_le_zero _)
      | cons y ys =>
        rw [List.take_succ_cons, List.take_succ_cons] at h
        injection h with e1 e2
        unfold cp
        rw [if_pos e1, List.length_cons]
        exact Nat.succ_le_succ (ih xs ys e2 (Nat.le_of_succ_le_succ h1) (Nat.le_of_succ_le_succ h2))
theorem filter_lt : ∀ (n c : Nat), c ≤ n → (List.range n).filter (fun k => decide (k < c)) = List.range c := by
  intro n
  induction n with
  | zero => intro c h; rw [Nat.le_zero.mp h]; rfl
  | succ n ih =>
    intro c h
    rw [List.range_succ, List.filter_append]
    by_cases hc : c = n + 1
    · subst hc
      have : (List.range n).filter (fun k => decide (k < n + 1)) = List.range n := by
        rw [List.filter_eq_self]
        intro a ha
        have := List.mem_range.mp ha
        exact decide_eq_true (by lia)
      rw [this, List.range_succ]
      congr 1
      simp
    · rw [ih c (by lia)]
      have : ¬ n < c := by lia
      simp [this]
theorem shared_eq {H T : List Str} (hH : Nms H) (hT : Nms T) : pShared H T = (List.range (cp H T).length).map fun k => pSlash (H.take (k + 1)) := by
  have eH : pUps H = (List.range H.length).map fun k => pSlash (H.take (k + 1)) := rfl
  have hc1 := (cp_len H T).1
  have hc2 := (cp_len H T).2
  have sub : ∀ (l : List Str) k, Nms l → Pcs (l.take k) := fun l k h n hn => h.pcs n (List.mem_of_mem_take hn)
  unfold pShared
  rw [eH, List.filter_map]
  congr 1
  rw [← filter_lt H.length (cp H T).length hc1]
  refine List.filter_congr fun k hk => ?_
  have hkl := List.mem_range.mp hk
  show decide (pSlash (H.take (k + 1)) ∈ pUps T) = decide (k < (cp H T).length)
  refine decide_eq_decide.mpr ⟨fun h => ?_, fun h => ?_⟩
  · obtain ⟨j, hj, e⟩ := List.mem_map.mp (show _ ∈ (List.range T.length).map fun k => pSlash (T.take (k + 1)) from h)
    have hjl := List.mem_range.mp hj
    have e2 := pSlash_inj (sub T _ hT) (sub H _ hH) e
    have e3 := congrArg List.length e2
    rw [List.length_take, List.length_take] at e3
    have hjk : j = k := by lia
    subst hjk
    exact cp_most (j + 1) H T e2.symm (by lia) (by lia)
  · refine List.mem_map.mpr ⟨k, List.mem_range.mpr (by lia), ?_⟩
    have e1 : H.take (k + 1) = (cp H T).take (k + 1) := by
      rw [cp_self H T, List.take_take]
      congr 1; lia
    have e2 : T.take (k + 1) = (cp H T).take (k + 1) := by
      rw [cp_comm, cp_self T H, List.take_take]
      congr 1
      rw [cp_comm]; lia
    rw [e1, e2]; rfl
theorem last_eq {H T : List Str} (hH : Nms H) (hT : Nms T) : pLast (pShared H T) = pSlash (cp H T) := by
  rw [shared_eq hH hT]
  have hs := cp_self H T
  have hl := (cp_len H T).1
  generalize hc : (cp H T).length = c at *
  unfold pLast
  cases c with
  | zero => rw [hs]; rfl
  | succ c => rw [List.range_succ, List.map_append, List.map_singleton, List.getLast?_concat, ← hs]; rfl
theorem ends_slash {l : List Str} (h : Pcs l) : Txt.endswith (pSlash l) (Str.ofString "/") = decide (l = []) := by
  unfold Txt.endswith
  have e1 : (Str.ofString "/").length = 1 := rfl
  have hlen : (pSlash l).length = (jn 47 (l.map ch)).length + 1 := by rw [← ch_len, ch_pSlash, List.length_cons]
  rw [subAt_eq]
  show (decide (0 + (Str.ofString "/").length ≤ (pSlash l).length) && (((ch (pSlash l)).drop _).take (Str.ofString "/").length == ch (Str.ofString "/"))) = _
  rw [e1, hlen, ch_slash, ch_pSlash, decide_eq_true (by lia), Bool.true_and]
  by_cases hn : l = []
  · subst hn; rfl
  · rw [decide_eq_false hn, beq_eq_false_iff_ne, Nat.add_sub_cancel]
    intro e
    have last : ∀ l : List Str, Pcs l → l ≠ [] → ∃ u c, jn 47 (l.map ch) = u ++ [c] ∧ c ≠ 47 := by
      intro l
      induction l with
      | nil => intro _ h; exact absurd rfl h
      | cons a r ih =>
        intro h _
        cases r with
        | nil =>
          obtain ⟨h1, h2⟩ := h a (.head _)
          refine ⟨(ch a).dropLast, (ch a).getLast h1, (List.dropLast_concat_getLast h1).symm, fun q => h2 (q ▸ List.getLast_mem h1)⟩
        | cons b r =>
          obtain ⟨u, c, e, hc⟩ := ih (fun n hn => h n (.tail _ hn)) (by simp)
          exact ⟨ch a ++ 47 :: u, c, by show ch a ++ 47 :: jn 47 ((b :: r).map ch) = _; rw [e]; simp, hc⟩
    obtain ⟨u, c, eu, hc⟩ := last l h hn
    rw [eu, List.length_append, List.length_singleton] at e
    have : (47 :: (u ++ [c])).drop (u.length + 1) = [c] := by
      rw [List.drop_succ_cons, List.drop_left]
    rw [this] at e
    injection e with e1 _
    exact hc e1
/-- a way set behind a path -/
theorem jstep_pSlash {T W : List Str} (hT : Pcs T) (hne : W ≠ []) (hW : Pcs W) : jStep (pSlash T) (Txt.join (Str.ofString "/") W) = pSlash (T ++ W) := by
  have hs : Txt.startswith (Txt.join (Str.ofString "/") W) (Str.ofString "/") = false := by
    unfold Txt.startswith
    rw [subAt_eq, Bool.and_eq_false_iff]
    right
    rw [beq_eq_false_iff_ne]
    intro e
    obtain ⟨c, r, hc, hcn⟩ := jn_head hW hne
    have e2 : ((ch (Txt.join (Str.ofString "/") W)).drop 0).take 1 = ch (Str.ofString "/") := e
    rw [join_sl, hc, ch_slash] at e2
    injection e2 with e3 _
    exact hcn e3
  have hl : ((pSlash T).length : Int) ≠ 0 := by
    rw [← ch_len, ch_pSlash, List.length_cons]; lia
  unfold jStep
  rw [hs, ends_slash hT]
  have h1 : (!(((pSlash T).length : Int) != 0)) = false := by simpa using hl
  rw [h1]
  rw [if_neg (by decide)]
  refine ch_ext ?_
  by_cases hn : T = []
  · subst hn
    rw [if_pos (by decide), ch_app, ch_pSlash, ch_pSlash, join_sl]; rfl
  · rw [if_neg (by simpa using hn), ch_app, ch_app, ch_pSlash, ch_pSlash, ch_slash, join_sl]
    have key : ∀ (a b : List (List Nat)), a ≠ [] → b ≠ [] → jn 47 (a ++ b) = jn 47 a ++ 47 :: jn 47 b := by
      intro a b ha hb
      induction a with
      | nil => exact absurd rfl ha
      | cons x r ih =>
        cases r with
        | nil =>
          cases b with
          | nil => exact absurd rfl hb
          | cons y t => rfl
        | cons z r =>
          show x ++ 47 :: jn 47 ((z :: r) ++ b) = (x ++ 47 :: jn 47 (z :: r)) ++ _
          rw [ih (by simp)]; simp
    rw [List.map_append, key _ _ (by simpa using hn) (by simpa using hne)]
    simp
theorem wt_app (a b : List Str) : wt (a ++ b) = wt a + wt b := by
  unfold wt
  rw [List.map_append, List.sum_append, List.length_append]
  lia
theorem wt_drop (l : List Str) (k : Nat) : wt (l.drop k) ≤ wt l := by
  have := wt_app (l.take k) (l.drop k)
  rw [List.take_append_drop] at this
  lia
theorem wt_dots (k : Nat) : wt (List.replicate k (Str.ofString "..")) = 3 * k := by
  induction k with
  | zero => rfl
  | succ k ih =>
    rw [List.replicate_succ, show ∀ (a : Str) (l : List Str), a :: l = [a] ++ l from fun _ _ => rfl, wt_app, ih]
    have : wt [Str.ofString ".."] = 3 := by decide
    lia
theorem pair_ok {H T : List Str} (hH : Nms H) (hT : Nms T) (sH : Sm H) (sT : Sm T) (wH : wt H ≤ 100) (wT : wt T ≤ 100) : PairOk H T (pSlash H) (pSlash T) := by
  have lH : H.length ≤ 100 := Nat.le_trans (len_wt _) wH
  have lT : T.length ≤ 100 := Nat.le_trans (len_wt _) wT
  have tH : tailList (pNorm (pSlash H)) = H := by rw [norm_names hH, tail_pSlash hH.pcs]
  have tT : tailList (pNorm (pSlash T)) = T := by rw [norm_names hT, tail_pSlash hT.pcs]
  have hcl := cp_len H T
  have hsl : (pShared H T).length = (cp H T).length := by rw [shared_eq hH hT, List.length_map, List.length_range]
  have hst : pSteps H T = relOf T H := by
    unfold pSteps relOf
    rw [hsl, cp_comm T H]
  have hpc : Pcs (relOf T H) := fun n hn => by
    unfold relOf at hn
    rcases List.mem_append.mp hn with h | h
    · rw [(List.mem_replicate.mp h).2]; decide
    · exact hH.pcs n (List.mem_of_mem_drop h)
  have hw : wt (relOf T H) ≤ 400 := by
    unfold relOf
    rw [wt_app, wt_dots]
    have := wt_drop H (cp T H).length
    lia
  have hrel : pRel (pSlash H) (pSlash T) = pWay (pSteps H T) := by
    unfold pRel pWay
    rw [tH, tT, hst]
    by_cases h : relOf T H = []
    · rw [if_pos h, if_pos ((join_zero hpc).mpr h)]
    · rw [if_neg h, if_neg (fun q => h ((join_zero hpc).mp q))]
  -- the way, never without pieces
  obtain ⟨W, hW1, hW2, hW3, hW4, hW5⟩ : ∃ W, W ≠ [] ∧ Pcs W ∧ pRel (pSlash H) (pSlash T) = Txt.join (Str.ofString "/") W ∧ wt W ≤ 400 ∧ npFold (T ++ W) = H := by
    have hfold : (relOf T H).foldl npStep T = H := by
      unfold relOf
      rw [List.foldl_append, np_dots _ _ hT]
      rw [show T.length - (T.length - (cp T H).length) = (cp T H).length by rw [cp_comm]; lia, ← cp_self T H]
      rw [np_names _ _ (fun n hn => hH n (List.mem_of_mem_drop hn))]
      rw [cp_comm T H]
      have e := cp_self H T
      have e2 : H.take (cp H T).length ++ H.drop (cp H T).length = H := List.take_append_drop _ _
      rw [← e] at e2
      exact e2
    by_cases h : relOf T H = []
    · refine ⟨[Str.ofString "."], by simp, by decide, ?_, by decide, ?_⟩
      · unfold pRel
        rw [tH, tT, if_pos h]
        refine ch_ext ?_
        rw [join_sl]; rfl
      · rw [h] at hfold
        unfold npFold
        rw [List.foldl_append, np_names _ _ hT]
        show npStep ([] ++ T) (Str.ofString ".") = H
        rw [show npStep ([] ++ T) (Str.ofString ".") = [] ++ T from if_pos (.inr rfl)]
        exact hfold
    · refine ⟨relOf T H, h, hpc, ?_, hw, ?_⟩
      · unfold pRel
        rw [tH, tT, if_neg h]
      · unfold npFold
        rw [List.foldl_append, np_names _ _ hT]
        exact hfold
  have hpTW : Pcs (T ++ W) := fun n hn => (List.mem_append.mp hn).elim (fun h => hT.pcs n h) (fun h => hW2 n h)
  have hj : jStep (pSlash T) (pRel (pSlash H) (pSlash T)) = pSlash (T ++ W) := by
    rw [hW3]; exact jstep_pSlash hT.pcs hW1 hW2
  have ups : ∀ L : List Str, Sm L → ∀ u ∈ pUps L, PyData.strOk u = true := fun L sL u hu => by
    obtain ⟨k, _, rfl⟩ := List.mem_map.mp hu
    exact strOk_of (sm_pSlash fun n hn => sL n (List.mem_of_mem_take hn))
  refine ⟨ups H sH, ups T sT, ?_, hrel, ?_, rooted_pSlash hH.pcs (by lia), rooted_pSlash hT.pcs (by lia), ?_, Nat.le_trans (pSlash_len H) (by lia), Nat.le_trans (pSlash_len T) (by lia), by lia, by lia, by lia, by lia, by rw [tH]; lia, by rw [tT]; lia, by rw [tH, tT]; lia, ?_, by rw [hst]; lia⟩
  · unfold pCommon
    rw [cpn_pSlash hH, cpn_pSlash hT, last_eq hH hT]; rfl
  · rw [hj, norm_pSlash (by simp [hW1]) (fun n hn => (hpTW n hn).2), hW5]
  · rw [hj]
    exact rooted_pSlash hpTW (by rw [wt_app]; lia)
  · rw [hW3, ← ch_len, join_sl]
    exact Nat.le_trans (jn_len W) (by lia)
end Mine

namespace Mine
open PySem.StrLaws Builtin Builtin.Str
/-- what a program's searches meet from b on -/
inductive Walk (w x : Str) : Nat → List (Nat × Nat) → Prop
  | nil {b : Nat} : pSearch w x b = none → Walk w x b []
  | cons {b i j : Nat} {r : List (Nat × Nat)} : pSearch w x b = some ((i : Int), (j : Int)) → b ≤ i → i < j → j ≤ x.length → Walk w x j r → Walk w x b ((i, j) :: r)
theorem Walk.count {w x : Str} {b : Nat} {hs : List (Nat × Nat)} (h : Walk w x b hs) : hs = [] ∨ hs.length + b ≤ x.length := by
  induction h with
  | nil _ => exact .inl rfl
  | @cons b i j r _ h1 h2 h3 _ ih =>
    right
    rcases ih with rfl | ih
    · show 1 + b ≤ _; lia
    · rw [List.length_cons]; lia
noncomputable abbrev encH (h : Nat × Nat) : Int × Int := ((h.1 : Int), (h.2 : Int))
theorem sr_go {w x : Str} {col : Nat} : ∀ (r : List (Nat × Nat)) (i j n : Nat) (found : Option (Int × Int)), i < j → Walk w x j r → r.length + 1 ≤ n →
    srGo w x col n found i j = (match (((i, j) :: r).takeWhile (fun h => decide (h.2 ≤ col))).getLast? with | some h => some (encH h) | none => found) := by
  intro r
  induction r with
  | nil =>
    intro i j n found hij hw hn
    obtain ⟨n, rfl⟩ : ∃ m, n = m + 1 := ⟨n - 1, by simp at hn; lia⟩
    unfold srGo
    cases hw with
    | nil h =>
      by_cases hj : j ≤ col
      · rw [if_pos (by lia), Int.toNat_natCast, h, List.takeWhile_cons, if_pos (by simpa using hj)]; rfl
      · rw [if_neg (by lia), List.takeWhile_cons, if_neg (by simpa using hj)]; rfl
  | cons p r ih =>
    intro i j n found hij hw hn
    obtain ⟨n, rfl⟩ : ∃ m, n = m + 1 := ⟨n - 1, by simp at hn; lia⟩
    unfold srGo
    cases hw with
    | @cons _ i' j' _ h h1 h2 h3 h4 =>
      by_cases hj : j ≤ col
      · rw [if_pos (by lia), Int.toNat_natCast, h]
        dsimp only
        rw [ih i' j' n _ h2 h4 (by simp at hn ⊢; lia), List.takeWhile_cons (a := (i, j)), if_pos (by simpa using hj)]
        cases hq : (((i', j') :: r).takeWhile (fun h => decide (h.2 ≤ col))) with
        | nil => rfl
        | cons a t => rfl
      · rw [if_neg (by lia), List.takeWhile_cons, if_neg (by simpa using hj)]; rfl
/-- the last that ends in time -/
theorem sr_walk {w x : Str} {col : Nat} {hs : List (Nat × Nat)} (h : Walk w x 0 hs) : pSR w x col = ((hs.takeWhile (fun h => decide (h.2 ≤ col))).getLast?).map encH := by
  unfold pSR
  cases h with
  | nil h => rw [h]; rfl
  | @cons _ i j r h h1 h2 h3 h4 =>
    rw [h]
    dsimp only
    rw [sr_go r i j _ none h2 h4 (by
      rcases h4.count with rfl | q
      · show 0 + 1 ≤ _; lia
      · lia)]
    cases ((i, j) :: r).takeWhile (fun h => decide (h.2 ≤ col)) |>.getLast? <;> rfl
/-- names and where they stand, the first at b -/
noncomputable def entsN : Nat → List Str → List (Nat × Nat × Str)
  | _, [] => []
  | b, n :: r => (b, b + n.length, n) :: entsN (b + n.length + 1) r
noncomputable def okN (w n : Str) : Bool := w == Str.ofString "" || n == w
noncomputable def hitsN (w : Str) (b : Nat) (l : List Str) : List (Nat × Nat) := ((entsN b l).filter fun e => okN w e.2.2).map fun e => (e.1, e.2.1)
/-- the names, each behind a slash, and a slash at the end -/
noncomputable def body : List Str → List Nat
  | [] => [47]
  | n :: r => 47 :: (ch n ++ body r)
theorem body_row : ∀ (l : List Str), l ≠ [] → (47 :: jn 47 (l.map ch)) ++ [47] = body l := by
  intro l
  induction l with
  | nil => intro h; exact absurd rfl h
  | cons a r ih =>
    intro _
    cases r with
    | nil => rfl
    | cons b r =>
      have := ih (by simp)
      show 47 :: ((ch a ++ 47 :: jn 47 ((b :: r).map ch)) ++ [47]) = 47 :: (ch a ++ body (b :: r))
      rw [← this]; simp
theorem body_head (l : List Str) : ∃ r, body l = 47 :: r := by cases l with | nil => exact ⟨_, rfl⟩ | cons => exact ⟨_, rfl⟩
theorem fnd_skip {l p : List Nat} {z z' : Nat} (hz : z ≤ z') (h : ∀ j, z ≤ j → j < z' → (l.drop j).take p.length ≠ p) : fnd l p z = fnd l p z' := by
  cases hq : fnd l p z' with
  | none =>
    refine fnd_no fun j hj hl => ?_
    by_cases hjz : j < z'
    · exact h j hj hjz
    · exact fnd_none hq j (by lia) hl
  | some k =>
    obtain ⟨a, b, c, d⟩ := fnd_some hq
    refine fnd_is (by lia) b c fun j hj hk => ?_
    by_cases hjz : j < z'
    · exact h j hj hjz
    · exact d j (by lia) hk
-- a row's signs from k on
theorem drop_mid {l u v : List Nat} {k : Nat} (h : l.drop k = u ++ v) : l.drop (k + u.length) = v := by
  rw [← List.drop_drop, h, List.drop_left]
theorem get_mid {l u v : List Nat} {k j : Nat} (h : l.drop k = u ++ v) (h1 : k ≤ j) (h2 : j < k + u.length) : (l.drop j).take 1 = [u[j - k]'(by lia)] := by
  have e : l.drop j = (l.drop k).drop (j - k) := by rw [List.drop_drop]; congr 1; lia
  rw [e, h, List.drop_append_of_le_length (by lia), List.drop_eq_getElem_cons (by lia)]; rfl
end Mine

namespace Mine
open PySem.StrLaws Builtin Builtin.Str
/-- a text's signs and one slash more -/
noncomputable abbrev chs (x : Str) : List Nat := ch x ++ [47]
theorem chs_take {x : Str} {j : Nat} (h : j < x.length) : ((chs x).drop j).take 1 = ((ch x).drop j).take 1 := by
  have h' : j < (ch x).length := by rw [ch_len]; exact h
  rw [List.drop_append_of_le_length (by lia), List.drop_eq_getElem_cons h']; rfl
theorem slice_one (x : Str) (k : Nat) : ch (Txt.slice x (some (k : Int)) (some ((k : Int) + 1))) = ((ch x).drop k).take 1 := by
  rw [show ((k : Int) + 1) = ((k + 1 : Nat) : Int) by lia, sl_ss, show k + 1 - k = 1 by lia]
theorem skip_yes {x : Str} {n k : Nat} (h : ((ch x).drop k).take 1 = [47]) : skipS x (n + 1) k = skipS x n (k + 1) := by
  rw [skipS, if_pos]
  exact ch_ext (by rw [slice_one, h, ch_slash])
theorem skip_no {x : Str} {n k : Nat} (h : ((ch x).drop k).take 1 ≠ [47]) : skipS x n k = k := by
  cases n with
  | zero => rfl
  | succ n =>
    rw [skipS, if_neg]
    intro e
    have := congrArg ch e
    rw [slice_one, ch_slash] at this
    exact h this
section
variable {x : Str} {l : List Str} {n : Str} {k : Nat}
theorem body_len_nil (h : (chs x).drop k = body []) : k = x.length := by
  have := congrArg List.length h
  rw [List.length_drop, List.length_append, ch_len] at this
  simp [body] at this
  lia
theorem body_next {post : List Str} (h : (chs x).drop k = body (n :: post)) : (chs x).drop (k + 1 + n.length) = body post ∧ k + 1 + n.length ≤ x.length := by
  have e : (chs x).drop k = (47 :: ch n) ++ body post := by rw [h]; rfl
  have e2 := drop_mid e
  rw [List.length_cons, ch_len] at e2
  refine ⟨by rw [← e2]; congr 1; lia, ?_⟩
  obtain ⟨r, hr⟩ := body_head post
  have := congrArg List.length e
  rw [List.length_drop, List.length_append, List.length_append, ch_len, hr] at this
  simp only [List.length_cons, List.length_nil, ch_len] at this
  lia
theorem body_char {post : List Str} (h : (chs x).drop k = body (n :: post)) (hf : 47 ∉ ch n) {j : Nat} (h1 : k + 1 ≤ j) (h2 : j < k + 1 + n.length) : ∃ c, ((chs x).drop j).take 1 = [c] ∧ c ≠ 47 := by
  have e : (chs x).drop k = (47 :: ch n) ++ body post := by rw [h]; rfl
  have := get_mid e (j := j) (by lia) (by rw [List.length_cons, ch_len]; lia)
  refine ⟨_, this, fun q => hf ?_⟩
  have : (47 :: ch n)[j - k]'(by rw [List.length_cons, ch_len]; lia) = (ch n)[j - k - 1]'(by rw [ch_len]; lia) := by
    rw [List.getElem_cons, dif_neg (by lia)]
  rw [this] at q
  exact q ▸ List.getElem_mem _
theorem body_slash {post : List Str} (h : (chs x).drop k = body (n :: post)) : ((chs x).drop k).take 1 = [47] := by rw [h]; rfl
theorem fnd_one {j i : Nat} (h1 : i ≤ j) (h2 : j < x.length) (h3 : ((ch x).drop j).take 1 = [47]) (h4 : ∀ q, i ≤ q → q < j → ((ch x).drop q).take 1 ≠ [47]) : Txt.find3 x (Str.ofString "/") i = j := by
  rw [find3_eq, ch_slash, fnd_is (l := ch x) (p := [47]) (i := i) (k := j) h1 (by rw [ch_len]; show j + 1 ≤ _; lia) h3 h4]
theorem fnd_one_no {i : Nat} (h4 : ∀ q, i ≤ q → q < x.length → ((ch x).drop q).take 1 ≠ [47]) : Txt.find3 x (Str.ofString "/") i = -1 := by
  rw [find3_eq, ch_slash, fnd_no]
  intro j hj hl
  rw [ch_len] at hl
  exact h4 j hj (by simp at hl; lia)
theorem seek_none (h : (chs x).drop k = body []) : pSearch (Str.ofString "") x k = none := by
  have hk := body_len_nil h
  unfold pSearch
  rw [if_pos (by decide)]
  have : skipS x (x.length - k) k = k := by rw [hk, Nat.sub_self]; rfl
  dsimp only
  rw [this, if_pos (by lia)]
theorem seek_name {post : List Str} (hn : Nm n) (h : (chs x).drop k = body (n :: post)) : pSearch (Str.ofString "") x k = some (((k + 1 : Nat) : Int), ((k + 1 + n.length : Nat) : Int)) := by
  obtain ⟨e1, e2⟩ := body_next h
  have hnl := hn.len
  have c0 : ((ch x).drop k).take 1 = [47] := by rw [← chs_take (by lia)]; exact body_slash h
  have cj : ∀ j, k + 1 ≤ j → j < k + 1 + n.length → ((ch x).drop j).take 1 ≠ [47] := fun j h1 h2 => by
    rw [← chs_take (by lia)]
    obtain ⟨c, e, hc⟩ := body_char h hn.free h1 h2
    rw [e]
    intro q; injection q with q _; exact hc q
  have hs : skipS x (x.length - k) k = k + 1 := by
    rw [show x.length - k = (x.length - k - 1) + 1 by lia, skip_yes c0, skip_no (cj (k + 1) (Nat.le_refl _) (by lia))]
  unfold pSearch
  rw [if_pos (by decide)]
  dsimp only
  rw [hs, if_neg (by lia)]
  by_cases hlt : k + 1 + n.length < x.length
  · have c1 : ((ch x).drop (k + 1 + n.length)).take 1 = [47] := by
      rw [← chs_take hlt, e1]
      obtain ⟨r, hr⟩ := body_head post
      rw [hr]; rfl
    rw [fnd_one (j := k + 1 + n.length) (by lia) hlt c1 cj, if_pos (by lia)]
  · rw [fnd_one_no (fun q h1 h2 => cj q h1 (by lia)), if_neg (by decide)]
    have : x.length = k + 1 + n.length := by lia
    rw [this]
end
theorem hitsN_cons (w : Str) (b : Nat) (n : Str) (r : List Str) : hitsN w b (n :: r) = (if okN w n = true then [(b, b + n.length)] else []) ++ hitsN w (b + n.length + 1) r := by
  show (((b, b + n.length, n) :: entsN (b + n.length + 1) r).filter fun e => okN w e.2.2).map (fun e => (e.1, e.2.1)) = _
  rw [List.filter_cons]
  split <;> rfl
/-- every name is met -/
theorem walk_all {x : Str} : ∀ (l : List Str) (k : Nat), Nms l → (chs x).drop k = body l → Walk (Str.ofString "") x k (hitsN (Str.ofString "") (k + 1) l) := by
  intro l
  induction l with
  | nil => intro k _ h; exact .nil (seek_none h)
  | cons n post ih =>
    intro k hl h
    obtain ⟨e1, e2⟩ := body_next h
    have hn := hl n (.head _)
    have hnl := hn.len
    rw [hitsN_cons, if_pos (by unfold okN; simp)]
    exact .cons (seek_name hn h) (by lia) (by lia) e2 (ih _ (fun m hm => hl m (.tail _ hm)) e1)
-- a given name
theorem free_eq : ∀ (u v t : List Nat), 47 ∉ u → 47 ∉ v → (u ++ 47 :: t).take (v.length + 1) = v ++ [47] → u = v := by
  intro u
  induction u with
  | nil =>
    intro v t _ hv h
    cases v with
    | nil => rfl
    | cons b r =>
      simp only [List.nil_append, List.length_cons, List.take_succ_cons, List.cons_append] at h
      injection h with h1 _
      exact absurd (h1 ▸ List.Mem.head _) hv
  | cons a s ih =>
    intro v t hu hv h
    cases v with
    | nil =>
      simp only [List.cons_append, List.length_nil, Nat.zero_add, List.take_succ_cons, List.take_zero, List.nil_append] at h
      injection h with h1 _
      exact absurd (h1 ▸ List.Mem.head _) hu
    | cons b r =>
      simp only [List.cons_append, List.length_cons, List.take_succ_cons] at h
      injection h with h1 h2
      rw [h1, ih r t (fun q => hu (.tail _ q)) (fun q => hv (.tail _ q)) h2]
noncomputable abbrev pat (w : Str) : List Nat := 47 :: (ch w ++ [47])
theorem pat_len (w : Str) : (pat w).length = w.length + 2 := by
  show ((ch w ++ [47]).length + 1) = _
  rw [List.length_append, ch_len]; rfl
theorem at_slash {x w n : Str} {post : List Str} {k : Nat} (hn : 47 ∉ ch n) (hw : 47 ∉ ch w) (h : (chs x).drop k = body (n :: post)) : ((chs x).drop k).take (pat w).length = pat w ↔ n = w := by
  obtain ⟨r, hr⟩ := body_head post
  rw [h, pat_len]
  show (47 :: (ch n ++ body post)).take (w.length + 1 + 1) = 47 :: (ch w ++ [47]) ↔ _
  rw [List.take_succ_cons, hr]
  constructor
  · intro e
    injection e with _ e
    exact ch_ext (free_eq _ _ _ hn hw (by rw [ch_len]; exact e))
  · rintro rfl
    rw [← ch_len, List.take_append]
    simp
    exact List.take_of_length_le (Nat.le_succ _)
theorem not_pat {x w : Str} {j c : Nat} (h : ((chs x).drop j).take 1 = [c]) (hc : c ≠ 47) : ((chs x).drop j).take (pat w).length ≠ pat w := by
  intro e
  have := congrArg (List.take 1) e
  rw [List.take_take, pat_len, Nat.min_eq_left (by lia), h] at this
  injection this with q _
  exact hc q
theorem ps_word {w x : Str} (hw : ch w ≠ []) (b : Nat) : pSearch w x b = (fnd (chs x) (pat w) (b - 1)).map fun k => (((k + 1 : Nat) : Int), ((k + 1 + w.length : Nat) : Int)) := by
  unfold pSearch
  have hwl : w.length ≠ 0 := fun e => hw (List.eq_nil_of_length_eq_zero (by rw [ch_len]; exact e))
  rw [if_neg hwl]
  have hz : (if (0 : Int) > (b : Int) - 1 then 0 else (b : Int) - 1) = ((b - 1 : Nat) : Int) := by split <;> lia
  have e1 : ch (x ++ Str.ofString "/") = chs x := by rw [ch_app, ch_slash]
  have e2 : ch (Str.ofString "/" ++ w ++ Str.ofString "/") = pat w := by rw [ch_app, ch_app, ch_slash]; rfl
  have key : Txt.find3 (x ++ Str.ofString "/") (Str.ofString "/" ++ w ++ Str.ofString "/") (if (0 : Int) > (b : Int) - 1 then 0 else (b : Int) - 1) = match fnd (chs x) (pat w) (b - 1) with | some k => (k : Int) | none => -1 := by rw [hz, find3_eq, e1, e2] <;> cases fnd (chs x) (pat w) (b - 1) <;> rfl
  dsimp only
  rw [key]
  cases fnd (chs x) (pat w) (b - 1) with
  | none => rfl
  | some k =>
    show (if ((k : Int)) + 1 = 0 then none else some ((k : Int) + 1, (k : Int) + 1 + (w.length : Int))) = _
    rw [if_neg (by lia)]
    rfl
/-- the given name is met where it stands as a whole name -/
theorem walk_word {x w : Str} (hw : ch w ≠ []) (hwf : 47 ∉ ch w) : ∀ (l : List Str) (k b : Nat), Nms l → (chs x).drop k = body l → fnd (chs x) (pat w) (b - 1) = fnd (chs x) (pat w) k → b ≤ k + 1 → Walk w x b (hitsN w (k + 1) l) := by
  have hwl : w.length ≠ 0 := fun e => hw (List.eq_nil_of_length_eq_zero (by rw [ch_len]; exact e))
  have hw0 : (w == Str.ofString "") = false := beq_eq_false_iff_ne.mpr fun e => hw (by rw [e, ch_nil])
  intro l
  induction l with
  | nil =>
    intro k b _ h hz hb
    refine .nil ?_
    rw [ps_word hw, hz, fnd_no]
    · rfl
    · intro j hj hl
      have := body_len_nil h
      rw [pat_len, List.length_append, ch_len, List.length_singleton] at hl
      lia
  | cons n post ih =>
    intro k b hl h hz hb
    obtain ⟨e1, e2⟩ := body_next h
    have hn := hl n (.head _)
    have hnl := hn.len
    have hlen : (chs x).length = x.length + 1 := by rw [List.length_append, ch_len]; rfl
    rw [hitsN_cons]
    by_cases hnw : n = w
    · rw [if_pos (by unfold okN; simp [hnw])]
      have hf : fnd (chs x) (pat w) k = some k := by
        obtain ⟨r, hr⟩ := body_head post
        refine fnd_is (Nat.le_refl _) ?_ ((at_slash hn.free hwf h).mpr hnw) (fun j h1 h2 => by lia)
        rw [pat_len, hlen, ← hnw]
        lia
      refine .cons (by rw [ps_word hw, hz, hf, ← hnw]; rfl) (by lia) (by lia) e2 ?_
      refine ih _ _ (fun m hm => hl m (.tail _ hm)) e1 ?_ (by lia)
      refine fnd_skip (by lia) fun j h1 h2 => ?_
      obtain ⟨c, ec, hc⟩ := body_char h hn.free (j := j) (by lia) h2
      exact not_pat ec hc
    · rw [if_neg (by unfold okN; simp [hnw, hw0]), List.nil_append]
      refine ih _ _ (fun m hm => hl m (.tail _ hm)) e1 ?_ (by lia)
      rw [hz]
      refine fnd_skip (by lia) fun j h1 h2 => ?_
      by_cases hjk : j = k
      · rw [hjk]; exact fun q => hnw ((at_slash hn.free hwf h).mp q)
      · obtain ⟨c, ec, hc⟩ := body_char h hn.free (j := j) (by lia) h2
        exact not_pat ec hc
/-- a row's walk -/
theorem walk_row {w : Str} (hw : w = Str.ofString "" ∨ Nm w) {l : List Str} (hl : Nms l) : Walk w (pSlash l) 0 (hitsN w 1 l) := by
  by_cases hn : l = []
  · subst hn
    refine .nil ?_
    rcases hw with rfl | hw
    · have e : skipS (pSlash []) ((pSlash []).length - 0) 0 = 1 := by
        have hl : (pSlash []).length = 1 := by rw [← ch_len, ch_pSlash]; rfl
        rw [hl, Nat.sub_zero, skip_yes (by rw [ch_pSlash]; rfl)]; rfl
      unfold pSearch
      rw [if_pos (by decide)]
      dsimp only
      rw [e, if_pos (by rw [← ch_len, ch_pSlash]; exact Nat.le_refl _)]
    · rw [ps_word hw.ne, fnd_no]
      · rfl
      · intro j _ hj
        rw [pat_len, List.length_append, ch_pSlash] at hj
        have := hw.len
        simp [jn] at hj
        lia
  · have h0 : (chs (pSlash l)).drop 0 = body l := by
      rw [List.drop_zero, ← body_row l hn]
      show ch (pSlash l) ++ [47] = _
      rw [ch_pSlash]
    rcases hw with rfl | hw
    · exact walk_all l 0 hl h0
    · exact walk_word hw.ne hw.free l 0 0 hl h0 rfl (by lia)
end Mine

namespace Mine
open PySem.StrLaws Builtin Builtin.Str
noncomputable def trip : Option Ent → Int × Int × Int
  | some e => (e.1, e.2.1, e.2.2.1)
  | none => (0, 0, 0)
noncomputable def inTime (line col : Int) (e : Ent) : Bool := decide (e.1 < line ∨ (e.1 = line ∧ e.2.2.1 ≤ col))
theorem told_last (table : List Ent) (line col : Int) (w : Str) : pTold table line col w = trip ((table.filter fun e => inTime line col e && okN w e.2.2.2).getLast?) := by
  have key : ∀ (table : List Ent) (t : Int × Int × Int), table.foldl (toldStep line col w) t = match (table.filter fun e => inTime line col e && okN w e.2.2.2).getLast? with | some e => (e.1, e.2.1, e.2.2.1) | none => t := by
    intro table
    induction table with
    | nil => intro t; rfl
    | cons e r ih =>
      intro t
      rw [List.foldl_cons, ih, List.filter_cons]
      by_cases h : (inTime line col e && okN w e.2.2.2) = true
      · rw [if_pos h]
        have h1 : toldStep line col w t e = (e.1, e.2.1, e.2.2.1) := by
          rw [Bool.and_eq_true] at h
          have h2 := of_decide_eq_true h.1
          have h3 := h.2
          unfold okN at h3
          rw [Bool.or_eq_true] at h3
          rcases h3 with h3 | h3
          · exact td1 h2 h3
          · exact td2 h2 h3
        rw [h1]
        cases hq : (r.filter fun e => inTime line col e && okN w e.2.2.2) with
        | nil => rfl
        | cons a s => rfl
      · rw [if_neg h]
        have h1 : toldStep line col w t e = t := by
          by_cases h2 : e.1 < line ∨ (e.1 = line ∧ e.2.2.1 ≤ col)
          · have h3 : okN w e.2.2.2 = false := by
              cases h4 : okN w e.2.2.2 with
              | false => rfl
              | true => exact absurd (by rw [h4, Bool.and_true]; exact decide_eq_true h2) h
            unfold okN at h3
            rw [Bool.or_eq_false_iff] at h3
            exact td3 h3.1 h3.2
          · exact td4 h2
        rw [h1]
  unfold pTold
  rw [key]
  cases (table.filter fun e => inTime line col e && okN w e.2.2.2).getLast? <;> rfl
noncomputable def entI (line : Int) (e : Nat × Nat × Str) : Ent := (line, (e.1 : Int), (e.2.1 : Int), e.2.2)
theorem rowEnts_eq (line : Int) : ∀ (l : List Str) (b : Nat), rowEnts line (b : Int) l = (entsN b l).map (entI line) := by
  intro l
  induction l with
  | nil => intro b; rfl
  | cons n r ih =>
    intro b
    show (line, (b : Int), (b : Int) + n.length, n) :: rowEnts line ((b : Int) + n.length + 1) r = entI line (b, b + n.length, n) :: (entsN (b + n.length + 1) r).map (entI line)
    rw [← ih]
    congr 1
theorem ents_ge : ∀ (l : List Str) (b : Nat), ∀ e ∈ entsN b l, b ≤ e.1 ∧ e.1 ≤ e.2.1 := by
  intro l
  induction l with
  | nil => intro b e h; cases h
  | cons n r ih =>
    intro b e h
    rcases List.mem_cons.mp h with rfl | h
    · exact ⟨Nat.le_refl _, Nat.le_add_right _ _⟩
    · have := ih _ e h; lia
theorem hits_take (w : Str) (col : Nat) : ∀ (l : List Str) (b : Nat), (hitsN w b l).takeWhile (fun h => decide (h.2 ≤ col)) = (((entsN b l).filter fun e => decide (e.2.1 ≤ col) && okN w e.2.2)).map fun e => (e.1, e.2.1) := by
  intro l
  induction l with
  | nil => intro b; rfl
  | cons n r ih =>
    intro b
    rw [hitsN_cons]
    have e1 : entsN b (n :: r) = (b, b + n.length, n) :: entsN (b + n.length + 1) r := rfl
    rw [e1]
    by_cases hc : b + n.length ≤ col
    · by_cases hk : okN w n = true
      · rw [if_pos hk, List.filter_cons_of_pos (by rw [Bool.and_eq_true]; exact ⟨decide_eq_true hc, hk⟩), List.map_cons, ← ih]
        rw [List.singleton_append, List.takeWhile_cons, if_pos (decide_eq_true hc)]
      · rw [if_neg hk, List.filter_cons_of_neg (by rw [Bool.and_eq_true]; exact fun q => hk q.2), List.nil_append, ih]
    · have hnil : ((entsN (b + n.length + 1) r).filter fun e => decide (e.2.1 ≤ col) && okN w e.2.2) = [] := by
        rw [List.filter_eq_nil_iff]
        intro e he
        have := ents_ge r _ e he
        rw [Bool.and_eq_true]
        intro q
        have := of_decide_eq_true q.1
        lia
      rw [List.filter_cons_of_neg (by rw [Bool.and_eq_true]; exact fun q => hc (of_decide_eq_true q.1)), hnil, List.map_nil]
      by_cases hk : okN w n = true
      · rw [if_pos hk, List.singleton_append, List.takeWhile_cons, if_neg (by simpa using hc)]
      · rw [if_neg hk, List.nil_append, ih, hnil]; rfl
noncomputable abbrev nameOk (w : Str) (e : Ent) : Bool := okN w e.2.2.2
/-- a row's last in time, as an entry -/
theorem sr_ent {w : Str} (hw : w = Str.ofString "" ∨ Nm w) {l : List Str} (hl : Nms l) (line : Int) (col : Nat) :
    (match pSR w (pSlash l) col with | some p => some (line, p.1, p.2) | none => none) = (((rowEnts line 1 l).filter fun e => decide (e.2.2.1 ≤ (col : Int)) && nameOk w e).getLast?).map fun e => (e.1, e.2.1, e.2.2.1) := by
  rw [sr_walk (walk_row hw hl), hits_take]
  have e : rowEnts line 1 l = (entsN 1 l).map (entI line) := rowEnts_eq line l 1
  rw [e, List.filter_map]
  have e2 : ((fun e : Ent => decide (e.2.2.1 ≤ (col : Int)) && nameOk w e) ∘ entI line) = fun e => decide (e.2.1 ≤ col) && okN w e.2.2 := by
    funext e
    show (decide ((e.2.1 : Int) ≤ (col : Int)) && okN w e.2.2) = _
    congr 1
    exact decide_eq_decide.mpr (by lia)
  rw [e2, List.getLast?_map, List.getLast?_map]
  cases ((entsN 1 l).filter fun e => decide (e.2.1 ≤ col) && okN w e.2.2).getLast? <;> rfl
theorem last_app {α : Type} (a b : List α) : (a ++ b).getLast? = match b.getLast? with | some x => some x | none => a.getLast? := by
  rw [List.getLast?_append]
  cases b.getLast? <;> rfl
section
variable {lists : List (List Str)} {w : Str}
theorem row_get {k : Nat} (h : k < lists.length) : (lists.map pSlash).getD k (Str.ofString "") = pSlash lists[k] := by
  rw [List.getD_eq_getElem?_getD, List.getElem?_map, List.getElem?_eq_getElem h]; rfl
theorem ents_end {l : List Str} : ∀ (b : Nat) (t : Nat), b + (jn 47 (l.map ch)).length ≤ t → ∀ e ∈ entsN b l, e.2.1 ≤ t := by
  induction l with
  | nil => intro b t _ e h; cases h
  | cons n r ih =>
    intro b t ht e h
    rcases List.mem_cons.mp h with rfl | h
    · cases r with
      | nil => have : (jn 47 ([n].map ch)).length = n.length := ch_len n; show b + n.length ≤ t; lia
      | cons m s =>
        have : (jn 47 ((n :: m :: s).map ch)).length = n.length + ((jn 47 ((m :: s).map ch)).length + 1) := by
          show (ch n ++ 47 :: jn 47 ((m :: s).map ch)).length = _
          rw [List.length_append, List.length_cons, ch_len]
        show b + n.length ≤ t
        lia
    · cases r with
      | nil => cases h
      | cons m s =>
        have : (jn 47 ((n :: m :: s).map ch)).length = n.length + ((jn 47 ((m :: s).map ch)).length + 1) := by
          show (ch n ++ 47 :: jn 47 ((m :: s).map ch)).length = _
          rw [List.length_append, List.length_cons, ch_len]
        exact ih _ _ (by lia) e h
theorem row_all (line : Int) (l : List Str) : (rowEnts line 1 l).filter (fun e => decide (e.2.2.1 ≤ (((pSlash l).length : Nat) : Int)) && nameOk w e) = (rowEnts line 1 l).filter (nameOk w) := by
  refine List.filter_congr fun e he => ?_
  have e1 : rowEnts line 1 l = (entsN 1 l).map (entI line) := rowEnts_eq line l 1
  rw [e1] at he
  obtain ⟨q, hq, rfl⟩ := List.mem_map.mp he
  have hlen : (pSlash l).length = (jn 47 (l.map ch)).length + 1 := by rw [← ch_len, ch_pSlash, List.length_cons]
  have := ents_end 1 (pSlash l).length (by lia) q hq
  show (decide ((q.2.1 : Int) ≤ ((pSlash l).length : Int)) && _) = _
  rw [decide_eq_true (by lia), Bool.true_and]
/-- the rows above, each up to its end -/
theorem back_go (hw : w = Str.ofString "" ∨ Nm w) (hl : ∀ l ∈ lists, Nms l) : ∀ k, k ≤ lists.length → pBackGo w (lists.map pSlash) (k + 1) = trip (((tabFrom 1 (lists.take k)).filter (nameOk w)).getLast?) := by
  intro k
  induction k with
  | zero => intro _; rfl
  | succ k ih =>
    intro hk
    have hlt : k < lists.length := hk
    have e1 : lists.take (k + 1) = lists.take k ++ [lists[k]] := by rw [List.take_add_one, List.getElem?_eq_getElem hlt]; rfl
    have e2 : tabFrom 1 (lists.take (k + 1)) = tabFrom 1 (lists.take k) ++ rowEnts ((k + 1 : Nat) : Int) 1 lists[k] := by
      rw [e1, tabFrom_append, List.length_take, Nat.min_eq_left (by lia)]
      show _ ++ (rowEnts (1 + (k : Int)) 1 lists[k] ++ []) = _
      rw [List.append_nil, show (1 + (k : Int)) = ((k + 1 : Nat) : Int) by lia]
    rw [e2, List.filter_append, last_app]
    have hs := sr_ent hw (hl _ (List.getElem_mem hlt)) ((k + 1 : Nat) : Int) (pSlash lists[k]).length
    rw [row_all] at hs
    unfold pBackGo
    rw [row_get hlt]
    cases hq : pSR w (pSlash lists[k]) (pSlash lists[k]).length with
    | some p =>
      rw [hq] at hs
      cases hr : ((rowEnts ((k + 1 : Nat) : Int) 1 lists[k]).filter (nameOk w)).getLast? with
      | none => rw [hr] at hs; cases hs
      | some e =>
        rw [hr] at hs
        exact Option.some.inj hs
    | none =>
      rw [hq] at hs
      cases hr : ((rowEnts ((k + 1 : Nat) : Int) 1 lists[k]).filter (nameOk w)).getLast? with
      | none => exact ih (by lia)
      | some e => rw [hr] at hs; cases hs
theorem tab_line : ∀ (ls : List (List Str)) (k : Int), ∀ e ∈ tabFrom k ls, k ≤ e.1 ∧ e.1 < k + ls.length := by
  intro ls
  induction ls with
  | nil => intro k e h; cases h
  | cons l r ih =>
    intro k e h
    rw [List.length_cons]
    rcases List.mem_append.mp (show e ∈ rowEnts k 1 l ++ tabFrom (k + 1) r from h) with h | h
    · rw [show rowEnts k 1 l = (entsN 1 l).map (entI k) from rowEnts_eq k l 1] at h
      obtain ⟨q, _, rfl⟩ := List.mem_map.mp h
      show k ≤ k ∧ k < _
      lia
    · have := ih _ e h
      lia
/-- the law's own table tells what the programs find -/
theorem back_told (hw : w = Str.ofString "" ∨ Nm w) (hl : ∀ l ∈ lists, Nms l) {line : Nat} (col : Nat) (h1 : 1 ≤ line) (h2 : line ≤ lists.length) : pBack (lists.map pSlash) line col w = pTold (pTable lists) line col w := by
  obtain ⟨k, rfl⟩ : ∃ k, line = k + 1 := ⟨line - 1, by lia⟩
  have hlt : k < lists.length := h2
  have e1 : lists = lists.take k ++ (lists[k] :: lists.drop (k + 1)) := by
    rw [← List.drop_eq_getElem_cons hlt, List.take_append_drop]
  have e2 : pTable lists = tabFrom 1 (lists.take k) ++ (rowEnts ((k + 1 : Nat) : Int) 1 lists[k] ++ tabFrom ((k + 1 : Nat) + 1 : Int) (lists.drop (k + 1))) := by
    show tabFrom 1 lists = _
    conv => lhs; rw [e1]
    rw [tabFrom_append, List.length_take, Nat.min_eq_left (by lia)]
    show _ ++ (rowEnts (1 + (k : Int)) 1 lists[k] ++ tabFrom (1 + (k : Int) + 1) _) = _
    rw [show (1 + (k : Int)) = ((k + 1 : Nat) : Int) by lia]
  rw [told_last, e2, List.filter_append, List.filter_append]
  have f1 : (tabFrom 1 (lists.take k)).filter (fun e => inTime ((k + 1 : Nat) : Int) col e && okN w e.2.2.2) = (tabFrom 1 (lists.take k)).filter (nameOk w) := by
    refine List.filter_congr fun e he => ?_
    have := tab_line _ _ e he
    rw [List.length_take] at this
    rw [show inTime ((k + 1 : Nat) : Int) col e = true from decide_eq_true (.inl (by lia)), Bool.true_and]
  have f2 : (rowEnts ((k + 1 : Nat) : Int) 1 lists[k]).filter (fun e => inTime ((k + 1 : Nat) : Int) col e && okN w e.2.2.2) = (rowEnts ((k + 1 : Nat) : Int) 1 lists[k]).filter (fun e => decide (e.2.2.1 ≤ (col : Int)) && nameOk w e) := by
    refine List.filter_congr fun e he => ?_
    rw [show rowEnts ((k + 1 : Nat) : Int) 1 lists[k] = (entsN 1 lists[k]).map (entI ((k + 1 : Nat) : Int)) from rowEnts_eq _ _ 1] at he
    obtain ⟨q, _, rfl⟩ := List.mem_map.mp he
    congr 1
    refine decide_eq_decide.mpr ?_
    show ((((k + 1 : Nat) : Int) < ((k + 1 : Nat) : Int)) ∨ (((k + 1 : Nat) : Int) = ((k + 1 : Nat) : Int) ∧ (q.2.1 : Int) ≤ col)) ↔ (q.2.1 : Int) ≤ col
    lia
  have f3 : (tabFrom ((k + 1 : Nat) + 1 : Int) (lists.drop (k + 1))).filter (fun e => inTime ((k + 1 : Nat) : Int) col e && okN w e.2.2.2) = [] := by
    rw [List.filter_eq_nil_iff]
    intro e he
    have := tab_line _ _ e he
    rw [Bool.and_eq_true]
    intro q
    have := of_decide_eq_true q.1
    lia
  rw [f1, f2, f3, List.append_nil, last_app]
  have hs := sr_ent hw (hl _ (List.getElem_mem hlt)) ((k + 1 : Nat) : Int) col
  unfold pBack
  rw [Nat.add_sub_cancel, row_get hlt]
  cases hq : pSR w (pSlash lists[k]) col with
  | some p =>
    rw [hq] at hs
    cases hr : ((rowEnts ((k + 1 : Nat) : Int) 1 lists[k]).filter (fun e => decide (e.2.2.1 ≤ (col : Int)) && nameOk w e)).getLast? with
    | none => rw [hr] at hs; cases hs
    | some e =>
      rw [hr] at hs
      exact Option.some.inj hs
  | none =>
    rw [hq] at hs
    cases hr : ((rowEnts ((k + 1 : Nat) : Int) 1 lists[k]).filter (fun e => decide (e.2.2.1 ≤ (col : Int)) && nameOk w e)).getLast? with
    | none => exact back_go hw hl k (by lia)
    | some e => rw [hr] at hs; cases hs
end
end Mine

namespace Mine
open PySem.StrLaws Builtin Builtin.Str
theorem place_ok {i j : Nat} (hi : i < 200) (hj : j < 200) : PlaceOk i j := by
  have key : ∀ i : Nat, i < 200 → (46 ∉ ch (Str.ofString (toString (i : Int)))) ∧ (Str.ofString (toString (i : Int))).length ≤ 100 := by decide +kernel
  obtain ⟨a1, a2⟩ := key i hi
  obtain ⟨b1, b2⟩ := key j hj
  have hl : (pPlace i j).length ≤ 201 := by
    show (Str.ofString (toString (i : Int)) ++ Str.ofString "." ++ Str.ofString (toString (j : Int))).length ≤ 201
    rw [Str.length_append, Str.length_append]
    have : (Str.ofString ".").length = 1 := rfl
    lia
  refine ⟨?_, by lia, a2, b2⟩
  refine map_ch_inj ?_
  rw [ch_split _ _ 46 ch_dot (kind1 _ (by decide +kernel))]
  have e : ch (pPlace i j) = jn 46 [ch (Str.ofString (toString (i : Int))), ch (Str.ofString (toString (j : Int)))] := by
    show ch (Str.ofString (toString (i : Int)) ++ Str.ofString "." ++ Str.ofString (toString (j : Int))) = _
    rw [ch_app, ch_app, ch_dot]
    show (ch (Str.ofString (toString (i : Int))) ++ [46]) ++ _ = ch (Str.ofString (toString (i : Int))) ++ 46 :: ch (Str.ofString (toString (j : Int)))
    simp
  rw [e, sp_jn _ (by simp)]
  · rfl
  · intro p hp
    simp only [List.mem_cons, List.not_mem_nil, or_false] at hp
    rcases hp with rfl | rfl
    · exact a1
    · exact b1
theorem jn_app : ∀ (a b : List (List Nat)), a ≠ [] → b ≠ [] → jn 47 (a ++ b) = jn 47 a ++ 47 :: jn 47 b := by
  intro a
  induction a with
  | nil => intro b ha; exact absurd rfl ha
  | cons x r ih =>
    intro b ha hb
    cases r with
    | nil =>
      cases b with
      | nil => exact absurd rfl hb
      | cons y t => rfl
    | cons z r =>
      show x ++ 47 :: jn 47 ((z :: r) ++ b) = (x ++ 47 :: jn 47 (z :: r)) ++ _
      rw [ih b (by simp) hb]; simp
/-- what stands ahead of a row's name -/
noncomputable def ahead (pre : List Str) : List Nat := if pre = [] then [] else ch (pSlash pre)
theorem row_mid (pre : List Str) (n : Str) : ch (pSlash (pre ++ [n])) = ahead pre ++ 47 :: ch n := by
  rw [ch_pSlash, List.map_append]
  unfold ahead
  by_cases h : pre = []
  · subst h; rfl
  · rw [if_neg h, jn_app _ _ (by simpa using h) (by simp), ch_pSlash]; rfl
theorem row_mid2 (pre : List Str) (n : Str) (post : List Str) : ∃ t, ch (pSlash (pre ++ n :: post)) = (ahead pre ++ 47 :: ch n) ++ t := by
  cases post with
  | nil => exact ⟨[], by rw [row_mid, List.append_nil]⟩
  | cons m s =>
    refine ⟨47 :: jn 47 ((m :: s).map ch), ?_⟩
    have e : pre ++ n :: m :: s = (pre ++ [n]) ++ (m :: s) := by simp
    rw [← row_mid, e, ch_pSlash, List.map_append, jn_app _ _ (by simp) (by simp), ch_pSlash]; rfl
/-- where an entry stands in its row -/
theorem ents_at : ∀ (l pre : List Str) (b : Nat), b = (ahead pre).length + 1 → ∀ e ∈ entsN b l, ∃ pre' post, pre ++ l = pre' ++ e.2.2 :: post ∧ e.1 = (ahead pre').length + 1 ∧ e.2.1 = e.1 + e.2.2.length := by
  intro l
  induction l with
  | nil => intro pre b _ e h; cases h
  | cons n r ih =>
    intro pre b hb e h
    rcases List.mem_cons.mp h with rfl | h
    · exact ⟨pre, r, rfl, hb, rfl⟩
    · obtain ⟨pre', post, h1, h2, h3⟩ := ih (pre ++ [n]) (b + n.length + 1) (by
        have hne : pre ++ [n] ≠ [] := by simp
        unfold ahead
        rw [if_neg hne, row_mid, List.length_append, List.length_cons, ch_len]
        have : b = (ahead pre).length + 1 := hb
        unfold ahead at this
        unfold ahead
        lia) e h
      exact ⟨pre', post, by rw [← h1]; simp, h2, h3⟩
-- the last slash
theorem last_loop (x y : Str) (c : Nat) (hy : ch y = [c]) : ∀ (m k : Nat) (last : Option Nat), k + m = x.length + 1 →
    (forIn (List.range' k m) last (fun i (last : Option Nat) => (if i + y.length ≤ x.length ∧ subAt x y i = true then pure (ForInStep.yield (some i)) else pure (ForInStep.yield last) : Id (ForInStep (Option Nat))))).run = match (pos c k ((ch x).drop k)).getLast? with | some i => some i | none => last := by
  intro m
  induction m with
  | zero =>
    intro k last hk
    rw [List.drop_of_length_le (by rw [ch_len]; lia)]; rfl
  | succ m ih =>
    intro k last hk
    rw [List.range'_succ, List.forIn_cons]
    have hyl : y.length = 1 := by rw [← ch_len, hy]; rfl
    have hsub : subAt x y k = (((ch x).drop k).take 1 == [c]) := by
      rw [subAt_eq]
      show (((ch x).drop k).take y.length == ch y) = _
      rw [hyl, hy]
    by_cases hlt : k < x.length
    · have hd : (ch x).drop k = (ch x)[k]'(by rw [ch_len]; exact hlt) :: (ch x).drop (k + 1) := List.drop_eq_getElem_cons (by rw [ch_len]; exact hlt)
      rw [hd] at hsub ⊢
      unfold pos
      by_cases hc : (ch x)[k]'(by rw [ch_len]; exact hlt) = c
      · have hs : subAt x y k = true := by rw [hsub, hc]; simp
        rw [if_pos ⟨by lia, hs⟩, if_pos hc]
        have := ih (k + 1) (some k) (by lia)
        refine Eq.trans this ?_
        cases hp : pos c (k + 1) ((ch x).drop (k + 1)) with
        | nil => rfl
        | cons a t => rfl
      · have hs : ¬ subAt x y k = true := by rw [hsub]; simpa using hc
        rw [if_neg (fun q => hs q.2), if_neg hc]
        exact ih (k + 1) last (by lia)
    · rw [if_neg (fun q => by lia)]
      have e1 : (ch x).drop k = [] := List.drop_of_length_le (by rw [ch_len]; lia)
      have e2 : (ch x).drop (k + 1) = [] := List.drop_of_length_le (by rw [ch_len]; lia)
      have := ih (k + 1) last (by lia)
      rw [e2] at this
      rw [e1]
      exact this
theorem pos_last (c : Nat) : ∀ (u v : List Nat) (k : Nat), c ∉ v → (pos c k (u ++ c :: v)).getLast? = some (k + u.length) := by
  intro u
  induction u with
  | nil =>
    intro v k hv
    have : ∀ (v : List Nat) (k : Nat), c ∉ v → pos c k v = [] := by
      intro v
      induction v with
      | nil => intro k _; rfl
      | cons a r ih =>
        intro k h
        unfold pos
        rw [if_neg (fun q => h (by rw [← q]; exact .head _)), ih _ (fun q => h (.tail _ q))]
    show (pos c k (c :: v)).getLast? = _
    unfold pos
    rw [if_pos rfl, this v _ hv]; rfl
  | cons a r ih =>
    intro v k hv
    rw [List.cons_append, List.length_cons]
    unfold pos
    have := ih v (k + 1) hv
    split
    · rw [List.getLast?_cons, this]
      show some (k + 1 + r.length) = _
      congr 1; lia
    · rw [this]; congr 1; lia
theorem rfind_last {x : Str} {u v : List Nat} (h : ch x = u ++ 47 :: v) (hv : 47 ∉ v) : Txt.rfind x (Str.ofString "/") = (u.length : Int) := by
  have e : lastOccurrence x (Str.ofString "/") 0 x.length = some u.length := by
    have e1 : lastOccurrence x (Str.ofString "/") 0 x.length = (forIn (List.range' 0 (x.length + 1 - 0)) (none : Option Nat) (fun i (last : Option Nat) => (if i + (Str.ofString "/").length ≤ x.length ∧ subAt x (Str.ofString "/") i = true then pure (ForInStep.yield (some i)) else pure (ForInStep.yield last) : Id (ForInStep (Option Nat))))).run := by
      unfold lastOccurrence
      simp
    rw [e1, last_loop x _ 47 ch_slash _ _ _ (by lia), List.drop_zero, h, pos_last _ _ _ _ hv]
    simp
  unfold Txt.rfind
  rw [e]
end Mine

namespace Mine
open PySem.StrLaws Builtin Builtin.Str
theorem mul_slash (n : Int) : ∀ c ∈ ch (Txt.mul (Str.ofString "/") n), c = 47 := by
  intro c hc
  have key : ∀ (k : Nat) (acc : Array Nat), (∀ c ∈ acc.toList, c = 47) → ∀ c ∈ ((List.replicate k (#[47] : Array Nat)).foldl (· ++ ·) acc).toList, c = 47 := by
    intro k
    induction k with
    | zero => intro acc h c hc; exact h c hc
    | succ k ih =>
      intro acc h c hc
      rw [List.replicate_succ, List.foldl_cons] at hc
      refine ih _ (fun d hd => ?_) c hc
      rw [Array.toList_append] at hd
      rcases List.mem_append.mp hd with hd | hd
      · exact h d hd
      · simpa using hd
  unfold Txt.mul at hc
  split at hc
  · cases hc
  · split at hc
    · rw [ch_slash] at hc
      simpa using hc
    · have e : (Str.ofString "/").cps = #[47] := by decide
      rw [e] at hc
      exact key _ _ (fun c h => by cases h) c hc
theorem mul_one : Txt.mul (Str.ofString "/") ((1 : Nat) : Int) = Str.ofString "/" := by
  unfold Txt.mul
  rw [if_neg (by decide), if_pos (by decide)]
theorem row_last : ∀ {l : List Str}, Pcs l → l ≠ [] → ∃ u c, ch (pSlash l) = u ++ [c] ∧ c ≠ 47 := by
  have last : ∀ l : List Str, Pcs l → l ≠ [] → ∃ u c, jn 47 (l.map ch) = u ++ [c] ∧ c ≠ 47 := by
    intro l
    induction l with
    | nil => intro _ h; exact absurd rfl h
    | cons a r ih =>
      intro h _
      cases r with
      | nil =>
        obtain ⟨h1, h2⟩ := h a (.head _)
        refine ⟨(ch a).dropLast, (ch a).getLast h1, (List.dropLast_concat_getLast h1).symm, fun q => h2 (q ▸ List.getLast_mem h1)⟩
      | cons b r =>
        obtain ⟨u, c, e, hc⟩ := ih (fun n hn => h n (.tail _ hn)) (by simp)
        exact ⟨ch a ++ 47 :: u, c, by show ch a ++ 47 :: jn 47 ((b :: r).map ch) = _; rw [e]; simp, hc⟩
  intro l h hne
  obtain ⟨u, c, e, hc⟩ := last l h hne
  exact ⟨47 :: u, c, by rw [ch_pSlash, e]; rfl, hc⟩
theorem rstrip_one {x : Str} {u : List Nat} {c : Nat} (h : ch x = (u ++ [c]) ++ [47]) (hc : c ≠ 47) : ch (Txt.rstripChars x (Str.ofString "/")) = u ++ [c] := by
  unfold Txt.rstripChars
  rw [PyProof.Rows.stripBy_eq, ch_sub]
  have hcps : (Str.ofString "/").cps = #[47] := by decide
  have e1 : stripLo (Str.ofString "/").cps.contains false x = 0 := rfl
  have e2 : stripHi (Str.ofString "/").cps.contains true x 0 = (u ++ [c]).length := by
    show x.length - ((List.takeWhile (Str.ofString "/").cps.contains ((ch x).drop 0).reverse).length) = _
    have hx : x.length = (u ++ [c]).length + 1 := by rw [← ch_len, h, List.length_append]; rfl
    rw [List.drop_zero, h, List.reverse_append, List.reverse_singleton, List.reverse_append, List.reverse_singleton, List.singleton_append, List.singleton_append, hcps]
    rw [List.takeWhile_cons, if_pos (by simp), List.takeWhile_cons, if_neg (by simpa using hc)]
    rw [hx]; rfl
  rw [e1, e2, h, List.drop_zero, Nat.sub_zero, List.take_left]
section
variable {pre : List Str} {n : Str}
theorem head_len (pre : List Str) (n : Str) : (ahead pre ++ [47]).length = (ahead pre).length + 1 := by rw [List.length_append]; rfl
theorem rfind_row (hn : 47 ∉ ch n) : Txt.rfind (pSlash (pre ++ [n])) (Str.ofString "/") = ((ahead pre).length : Int) := rfind_last (row_mid pre n) hn
theorem tail_row (hn : 47 ∉ ch n) : pTail (pSlash (pre ++ [n])) = n := by
  refine ch_ext ?_
  unfold pTail
  rw [rfind_row hn, show ((ahead pre).length : Int) + 1 = ((((ahead pre).length + 1 : Nat)) : Int) by lia, sl_sn, row_mid]
  rw [show ahead pre ++ 47 :: ch n = (ahead pre ++ [47]) ++ ch n by simp, ← head_len pre n, List.drop_left]
theorem head_row (hp : Pcs pre) (hn : 47 ∉ ch n) : pHead (pSlash (pre ++ [n])) = pSlash pre := by
  have h0 : ch (pHead0 (pSlash (pre ++ [n]))) = ahead pre ++ [47] := by
    unfold pHead0
    rw [rfind_row hn, show ((ahead pre).length : Int) + 1 = ((((ahead pre).length + 1 : Nat)) : Int) by lia, sl_ns, row_mid]
    rw [show ahead pre ++ 47 :: ch n = (ahead pre ++ [47]) ++ ch n by simp, ← head_len pre n, List.take_left]
  have hlen : (pHead0 (pSlash (pre ++ [n]))).length = (ahead pre).length + 1 := by rw [← ch_len, h0, List.length_append]; rfl
  unfold pHead
  by_cases hpe : pre = []
  · have e : pHead0 (pSlash (pre ++ [n])) = Str.ofString "/" := ch_ext (by rw [h0, hpe, ch_slash]; rfl)
    rw [if_neg]
    · rw [e, hpe]
      refine ch_ext ?_
      rw [ch_slash, ch_pSlash]; rfl
    · rw [e]
      rintro ⟨_, q⟩
      have : (Str.ofString "/").length = 1 := rfl
      rw [this, mul_one] at q
      simp at q
  · have ea : ahead pre = ch (pSlash pre) := if_neg hpe
    obtain ⟨u, c, eu, hc⟩ := row_last hp hpe
    rw [if_pos]
    · refine ch_ext ?_
      rw [rstrip_one (u := u) (c := c) (by rw [h0, ea, eu]) hc, eu]
    · refine ⟨by lia, ?_⟩
      rw [bne_iff_ne]
      intro e
      have := mul_slash (pHead0 (pSlash (pre ++ [n]))).length c (by rw [← e, h0, ea, eu]; simp)
      exact hc this
theorem uphead_row (hp : Pcs pre) {fi : Nat} (hf : fi = (ahead pre).length + 1) : upHead (pSlash (pre ++ [n])) fi = pSlash pre := by
  have e : ch (Txt.slice (pSlash (pre ++ [n])) none (some ((fi : Int) - 1))) = ahead pre := by
    rw [show ((fi : Int) - 1) = ((((ahead pre).length : Nat)) : Int) by lia, sl_ns, row_mid, List.take_left]
  unfold upHead
  by_cases hpe : pre = []
  · rw [if_pos]
    · rw [hpe]; refine ch_ext ?_; rw [ch_slash, ch_pSlash]; rfl
    · rw [← ch_len, e, hpe]; rfl
  · have ea : ahead pre = ch (pSlash pre) := if_neg hpe
    rw [if_neg]
    · exact ch_ext (by rw [e, ea])
    · rw [← ch_len, e, ea, ch_pSlash, List.length_cons]; lia
theorem up_tail {fi : Nat} (hf : fi = (ahead pre).length + 1) : Txt.slice (pSlash (pre ++ [n])) (some (fi : Int)) none = n := by
  refine ch_ext ?_
  rw [sl_sn, row_mid, show ahead pre ++ 47 :: ch n = (ahead pre ++ [47]) ++ ch n by simp, hf, ← head_len pre n, List.drop_left]
theorem up_row {post : List Str} {fi be : Nat} (hf : fi = (ahead pre).length + 1) (hb : be = fi + n.length) : Txt.slice (pSlash (pre ++ n :: post)) none (some (be : Int)) = pSlash (pre ++ [n]) := by
  refine ch_ext ?_
  obtain ⟨t, ht⟩ := row_mid2 pre n post
  rw [sl_ns, ht, row_mid]
  have : be = (ahead pre ++ 47 :: ch n).length := by rw [List.length_append, List.length_cons, ch_len]; lia
  rw [this, List.take_left]
theorem row_name {post : List Str} {fi be : Nat} (hf : fi = (ahead pre).length + 1) (hb : be = fi + n.length) : Txt.slice (pSlash (pre ++ n :: post)) (some (fi : Int)) (some (be : Int)) = n := by
  refine ch_ext ?_
  obtain ⟨t, ht⟩ := row_mid2 pre n post
  rw [sl_ss, ht, show (ahead pre ++ 47 :: ch n) ++ t = (ahead pre ++ [47]) ++ (ch n ++ t) by simp, hf, ← head_len pre n, List.drop_left]
  have e4 : be - (ahead pre ++ [47]).length = (ch n).length := by rw [head_len pre n, ch_len]; lia
  rw [e4, List.take_left]
end
/-- what is said of the lists of names -/
structure Rws (lists : List (List Str)) : Prop where
  nm : ∀ l ∈ lists, Nms l
  sm : ∀ l ∈ lists, Sm l
  wt : ∀ l ∈ lists, Mine.wt l ≤ 100
  n1 : 1 ≤ lists.length
  n2 : lists.length ≤ 10
section
variable {lists : List (List Str)}
theorem tab_mem : ∀ (ls : List (List Str)) (k : Nat), ∀ e ∈ tabFrom (k : Int) ls, ∃ (i : Nat) (hi : i < ls.length) (q : Nat × Nat × Str), q ∈ entsN 1 ls[i] ∧ e = entI ((k + i : Nat) : Int) q := by
  intro ls
  induction ls with
  | nil => intro k e h; cases h
  | cons l r ih =>
    intro k e h
    rcases List.mem_append.mp (show e ∈ rowEnts (k : Int) 1 l ++ tabFrom ((k : Int) + 1) r from h) with h | h
    · rw [show rowEnts (k : Int) 1 l = (entsN 1 l).map (entI k) from rowEnts_eq k l 1] at h
      obtain ⟨q, hq, rfl⟩ := List.mem_map.mp h
      exact ⟨0, by simp, q, hq, rfl⟩
    · rw [show (k : Int) + 1 = ((k + 1 : Nat) : Int) by lia] at h
      obtain ⟨i, hi, q, hq, rfl⟩ := ih (k + 1) e h
      exact ⟨i + 1, by simpa using hi, q, hq, by rw [show k + 1 + i = k + (i + 1) by lia]⟩
/-- an entry of the table: where it stands -/
theorem ent_ok (R : Rws lists) {e : Ent} (he : e ∈ pTable lists) : ∃ (i fi be : Nat) (hi : i < lists.length) (pre : List Str) (n : Str) (post : List Str), e = (((i + 1 : Nat) : Int), (fi : Int), (be : Int), n) ∧ lists[i] = pre ++ n :: post ∧ fi = (ahead pre).length + 1 ∧ be = fi + n.length ∧ Nm n ∧ Pcs pre ∧ fi < 150 := by
  obtain ⟨i, hi, q, hq, rfl⟩ := tab_mem lists 1 e he
  obtain ⟨pre, post, h1, h2, h3⟩ := ents_at lists[i] [] 1 rfl q hq
  rw [List.nil_append] at h1
  have hnm := R.nm _ (List.getElem_mem hi)
  have hwt := R.wt _ (List.getElem_mem hi)
  refine ⟨i, q.1, q.2.1, hi, pre, q.2.2, post, by rw [show i + 1 = 1 + i by lia]; rfl, h1, h2, h3, hnm _ (by rw [h1]; simp), fun m hm => hnm.pcs m (by rw [h1]; simp [hm]), ?_⟩
  have hl : (ch (pSlash lists[i])).length ≤ 101 := by rw [ch_len]; exact Nat.le_trans (pSlash_len _) (by lia)
  obtain ⟨t, ht⟩ := row_mid2 pre q.2.2 post
  rw [h1, ht, List.length_append, List.length_append] at hl
  lia
theorem agrees_at (R : Rws lists) {line col : Nat} (h1 : 1 ≤ line) (h2 : line ≤ lists.length) (hc : col ≤ ((lists.map pSlash).getD (line - 1) (Str.ofString "")).length) : AgreesAt (lists.map pSlash) (pTable lists) line col := by
  have hcol : col ≤ 101 := by
    rw [row_get (by lia)] at hc
    exact Nat.le_trans hc (Nat.le_trans (pSlash_len _) (by have := R.wt _ (List.getElem_mem (l := lists) (n := line - 1) (by lia)); lia))
  have hn2 := R.n2
  have hlen : (lists.map pSlash).length = lists.length := List.length_map ..
  refine ⟨place_ok (by lia) (by lia), h1, by lia, by lia, ?_⟩
  have hbt := back_told (.inl rfl) R.nm col h1 h2
  have htl := told_last (pTable lists) line col (Str.ofString "")
  cases hq : ((pTable lists).filter fun e => inTime line col e && okN (Str.ofString "") e.2.2.2).getLast? with
  | none =>
    rw [hq] at htl
    exact ⟨0, 0, 0, hbt.trans htl, htl, .inl rfl⟩
  | some e =>
    rw [hq] at htl
    have hmem := (List.mem_filter.mp (List.mem_of_getLast? hq)).1
    obtain ⟨i, fi, be, hi, pre, n, post, rfl, e1, e2, e3, hn, hp, hfi⟩ := ent_ok R hmem
    refine ⟨((i + 1 : Nat) : Int), fi, be, hbt.trans htl, htl, .inr ⟨i + 1, fi, be, (pTold (pTable lists) ((i + 1 : Nat) : Int) fi n).1, (pTold (pTable lists) ((i + 1 : Nat) : Int) fi n).2.1, (pTold (pTable lists) ((i + 1 : Nat) : Int) fi n).2.2, rfl, rfl, rfl, by lia, by lia, by lia, place_ok (by lia) (by lia), ?_⟩⟩
    have hrow : (lists.map pSlash).getD (i + 1 - 1) (Str.ofString "") = pSlash (pre ++ n :: post) := by rw [Nat.add_sub_cancel, row_get hi, e1]
    rw [hrow, up_row e2 e3, uphead_row hp e2, up_tail e2]
    have sm := R.sm _ (List.getElem_mem hi)
    rw [e1] at sm
    refine ⟨strOk_of (sm_pSlash fun m hm => sm m (by simp [hm])), strOk_of (sm n (by simp)), head_row hp hn.free, tail_row hn.free, ?_, rfl⟩
    exact back_told (.inr hn) R.nm fi (by lia) (by lia)
-- the table in its order
noncomputable def Ahead (a b : Ent) : Prop := a.1 < b.1 ∨ (a.1 = b.1 ∧ a.2.2.1 ≤ b.2.1)
theorem ents_pair (line : Int) : ∀ (l : List Str) (b : Nat), ((entsN b l).map (entI line)).Pairwise Ahead := by
  intro l
  induction l with
  | nil => intro b; exact .nil
  | cons n r ih =>
    intro b
    refine List.pairwise_cons.mpr ⟨fun q hq => ?_, ih _⟩
    obtain ⟨q, h, rfl⟩ := List.mem_map.mp hq
    have := ents_ge r _ q h
    right
    show line = line ∧ ((b + n.length : Nat) : Int) ≤ (q.1 : Int)
    lia
theorem tab_pair : ∀ (ls : List (List Str)) (k : Int), (tabFrom k ls).Pairwise Ahead := by
  intro ls
  induction ls with
  | nil => intro k; exact .nil
  | cons l r ih =>
    intro k
    show (rowEnts k 1 l ++ tabFrom (k + 1) r).Pairwise Ahead
    have e : rowEnts k 1 l = (entsN 1 l).map (entI k) := rowEnts_eq k l 1
    rw [e]
    refine List.pairwise_append.mpr ⟨ents_pair k l 1, ih _, fun a ha b hb => ?_⟩
    obtain ⟨q, _, rfl⟩ := List.mem_map.mp ha
    have := tab_line _ _ b hb
    left
    show k < b.1
    lia
theorem told_ahead {T U : List Ent} {e : Ent} (h : (T ++ e :: U).Pairwise Ahead) (he : ∀ b ∈ e :: U, b.2.1 < b.2.2.1) : pTold (T ++ e :: U) e.1 e.2.1 (Str.ofString "") = trip T.getLast? := by
  obtain ⟨_, h2, h3⟩ := List.pairwise_append.mp h
  obtain ⟨h4, _⟩ := List.pairwise_cons.mp h2
  rw [told_last, List.filter_append]
  have f1 : T.filter (fun a => inTime e.1 e.2.1 a && okN (Str.ofString "") a.2.2.2) = T := by
    rw [List.filter_eq_self]
    intro a ha
    rw [Bool.and_eq_true]
    exact ⟨decide_eq_true (h3 a ha e (.head _)), by unfold okN; simp⟩
  have f2 : (e :: U).filter (fun a => inTime e.1 e.2.1 a && okN (Str.ofString "") a.2.2.2) = [] := by
    rw [List.filter_eq_nil_iff]
    intro a ha
    rw [Bool.and_eq_true]
    intro q
    have q1 := of_decide_eq_true q.1
    have hlt := he a ha
    rcases List.mem_cons.mp ha with rfl | ha
    · lia
    · have := h4 a ha
      have := he e (.head _)
      unfold Ahead at this
      rcases h4 a ha with g | g <;> lia
  rw [f1, f2, List.append_nil]
theorem chain_all (R : Rws lists) : ∀ (T U : List Ent), T ++ U = pTable lists → Chain (lists.map pSlash) (trip T.getLast?) T.reverse := by
  intro T
  generalize hk : T.length = k
  induction k generalizing T with
  | zero =>
    intro U _
    rw [List.eq_nil_of_length_eq_zero hk]
    exact .nil 0 0
  | succ k ih =>
    intro U hU
    have hne : T ≠ [] := by rintro rfl; cases hk
    obtain ⟨S, e, rfl⟩ : ∃ S e, T = S ++ [e] := ⟨T.dropLast, T.getLast hne, (List.dropLast_concat_getLast hne).symm⟩
    have hS : S.length = k := by rw [List.length_append] at hk; simpa using hk
    have hall : S ++ e :: U = pTable lists := by rw [← hU]; simp
    have hmem : ∀ b ∈ e :: U, b ∈ pTable lists := fun b hb => by rw [← hall]; exact List.mem_append_right _ hb
    have hlt : ∀ b ∈ e :: U, b.2.1 < b.2.2.1 := fun b hb => by
      obtain ⟨i, fi, be, hi, pre, n, post, rfl, _, _, e3, hn, _⟩ := ent_ok R (hmem b hb)
      have := hn.len
      show (fi : Int) < (be : Int)
      lia
    have htold := told_ahead (by rw [hall]; exact tab_pair lists 1) hlt
    rw [hall] at htold
    have hc := ih S hS (e :: U) hall
    have hn2 := R.n2
    obtain ⟨i, fi, be, hi, pre, n, post, rfl, e1, e2, e3, hn, hp, hfi⟩ := ent_ok R (hmem e (.head _))
    rw [List.getLast?_concat, List.reverse_append, List.reverse_singleton, List.singleton_append]
    have hrow : (lists.map pSlash).getD (i + 1 - 1) (Str.ofString "") = pSlash (pre ++ n :: post) := by rw [Nat.add_sub_cancel, row_get hi, e1]
    refine Chain.cons (ln := i + 1) (fi := fi) (be := be) (by lia) (by rw [List.length_map]; lia) (by lia) (place_ok (by lia) (by lia)) (by rw [hrow]; exact row_name e2 e3) ?_ hc
    rw [back_told (.inl rfl) R.nm fi (by lia) (by lia)]
    exact htold
/-- from the listing's end on -/
theorem chain_ok (R : Rws lists) : ∃ f, pBack (lists.map pSlash) (lists.map pSlash).length ((lists.map pSlash).getD ((lists.map pSlash).length - 1) (Str.ofString "")).length (Str.ofString "") = f ∧ Chain (lists.map pSlash) f (pTable lists).reverse := by
  refine ⟨_, rfl, ?_⟩
  have hn1 := R.n1
  rw [List.length_map, back_told (.inl rfl) R.nm _ hn1 (Nat.le_refl _), told_last]
  have f1 : (pTable lists).filter (fun e => inTime (lists.length : Nat) ((((lists.map pSlash).getD (lists.length - 1) (Str.ofString "")).length : Nat) : Int) e && okN (Str.ofString "") e.2.2.2) = pTable lists := by
    rw [List.filter_eq_self]
    intro e he
    rw [Bool.and_eq_true]
    refine ⟨decide_eq_true ?_, by unfold okN; simp⟩
    obtain ⟨i, hi, q, hq, rfl⟩ := tab_mem lists 1 e he
    by_cases hl : i + 1 = lists.length
    · right
      have hi' : i = lists.length - 1 := by lia
      subst hi'
      rw [row_get hi]
      have hlen : (pSlash lists[lists.length - 1]).length = (jn 47 (lists[lists.length - 1].map ch)).length + 1 := by rw [← ch_len, ch_pSlash, List.length_cons]
      have := ents_end 1 (pSlash lists[lists.length - 1]).length (by lia) q hq
      show (((1 + (lists.length - 1) : Nat) : Int) = ((lists.length : Nat) : Int)) ∧ (q.2.1 : Int) ≤ _
      lia
    · left
      show (((1 + i : Nat) : Int)) < ((lists.length : Nat) : Int)
      lia
  rw [f1]
  exact chain_all R (pTable lists) [] (List.append_nil _)
-- the rows written again
theorem names_row (k : Nat) (hk : k < lists.length) : pNames (pTable lists) k = lists[k] := by
  have e1 : lists = lists.take k ++ (lists[k] :: lists.drop (k + 1)) := by
    rw [← List.drop_eq_getElem_cons hk, List.take_append_drop]
  have e2 : pTable lists = tabFrom 1 (lists.take k) ++ (rowEnts ((k : Int) + 1) 1 lists[k] ++ tabFrom ((k : Int) + 1 + 1) (lists.drop (k + 1))) := by
    show tabFrom 1 lists = _
    conv => lhs; rw [e1]
    rw [tabFrom_append, List.length_take, Nat.min_eq_left (by lia)]
    show _ ++ (rowEnts (1 + (k : Int)) 1 lists[k] ++ tabFrom (1 + (k : Int) + 1) _) = _
    rw [show (1 + (k : Int)) = (k : Int) + 1 by lia]
  unfold pNames
  rw [e2, List.filter_append, List.filter_append]
  have f1 : (tabFrom 1 (lists.take k)).filter (fun e => e.1 == (k : Int) + 1) = [] := by
    rw [List.filter_eq_nil_iff]
    intro e he
    have := tab_line _ _ e he
    rw [List.length_take] at this
    simp only [beq_iff_eq]
    lia
  have f3 : (tabFrom ((k : Int) + 1 + 1) (lists.drop (k + 1))).filter (fun e => e.1 == (k : Int) + 1) = [] := by
    rw [List.filter_eq_nil_iff]
    intro e he
    have := tab_line _ _ e he
    simp only [beq_iff_eq]
    lia
  have e3 : rowEnts ((k : Int) + 1) 1 lists[k] = (entsN 1 lists[k]).map (entI ((k : Int) + 1)) := rowEnts_eq _ _ 1
  have f2 : (rowEnts ((k : Int) + 1) 1 lists[k]).filter (fun e => e.1 == (k : Int) + 1) = rowEnts ((k : Int) + 1) 1 lists[k] := by
    rw [List.filter_eq_self]
    intro e he
    rw [e3] at he
    obtain ⟨q, _, rfl⟩ := List.mem_map.mp he
    show ((k : Int) + 1 == (k : Int) + 1) = true
    simp
  rw [f1, f2, f3, List.append_nil, List.nil_append, e3, List.map_map]
  have : ∀ (l : List Str) (b : Nat), (entsN b l).map ((fun e : Ent => e.2.2.2) ∘ entI ((k : Int) + 1)) = l := by
    intro l
    induction l with
    | nil => intro b; rfl
    | cons n r ih => intro b; show n :: (entsN _ r).map _ = _; rw [ih]
  exact this _ 1
theorem join_row : ∀ (l pre : List Str), Pcs pre → Pcs l → l.foldl jStep (pSlash pre) = pSlash (pre ++ l) := by
  intro l
  induction l with
  | nil => intro pre _ _; rw [List.append_nil]; rfl
  | cons n r ih =>
    intro pre hp hl
    have hn : Pcs [n] := fun m hm => by rw [List.mem_singleton.mp hm]; exact hl n (.head _)
    have e : Txt.join (Str.ofString "/") [n] = n := ch_ext (by rw [join_sl]; rfl)
    have := jstep_pSlash hp (W := [n]) (by simp) hn
    rw [e] at this
    rw [List.foldl_cons, this, ih _ (fun m hm => (List.mem_append.mp hm).elim (hp m) (hn m)) (fun m hm => hl m (.tail _ hm))]
    simp
end
end Mine

namespace Mine
open PySem.StrLaws Builtin Builtin.Str
/-- how a drawn row looks -/
noncomputable def DrawnRow (x : Str) : Prop := (∃ y, ch x = 47 :: 46 :: y) ∧ ∀ c ∈ ch x, c < 1000
theorem piece_small (k : Int) : ∀ c ∈ ch (pPiece k), c < 1000 := by
  have h : ∀ x ∈ pieces, ∀ c ∈ ch x, c < 1000 := by decide
  unfold pPiece
  rw [List.getD_eq_getElem?_getD]
  cases hq : pieces[(k.fmod 9).toNat]? with
  | none => intro c hc; rw [show (Option.none.getD (Str.ofString "") : Str) = Str.ofString "" from rfl, ch_nil] at hc; cases hc
  | some x => exact h x (List.mem_of_getElem? hq)
theorem drawn_step {rows : List Str} (k : Int) (h0 : rows ≠ []) (h : ∀ x ∈ rows, DrawnRow x) : ∀ x ∈ pStep rows k, DrawnRow x := by
  intro x hx
  unfold pStep at hx
  split at hx
  · rcases List.mem_append.mp hx with hx | hx
    · exact h x hx
    · rw [List.mem_singleton.mp hx]
      exact ⟨⟨[47], by decide⟩, by decide⟩
  · rcases List.mem_append.mp hx with hx | hx
    · exact h x (List.dropLast_subset _ hx)
    · rw [List.mem_singleton.mp hx]
      have hl : rows.getLastD (Str.ofString "") ∈ rows := by
        cases rows with
        | nil => exact absurd rfl h0
        | cons a r =>
          rw [List.getLastD_eq_getLast?]
          cases hq : (a :: r).getLast? with
          | none => exact absurd (List.getLast?_eq_none_iff.mp hq) (by simp)
          | some z => exact List.mem_of_getLast? hq
      obtain ⟨⟨y, hy⟩, hs⟩ := h _ hl
      refine ⟨⟨y ++ ch (pPiece k), by rw [ch_app, hy]; rfl⟩, fun c hc => ?_⟩
      rw [ch_app] at hc
      rcases List.mem_append.mp hc with hc | hc
      · exact hs c hc
      · exact piece_small k c hc
theorem drawn_all (ns : List Int) : pDrawn ns ≠ [] ∧ (pDrawn ns).length ≤ 8 ∧ ∀ x ∈ pDrawn ns, x.length ≤ 32 ∧ DrawnRow x := by
  have key : ∀ (ks : List Int) (n : Nat) (rows : List Str), rows ≠ [] → rows.length ≤ n → (∀ x ∈ rows, x.length ≤ 4 * n) → (∀ x ∈ rows, DrawnRow x) →
      ks.foldl pStep rows ≠ [] ∧ (ks.foldl pStep rows).length ≤ n + ks.length ∧ ∀ x ∈ ks.foldl pStep rows, x.length ≤ 4 * (n + ks.length) ∧ DrawnRow x := by
    intro ks
    induction ks with
    | nil => intro n rows h1 h2 h3 h4; exact ⟨h1, h2, fun x hx => ⟨h3 x hx, h4 x hx⟩⟩
    | cons k r ih =>
      intro n rows h1 h2 h3 h4
      obtain ⟨a, b, c⟩ := pStep_ok k h1 h2 h3
      have := ih (n + 1) (pStep rows k) a b c (drawn_step k h1 h4)
      rw [List.foldl_cons, List.length_cons, show n + (r.length + 1) = n + 1 + r.length by lia]
      exact this
  have h0 : ∀ x ∈ [Str.ofString "/./ab/a", Str.ofString "/./a"], DrawnRow x := by
    intro x hx
    simp only [List.mem_cons, List.not_mem_nil, or_false] at hx
    rcases hx with rfl | rfl
    · exact ⟨⟨[47, 97, 98, 47, 97], by decide⟩, by decide⟩
    · exact ⟨⟨[47, 97], by decide⟩, by decide⟩
  have := key ((ns.take (6 : Int).toNat).map pCell) 2 [Str.ofString "/./ab/a", Str.ofString "/./a"] (by simp) (by decide) (by decide) h0
  have hl : ((ns.take (6 : Int).toNat).map pCell).length ≤ 6 := by
    rw [List.length_map, List.length_take]; exact Nat.min_le_left _ _
  refine ⟨this.1, Nat.le_trans this.2.1 (by lia), fun x hx => ?_⟩
  have h2 := this.2.2 x hx
  exact ⟨by lia, h2.2⟩
theorem drawn_rooted {x : Str} (h : DrawnRow x) (hl : x.length ≤ 32) : Rooted x := by
  obtain ⟨⟨y, hy⟩, _⟩ := h
  refine ⟨by lia, ?_, ?_, ?_⟩
  · have : Txt.slice x none (some 1) = Str.ofString "/" := ch_ext (by
      rw [show ((1 : Int)) = ((1 : Nat) : Int) from rfl, sl_ns, hy, ch_slash]; rfl)
    rw [this]; decide
  · rw [bne_iff_ne]
    intro e
    have e2 := congrArg ch e
    rw [show ((1 : Int)) = ((1 : Nat) : Int) from rfl, show ((2 : Int)) = ((2 : Nat) : Int) from rfl, sl_ss, hy, ch_slash] at e2
    injection e2 with e3 _
    exact absurd e3 (by decide)
  · unfold Txt.startswith
    rw [Bool.and_eq_true]
    refine ⟨decide_eq_true ?_, ?_⟩
    · rw [← ch_len x, hy, List.length_cons]
      show 0 + 1 ≤ _
      lia
    · rw [subAt_eq]
      show (((ch x).drop 0).take 1 == ch (Str.ofString "/")) = true
      rw [hy, ch_slash]; rfl
theorem mem_jn : ∀ {ps : List (List Nat)} {p : List Nat} {c : Nat}, p ∈ ps → c ∈ p → c ∈ jn 47 ps := by
  intro ps
  induction ps with
  | nil => intro p c h; cases h
  | cons a r ih =>
    intro p c hp hc
    cases r with
    | nil => rw [List.mem_singleton.mp hp] at hc; exact hc
    | cons b r =>
      show c ∈ a ++ 47 :: jn 47 (b :: r)
      rcases List.mem_cons.mp hp with rfl | hp
      · exact List.mem_append_left _ hc
      · exact List.mem_append_right _ (.tail _ (ih hp hc))
theorem straight_split (x : Str) : ∀ n ∈ pStraight x, n ∈ Txt.split x (Str.ofString "/") := fun n hn => by
  have hn' := List.mem_reverse.mp hn
  rcases st_mem _ _ n hn' with h | ⟨h, _⟩
  · cases h
  · exact List.mem_reverse.mp h
theorem straight_small {x : Str} (h : ∀ c ∈ ch x, c < 1000) : Sm (pStraight x) := fun n hn c hc => by
  have h1 := straight_split x n hn
  have h2 : ch n ∈ sp 47 (ch x) := by rw [← split_sl]; exact List.mem_map_of_mem h1
  have h3 := mem_jn h2 hc
  rw [jn_sp] at h3
  exact h c h3
theorem wt_st : ∀ (ps : List Str) (c : List Str × Int), wt (ps.foldl stStep c).1 ≤ wt c.1 + wt ps := by
  intro ps
  induction ps with
  | nil => intro c; exact Nat.le_refl _
  | cons p r ih =>
    intro c
    have h1 := ih (stStep c p)
    have e : wt (p :: r) = wt [p] + wt r := by rw [← wt_app]; rfl
    have h2 : wt (stStep c p).1 ≤ wt c.1 + wt [p] := by
      unfold stStep
      repeat' split
      all_goals (try dsimp only)
      all_goals (try rw [wt_app])
      all_goals lia
    rw [List.foldl_cons, e]; lia
theorem wt_rev (l : List Str) : wt l.reverse = wt l := by
  induction l with
  | nil => rfl
  | cons a r ih =>
    rw [List.reverse_cons, wt_app, ih, show a :: r = [a] ++ r from rfl, wt_app]; lia
theorem straight_wt {x : Str} (h : x.length ≤ 32) : wt (pStraight x) ≤ 100 := by
  unfold pStraight stFold
  rw [wt_rev]
  have h1 := wt_st (Txt.split x (Str.ofString "/")).reverse ([], 0)
  rw [wt_rev] at h1
  have h2 : wt (Txt.split x (Str.ofString "/")) ≤ 33 := Nat.le_trans (split_weight _ _ (by decide)) (by lia)
  have e : wt (([], 0) : List Str × Int).1 = 0 := rfl
  lia
theorem ents_len : ∀ (l : List Str) (b : Nat), (entsN b l).length = l.length := by
  intro l
  induction l with
  | nil => intro b; rfl
  | cons n r ih => intro b; show (entsN _ r).length + 1 = _; rw [ih]; rfl
theorem tab_len : ∀ (ls : List (List Str)) (k : Int), (∀ l ∈ ls, l.length ≤ 100) → (tabFrom k ls).length ≤ 100 * ls.length := by
  intro ls
  induction ls with
  | nil => intro k _; exact Nat.zero_le _
  | cons l r ih =>
    intro k h
    show (rowEnts k 1 l ++ tabFrom (k + 1) r).length ≤ _
    have e : rowEnts k 1 l = (entsN 1 l).map (entI k) := rowEnts_eq k l 1
    rw [e, List.length_append, List.length_map, ents_len, List.length_cons]
    have := ih (k + 1) (fun m hm => h m (.tail _ hm))
    have := h l (.head _)
    lia
theorem plain_law (ns : List Int) : LawOk ns := by
  obtain ⟨d1, d2, d3⟩ := drawn_all ns
  have hlen : (pLists ns).length = (pDrawn ns).length := List.length_map ..
  have hpos : 1 ≤ (pDrawn ns).length := by cases h : pDrawn ns with | nil => exact absurd h d1 | cons => simp
  have R : Rws (pLists ns) := by
    refine ⟨fun l hl => ?_, fun l hl => ?_, fun l hl => ?_, by lia, by lia⟩
    · obtain ⟨x, hx, rfl⟩ := List.mem_map.mp hl
      exact straight_names x
    · obtain ⟨x, hx, rfl⟩ := List.mem_map.mp hl
      exact straight_small (d3 x hx).2.2
    · obtain ⟨x, hx, rfl⟩ := List.mem_map.mp hl
      exact straight_wt (d3 x hx).1
  have same : pRows ns = (pLists ns).map pSlash := by
    show (pDrawn ns).map pNorm = ((pDrawn ns).map pStraight).map pSlash
    rw [List.map_map]
    refine List.map_congr_left fun x hx => ?_
    obtain ⟨⟨y, hy⟩, _⟩ := (d3 x hx).2
    exact norm_straight hy
  have rooted : ∀ x ∈ pDrawn ns, Rooted x := fun x hx => drawn_rooted (d3 x hx).2 (d3 x hx).1
  have hrl : (pRows ns).length = (pLists ns).length := by rw [same, List.length_map]
  have hgl : ∀ l ∈ pLists ns, l.length ≤ 100 := fun l hl => Nat.le_trans (len_wt _) (R.wt l hl)
  refine ⟨rooted, same, ?_, ?_, ?_, ?_, ?_, ?_, ?_, ?_, ?_, ?_, ?_, ?_⟩
  · intro r hr
    rw [same] at hr
    obtain ⟨l, hl, rfl⟩ := List.mem_map.mp hr
    exact strOk_of (sm_pSlash (R.sm l hl))
  · lia
  · lia
  · intro r hr
    rw [same] at hr
    obtain ⟨l, hl, rfl⟩ := List.mem_map.mp hr
    have := R.wt l hl
    exact Nat.le_trans (pSlash_len l) (by lia)
  · intro l hl
    have := R.wt l hl
    lia
  · exact Nat.le_trans (tab_len (pLists ns) 1 hgl) (by lia)
  · intro e he
    obtain ⟨i, fi, be, hi, pre, n, post, rfl, e1, _, _, _, _, _⟩ := ent_ok R he
    have hn : n ∈ (pLists ns)[i] := by rw [e1]; simp
    have hw := R.wt _ (List.getElem_mem hi)
    exact ⟨Nat.le_trans (mem_wt hn) (by lia), strOk_of (R.sm _ (List.getElem_mem hi) n hn)⟩
  · intro line col h1 h2 h3
    rw [same] at h3 ⊢
    exact agrees_at R h1 (by lia) h3
  · have hn := R.n2
    refine place_ok (by lia) ?_
    rw [same, List.length_map, row_get (by lia)]
    have := R.wt _ (List.getElem_mem (l := pLists ns) (n := (pLists ns).length - 1) (by lia))
    exact Nat.lt_of_le_of_lt (pSlash_len _) (by lia)
  · have := chain_ok R
    rw [← same] at this
    exact this
  · intro k hk
    have hk' : k < (pLists ns).length := by lia
    have hp := (R.nm _ (List.getElem_mem hk')).pcs
    rw [names_row k hk', same, row_get hk']
    have e : Str.ofString "/" = pSlash [] := ch_ext (by rw [ch_slash, ch_pSlash]; rfl)
    refine ⟨?_, fun i => ?_⟩
    · conv => lhs; rw [e]
      exact join_row _ [] (fun _ h => nomatch h) hp
    · rw [show ((pLists ns)[k].take i).foldl jStep (Str.ofString "/") = pSlash ([] ++ (pLists ns)[k].take i) from by
        conv => lhs; rw [e]
        exact join_row _ [] (fun _ h => nomatch h) (fun m hm => hp m (List.mem_of_mem_take hm))]
      rw [List.nil_append]
      have h1 := pSlash_len ((pLists ns)[k].take i)
      have h2 := wt_take (pLists ns)[k] i
      have h3 := R.wt _ (List.getElem_mem hk')
      lia
  · intro k hk
    have hk' : k < (pLists ns).length := by lia
    have hpv : pPrev (pRows ns).length k < (pLists ns).length := by unfold pPrev; split <;> lia
    generalize pPrev (pRows ns).length k = j at hpv ⊢
    have g : ∀ j (h : j < (pLists ns).length), (pLists ns).getD j [] = (pLists ns)[j] := fun j hj => by rw [List.getD_eq_getElem?_getD, List.getElem?_eq_getElem hj]; rfl
    rw [g k hk', g j hpv, same, row_get hk', row_get hpv]
    have m1 := List.getElem_mem hk'
    have m2 := List.getElem_mem hpv
    exact pair_ok (R.nm _ m1) (R.nm _ m2) (R.sm _ m1) (R.sm _ m2) (R.wt _ m1) (R.wt _ m2)
end Mine

theorem Mine.le63 {n : Nat} (h : ¬ ((63 : Int) < n)) : n ≤ 63 := by lia
theorem Mine.cF_agrees {w : World} {c : Mine.Cx} {env : Env} {σ : Mine.Sg} {rows : List Str} {table : List Mine.Ent} {line col : Nat} {x y : Int} (ok : Mine.CxOk w c) (rm : Mine.Rm c 16) (hx : x = (line : Nat)) (hy : y = (col : Nat)) (h : Mine.AgreesAt rows table line col) (h1 : rows.length ≤ 1000) (h2 : ∀ x ∈ rows, x.length ≤ 100000) (h3 : table.length ≤ 100000) (h4 : ∀ e ∈ table, e.2.2.2.length ≤ 100000) :
    Mine.CallD w c env σ (.ref 245) [.d (.list (rows.map .str)), .d (.list (table.map Mine.encE)), .d (.int x), .d (.int y)] (.d (.bool true)) := by
  subst hx hy
  exact Mine.cD_fn ok (Mine.fn_agrees w) rm ⟨rows, table, line, col, rfl, rfl, h, h1, h2, h3, h4⟩
theorem Mine.cF_taken {w : World} {c : Mine.Cx} {env : Env} {σ : Mine.Sg} {rows : List Str} {table : List Mine.Ent} {x : Int} (ok : Mine.CxOk w c) (rm : Mine.Rm c 16) (hx : x = (table.length : Nat)) (h0 : 1 ≤ rows.length) (h1 : rows.length ≤ 1000) (h2 : ∀ x ∈ rows, x.length ≤ 100000) (h3 : table.length ≤ 100000) (hp : Mine.PlaceOk rows.length (rows.getD (rows.length - 1) (Str.ofString "")).length)
    (h : ∃ f, Mine.pBack rows rows.length (rows.getD (rows.length - 1) (Str.ofString "")).length (Str.ofString "") = f ∧ Mine.Chain rows f table.reverse) : Mine.CallD w c env σ (.ref 252) [.d (.list (rows.map .str)), .d (.int x)] (.d (.list (table.map Mine.encE))) := by
  subst hx
  obtain ⟨f, h4, h5⟩ := h
  exact Mine.cD_fn ok (Mine.fn_taken w) rm ⟨rows, table, f, rfl, rfl, h0, h1, h2, h3, hp, h4, h5⟩
theorem Mine.inj1 {x : Str} {k : Addr} : ∀ y, List.lookup y [(x, k)] = some k → y = x := fun y hy => by
  rw [List.lookup_cons] at hy
  by_cases h : (y == x) = true
  · exact beq_iff_eq.mp h
  · simp only [h] at hy; cases hy
theorem Mine.ints_len {vs : List Value} {ns : List Int} (h : IntsAre vs ns) : vs.length = ns.length := by
  induction h with
  | nil => rfl
  | cons _ _ _ ih => rw [List.length_cons, List.length_cons, ih]
open Mine
theorem PySem.Challenge.cw_in0110_01_holds : PySem.Challenge.rw_in0110_01.Holds := by
  w_on
  refine Mine.top_holds (by rfl) (by rfl) (by rfl) ?hw ?hc
  case hw => w_witness2
  case hc =>
    k_go0
    have hns := Mine.le63 (by assumption)
    refine' Mine.law_end ?hex (by assumption) (by assumption) (by assumption) (by assumption) (by assumption) (by assumption) ?hm (by assumption) (by assumption) (by assumption) ?hvl (Mine.plain_law _) ?hcells ?hk ?hkind ?hQ
    case hm => rfl
    case hvl => exact Nat.le_trans (Nat.le_of_eq (Mine.ints_len (by assumption))) hns
    case hcells => rfl
    case hk => rfl
    case hkind => rfl
    case hQ =>
      intro h' tk' m' ps1 ps2 rest F N
      refine ⟨?_, GrownAt.of N (.head _), GrownAt.of N (.tail _ (.head _)), trivial⟩
      kc_close
    case hex =>
      rename_i z5 z6 z7 z8 z9 z10 z11 z12 z13 z14 z15 z16 z17 z18 z19 z20 z21 z22 z23 z24 z25 z26 z27 z28 z29 z30 z31 z32 z33 z34 z35 z36 z37 z38 z39 z40 z41 z42 z43 z44 z45 z46 z47 z48 z49 z50 z51 z52 z53 z54 z55 z56 z57
      clear hns lifted codeHd hT8 hT9 z57 z56 z55 z54 z53 z52 z51 z50 z49 z48 z47 z46 z45 z44 z43 z42 z41 z40 z39 z38 z37 z36 z35 z34 z33 z32 z31 z30 z29 z28 z27 z26 z25 z24 z23 z22 z21 z20 z19 z18 z17 z16 z15 z14 z13 z12 z11 z10 z9 z8 z7 z6 z5
      dsimp only
      intro w loose mean mg mb dp un gd cn fa ccd outer A₀ base h₀ L a vs ns σ0 ok rm hL hI hvl lo s1
      have eo := envOk ok.k
      refine Does.body ?_
      obtain ⟨rooted, same, sok, n1, n2, rl, ll, tl, te, agrees, place, chain, joins, pairs⟩ := lo
      refine d_cons (xD_assign ok (eD_callG2 ok eo (gF_law_drawn _) (gK_law_drawn _) (aD_cons (eD_name s1) aD_nil) (cD_drawn ok (by walk_at "mROOM") hL hI hvl))) ?_
      have hdl : (pDrawn ns).length = (pRows ns).length := by rw [List.length_map]
      have hdl2 : (pDrawn ns).length = (pLists ns).length := by rw [List.length_map]
      refine d_cons (σ' := upd _ (Str.ofString "lists") (.d (.list ((pLists ns).map encN)))) (EvalX (xD_assignComp (cl := []) (xs := pDrawn ns) (f := fun x => .d (.str x)) (g := fun x => encN (pStraight x)) ok ⟨rfl, by decide, rfl, by decide, rfl, by decide⟩ Caps.none (Mine.eD_name (by walk_at "mELK")) (.list _) (by lia) (fun C x hx => ?_)) (by rw [show (pLists ns).map encN = (pDrawn ns).map (fun x => encN (pStraight x)) from List.map_map ..])) ?_
      · have hr := rooted x hx
        exact (Mine.eD_callG2 (by assumption) (by walk_at "mEOK") (Mine.gF_law_straight w) (Mine.gK_law_straight w) (Mine.aD_cons (Mine.eD_name (by walk_at "mELK")) Mine.aD_nil) (cF_straight (by assumption) (by walk_at "mROOM") hr.1))
      refine d_cons (σ' := upd _ (Str.ofString "rows") (.d (.list ((pRows ns).map .str)))) (EvalX (xD_assignComp (cl := []) (xs := pDrawn ns) (f := fun x => .d (.str x)) (g := fun x => .str (pNorm x)) ok ⟨rfl, by decide, rfl, by decide, rfl, by decide⟩ Caps.none (Mine.eD_name (by walk_at "mELK")) (.list _) (by lia) (fun C x hx => ?_)) (by rw [show (pRows ns).map Dat.str = (pDrawn ns).map (fun x => Dat.str (pNorm x)) from List.map_map ..])) ?_
      · have hr := rooted x hx
        exact (Mine.eD_callG2 (by assumption) (by walk_at "mEOK") (Mine.gF_normpath w) (Mine.gK_normpath w) (Mine.aD_cons (Mine.eD_name (by walk_at "mELK")) Mine.aD_nil) (cF_normpath (by assumption) (by walk_at "mROOM") hr))
      generalize pRows ns = rows at *
      generalize pLists ns = lists at *
      have hrl : (rows.map Dat.str).length ≤ 1000000 := by rw [List.length_map]; lia
      have hrl2 : (rows.map Dat.str).length ≤ 16000000 := by rw [List.length_map]; lia
      have hll : (lists.map encN).length ≤ 1000000 := by rw [List.length_map]; lia
      have hlen : lists.length = rows.length := by lia
      have hkr : kqdOk 9 (.list (rows.map .str)) = true := by
        show (rows.map Dat.str).all (kqdOk 8) = true
        rw [List.all_eq_true]
        intro d hd
        obtain ⟨r, hr, rfl⟩ := List.mem_map.mp hd
        exact sok r hr
      refine d_if (bb := false) ok (testX (tT_cmp (Mine.eD_name (by walk_at "mELK")) (EvalD.to (d' := .d (.list (rows.map .str))) (eD_comp (cl := []) (xs := lists) (f := fun l => .d (encN l)) (g := fun l => .str (pSlash l)) ⟨rfl, by decide, rfl, by decide, rfl, by decide⟩ Caps.none (Mine.eD_name (by walk_at "mELK")) (.list _) (by lia) (fun C l hl => ?_)) (by rw [same, List.map_map]; rfl)) (tD_neD (bb := false) (rm.le (by decide)) hkr hkr ⟨fun h => (nomatch h), fun h => absurd rfl h⟩))) (fun h => (nomatch h)) (fun _ => d_nil ?_)
      · have hw := ll l hl
        have hj : (Txt.join (Str.ofString "/") l).length ≤ 16000 := Nat.le_trans (join_len (Str.ofString "/") l (by decide)) (by lia)
        have hww : wt l ≤ 200000 := by lia
        have hs1 : (Str.ofString "/").length = 1 := rfl
        exact eD_bin eD_str (eD_meth2 eD_str mt_join (aD_cons (Mine.eD_name (by walk_at "mELK")) aD_nil) (cD_join (by decide) hww)) (tD_addS (by lia))
      refine d_cons (xD_assign ok (Mine.eD_callG2 (by assumption) (by walk_at "mEOK") (Mine.gF_law_table w) (Mine.gK_law_table w) (Mine.aD_cons (Mine.eD_name (by walk_at "mELK")) Mine.aD_nil) (cF_table (by assumption) (by walk_at "mROOM") (by lia) (fun l hl => ⟨Nat.le_trans (len_wt _) (by have := ll l hl; lia), fun n hn => Nat.le_trans (mem_wt hn) (by have := ll l hl; lia)⟩) (by lia)))) ?_
      generalize pTable lists = table at *
      have htl : (table.map encE).length ≤ 1000000 := by rw [List.length_map]; lia
      have htl2 : (table.map encE).length ≤ 16000000 := by rw [List.length_map]; lia
      have hrows : ∀ x ∈ rows, x.length ≤ 100000 := fun x hx => by have := rl x hx; lia
      have htn : ∀ e ∈ table, e.2.2.2.length ≤ 100000 := fun e he => by have := (te e he).1; lia
      refine d_forR (a := 1) (b := ((rows.map Dat.str).length : Int) + 1) (fun i σ mu => (σ (Str.ofString "rows") = some (.d (.list (rows.map .str))) ∧ σ (Str.ofString "lists") = some (.d (.list (lists.map encN))) ∧ σ (Str.ofString "table") = some (.d (.list (table.map encE)))) ∧ mu = none) ok (Mine.eD_callT2 (T := "range") (by assumption) (by walk_at "mEOK") (Mine.gB_range w) rfl (Mine.aD_cons Mine.eD_int (Mine.aD_cons (Mine.eD_bin (Mine.eD_callB2 (id := "len") (by assumption) (by walk_at "mEOK") (Mine.gB_len w) rfl (Mine.aD_cons (Mine.eD_name (by walk_at "mELK")) Mine.aD_nil) (Mine.cD_len (by walk_at "mEBOUND"))) Mine.eD_int Mine.tD_addI) Mine.aD_nil)) Mine.cD_range2) (by lia) (by lia) (by decide) (by decide) ⟨⟨by walk_at "mELK", by walk_at "mELK", by walk_at "mELK"⟩, rfl⟩ ?_ ?_ ?_
      · rintro i σ mu ⟨_, rfl⟩; exact fun _ _ h => (nomatch h)
      · rintro i σ mu hi ⟨⟨q1, q2, q3⟩, rfl⟩
        have hi' : i < rows.length := by rw [List.length_map] at hi; lia
        have hget : (rows.map Dat.str)[((1 : Int) + (i : Int) - 1).toNat]? = some (.str (rows.getD i (Str.ofString ""))) := by
          rw [show ((1 : Int) + (i : Int) - 1).toNat = i by lia]; exact rowAt hi'
        have hrowl := rl _ (rowMem (rows := rows) (k := i) hi')
        have hag := fun col => agrees (1 + i) col (by lia) (by lia)
        rw [show 1 + i - 1 = i by lia] at hag
        generalize rows.getD i (Str.ofString "") = row at *
        have hrowl2 : row.length ≤ 16000000 := by lia
        refine d_forR (a := 0) (b := (row.length : Int) + 1) (fun j σ mu => (σ (Str.ofString "rows") = some (.d (.list (rows.map .str))) ∧ σ (Str.ofString "lists") = some (.d (.list (lists.map encN))) ∧ σ (Str.ofString "table") = some (.d (.list (table.map encE))) ∧ σ (Str.ofString "line") = some (.d (.int (1 + (i : Int))))) ∧ mu = none) ok (Mine.eD_callT2 (T := "range") (by assumption) (by walk_at "mEOK") (Mine.gB_range w) rfl (Mine.aD_cons (Mine.eD_bin (Mine.eD_callB2 (id := "len") (by assumption) (by walk_at "mEOK") (Mine.gB_len w) rfl (Mine.aD_cons (Mine.eD_sub (Mine.eD_name (by walk_at "mELK")) (Mine.eD_bin (Mine.eD_name (by walk_at "mELK")) Mine.eD_int Mine.tD_subI) (Mine.sD_item (by walk_at "mEBOUND") (by walk_at "mEGET") (by walk_at "mEBOUND"))) Mine.aD_nil) (Mine.cD_strlen (by walk_at "mEBOUND"))) Mine.eD_int Mine.tD_addI) Mine.aD_nil) Mine.cD_range1) (by lia) (by lia) (by decide) (by decide) ⟨⟨by walk_at "mELK", by walk_at "mELK", by walk_at "mELK", by walk_at "mELK"⟩, rfl⟩ ?_ ?_ ?_
        · rintro j σ mu ⟨_, rfl⟩; exact fun _ _ h => (nomatch h)
        · rintro j σ mu hj ⟨⟨r1, r2, r3, r4⟩, rfl⟩
          refine d_if (bb := false) ok (testX (EvalT (Mine.tT_not (Mine.tT_val (Mine.eD_callG2 (by assumption) (by walk_at "mEOK") (Mine.gF_law_agrees w) (Mine.gK_law_agrees w) (Mine.aD_cons (Mine.eD_name (by walk_at "mELK")) (Mine.aD_cons (Mine.eD_name (by walk_at "mELK")) (Mine.aD_cons (Mine.eD_name (by walk_at "mELK")) (Mine.aD_cons (Mine.eD_name (by walk_at "mELK")) Mine.aD_nil)))) (Mine.cF_agrees (line := 1 + i) (col := j) (by assumption) (by walk_at "mROOM") (by lia) (by lia) (hag j (by lia)) (by lia) hrows (by lia) htn)) Mine.trB)) rfl)) (fun h => (nomatch h)) (fun _ => d_nil ?_)
          exact d_nil ⟨_, _, rfl, ⟨by walk_at "mELK", by walk_at "mELK", by walk_at "mELK", by walk_at "mELK"⟩, rfl⟩
        · rintro σ mu ⟨⟨r1, r2, r3, r4⟩, rfl⟩
          exact d_nil ⟨_, _, rfl, ⟨by walk_at "mELK", by walk_at "mELK", by walk_at "mELK"⟩, rfl⟩
      · rintro σ mu ⟨⟨q1, q2, q3⟩, rfl⟩
        refine d_cons (xD_assignC ok (Mine.eD_callG2 (by assumption) (by walk_at "mEOK") (Mine.gF_law_taken_up w) (Mine.gK_law_taken_up w) (Mine.aD_cons (Mine.eD_name (by walk_at "mELK")) (Mine.aD_cons (Mine.eD_callB2 (id := "len") (by assumption) (by walk_at "mEOK") (Mine.gB_len w) rfl (Mine.aD_cons (Mine.eD_name (by walk_at "mELK")) Mine.aD_nil) (Mine.cD_len (by walk_at "mEBOUND"))) Mine.aD_nil)) (Mine.cF_taken (by assumption) (by walk_at "mROOM") (by rw [List.length_map]) n1 (by lia) hrows (by lia) place chain)) rfl rfl Mine.inj1) ?_
        have hkt : kqdOk 9 (.list (table.map encE)) = true := by
          show (table.map encE).all (kqdOk 8) = true
          rw [List.all_eq_true]
          intro d hd
          obtain ⟨e, he, rfl⟩ := List.mem_map.mp hd
          show [Dat.int e.1, .int e.2.1, .int e.2.2.1, .str e.2.2.2].all (kqdOk 7) = true
          have := (te e he).2
          simp only [List.all_cons, List.all_nil, Bool.and_true, kqdOk, Bool.true_and]
          exact this
        refine d_if (bb := false) ok (testX (Mine.tT_cmp (Mine.eD_name (by walk_at "mELK")) (Mine.eD_name (by walk_at "mELK")) (tD_neD (bb := false) (rm.le (by decide)) hkt hkt ⟨fun h => (nomatch h), fun h => absurd rfl h⟩))) (fun h => (nomatch h)) (fun _ => d_nil ?_)
        have hnm : ∀ k, ∀ x ∈ pNames table k, x.length ≤ 100000 := fun k x hx => by
          obtain ⟨e, he, rfl⟩ := List.mem_map.mp hx
          exact htn e (List.mem_filter.mp he).1
        have hnl : ∀ k, (pNames table k).length ≤ table.length := fun k => by
          unfold pNames
          rw [List.length_map]
          exact List.length_filter_le _ _
        refine d_if (bb := false) ok (testX (tT_cmp (EvalD.to (d' := .d (.list (rows.map .str))) (eD_compRC (cl := [(Str.ofString "taken", L + 1)]) (n := rows.length) (g := fun k => .str ((pNames table k).foldl jStep (Str.ofString "/"))) rfl rfl (by decide) (fun k => rfl) (fun h => rfl) rfl (by decide) (Caps.one (z := Str.ofString "taken") (by walk_at "mELK") (.inl rfl) (.inl rfl) rfl) rfl (EvalD.to (Mine.eD_callT2 (T := "range") (by assumption) (by walk_at "mEOK") (Mine.gB_range w) rfl (Mine.aD_cons (Mine.eD_callB2 (id := "len") (by assumption) (by walk_at "mEOK") (Mine.gB_len w) rfl (Mine.aD_cons (Mine.eD_name (by walk_at "mELK")) Mine.aD_nil) (Mine.cD_len (by walk_at "mEBOUND"))) Mine.aD_nil) Mine.cD_range1) (by rw [List.length_map])) (by lia) (fun C K k hk => ?_)) ?_) (Mine.eD_name (by walk_at "mELK")) (tD_neD (bb := false) (rm.le (by decide)) hkr hkr ⟨fun h => (nomatch h), fun h => absurd rfl h⟩))) (fun h => (nomatch h)) (fun _ => d_nil ?_)
        · refine eD_callStar ok (EnvOk.comp eo) (gF_join _) (gN_join _) eD_str (EvalD.to (d' := .d (.list ((pNames table k).map .str))) (eD_compT (cl := [(Str.ofString "at", K)]) (xs := table) (f := fun e => .d (encE e)) (g := fun e => .str e.2.2.2) (p := fun e => e.1 == (k : Int) + 1) ⟨rfl, by decide, rfl, by decide, rfl, by decide⟩ (Caps.one (z := Str.ofString "at") (by walk_at "mELK") (.inl rfl) (.inl rfl) rfl) (Mine.eD_name (by walk_at "mELK")) (.list _) (by lia) (fun C2 e he => ?_) (fun C2 e he _ => ?_)) (by unfold pNames; rw [List.map_map]; rfl)) (by rw [List.length_map]; have := hnl k; lia) ((in_join ok (by walk_at "mROOM") (by have := hnl k; lia) (joins k hk).2 (hnm k)).callD)
          · exact (Mine.tT_cmp (Mine.eD_sub (Mine.eD_name (by walk_at "mELK")) Mine.eD_int (Mine.sD_titem (by walk_at "mEBOUND") (by walk_at "mEGET") (by walk_at "mEBOUND"))) (Mine.eD_bin (Mine.eD_name (by walk_at "mELK")) Mine.eD_int Mine.tD_addI) Mine.tD_eqI)
          · exact (Mine.eD_sub (Mine.eD_name (by walk_at "mELK")) Mine.eD_int (Mine.sD_titem (by walk_at "mEBOUND") (by walk_at "mEGET") (by walk_at "mEBOUND")))
        · have e : (List.range rows.length).map (fun k => (pNames table k).foldl jStep (Str.ofString "/")) = rows := by
            refine List.ext_getElem (by rw [List.length_map, List.length_range]) fun i h1 h2 => ?_
            rw [List.getElem_map, List.getElem_range, (joins i h2).1, List.getD_eq_getElem?_getD, List.getElem?_eq_getElem h2]
            rfl
          rw [show (List.range rows.length).map (fun k => Dat.str ((pNames table k).foldl jStep (Str.ofString "/"))) = ((List.range rows.length).map (fun k => (pNames table k).foldl jStep (Str.ofString "/"))).map Dat.str from (List.map_map ..).symm, e]
        refine d_forR (a := 0) (b := ((rows.map Dat.str).length : Int)) (fun i σ mu => (σ (Str.ofString "rows") = some (.d (.list (rows.map .str))) ∧ σ (Str.ofString "lists") = some (.d (.list (lists.map encN)))) ∧ mu = none) ok (Mine.eD_callT2 (T := "range") (by assumption) (by walk_at "mEOK") (Mine.gB_range w) rfl (Mine.aD_cons (Mine.eD_callB2 (id := "len") (by assumption) (by walk_at "mEOK") (Mine.gB_len w) rfl (Mine.aD_cons (Mine.eD_name (by walk_at "mELK")) Mine.aD_nil) (Mine.cD_len (by walk_at "mEBOUND"))) Mine.aD_nil) Mine.cD_range1) (by lia) (by lia) (by decide) (by decide) ⟨⟨by walk_at "mELK", by walk_at "mELK"⟩, rfl⟩ ?_ ?_ ?_
        · rintro i σ mu ⟨_, rfl⟩; exact fun _ _ h => (nomatch h)
        · rintro i σ mu hi ⟨⟨t1, t2⟩, rfl⟩
          have hi' : i < rows.length := by rw [List.length_map] at hi; lia
          have hpair := pairs i hi'
          have hprev : pPrev rows.length i < rows.length := by unfold pPrev; split <;> lia
          have g1 : (rows.map Dat.str)[((0 : Int) + (i : Int)).toNat]? = some (.str (rows.getD i (Str.ofString ""))) := by
            rw [show ((0 : Int) + (i : Int)).toNat = i by lia]; exact rowAt hi'
          have gl : ∀ k, k < lists.length → (lists.map encN)[k]? = some (encN (lists.getD k [])) := fun k hk => by
            rw [List.getElem?_map, List.getElem?_eq_getElem hk, List.getD_eq_getElem?_getD, List.getElem?_eq_getElem hk]; rfl
          have g2 : (lists.map encN)[((0 : Int) + (i : Int)).toNat]? = some (encN (lists.getD i [])) := by
            rw [show ((0 : Int) + (i : Int)).toNat = i by lia]; exact gl i (by lia)
          refine d_if (bb := false) ok (testX (EvalT (tT_not (tT_val (eD_callG2 ok eo (gF_law_pair _) (gK_law_pair _) (aD_cons (Mine.eD_sub (Mine.eD_name (by walk_at "mELK")) (Mine.eD_name (by walk_at "mELK")) (Mine.sD_item (by walk_at "mEBOUND") (by walk_at "mEGET") (by walk_at "mEBOUND"))) (aD_cons ?pr (aD_cons (Mine.eD_sub (Mine.eD_name (by walk_at "mELK")) (Mine.eD_name (by walk_at "mELK")) (Mine.sD_item (by walk_at "mEBOUND") (by walk_at "mEGET") (by walk_at "mEBOUND"))) (aD_cons ?pl aD_nil)))) ((in_pair ok (by walk_at "mROOM") hpair).callD)) trB)) rfl)) (fun h => (nomatch h)) (fun _ => d_nil ?_)
          case pr =>
            by_cases h0 : i = 0
            · subst h0
              refine eD_sub (Mine.eD_name (by walk_at "mELK")) (EvalD.to (d' := .d (.int (-1))) (Mine.eD_bin (Mine.eD_name (by walk_at "mELK")) Mine.eD_int Mine.tD_subI) rfl) (sD_last ?_)
              rw [List.getLast?_eq_getElem?, List.length_map]
              exact rowAt (by lia)
            · refine eD_sub (Mine.eD_name (by walk_at "mELK")) (Mine.eD_bin (Mine.eD_name (by walk_at "mELK")) Mine.eD_int Mine.tD_subI) (sD_item (by lia) ?_ (by lia))
              rw [show ((0 : Int) + (i : Int) - 1).toNat = pPrev rows.length i by unfold pPrev; rw [if_neg h0]; lia]
              exact rowAt hprev
          case pl =>
            by_cases h0 : i = 0
            · subst h0
              refine eD_sub (Mine.eD_name (by walk_at "mELK")) (EvalD.to (d' := .d (.int (-1))) (Mine.eD_bin (Mine.eD_name (by walk_at "mELK")) Mine.eD_int Mine.tD_subI) rfl) (sD_last ?_)
              rw [List.getLast?_eq_getElem?, List.length_map, hlen]
              exact gl _ (by lia)
            · refine eD_sub (Mine.eD_name (by walk_at "mELK")) (Mine.eD_bin (Mine.eD_name (by walk_at "mELK")) Mine.eD_int Mine.tD_subI) (sD_item (by lia) ?_ (by lia))
              rw [show ((0 : Int) + (i : Int) - 1).toNat = pPrev rows.length i by unfold pPrev; rw [if_neg h0]; lia]
              exact gl _ (by lia)
          exact d_nil ⟨_, _, rfl, ⟨by walk_at "mELK", by walk_at "mELK"⟩, rfl⟩
        · rintro σ mu ⟨_, rfl⟩
          exact d_ret (xD_return ok Mine.eD_bool) rfl
