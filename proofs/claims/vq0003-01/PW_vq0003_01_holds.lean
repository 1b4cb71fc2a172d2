import PyProof.Rows.All
import Wide.All
import OpenK.AllK
import Wide.FinOn
import Lean
import PySem.Challenge.RW_vq0003_01
open PySem PySem.W PyProof.Rows PySem.Calls
set_option Elab.async false
set_option maxRecDepth 100000
set_option maxHeartbeats 4000000
namespace Mine
open_top hd for PySem.Challenge.rw_vq0003_01
end Mine
namespace Mine
theorem allLt_lt {d : Addr} {l : List (Addr × Obj)} (h : AllLt d l) (p : Addr × Obj) (hp : p ∈ l) : p.1 < d := by
  induction l with
  | nil => cases hp
  | cons q r ih =>
    rcases List.mem_cons.mp hp with e | hp
    · subst e; exact h.1
    · exact ih h.2 hp
theorem allLt_ne {d : Addr} {l : List (Addr × Obj)} (h : AllLt d l) : ∀ p ∈ l, p.1 ≠ d := fun p hp => Nat.ne_of_lt (allLt_lt h p hp)
theorem News.sub {h₀ h : Heap} {L : Addr} {l l' : List (Addr × Obj)} (N : News h₀ L h l) (s : ∀ p ∈ l', p ∈ l) : News h₀ L h l' := fun p hp => N p (s p hp)
end Mine
local macro_rules | `(tactic| k_room) => `(tactic| ((try simp only [depth_mark, depth_under_make, depth_under_kw, depth_in1, depth_deeper, depth_caller, recursionLimit]); omega))
local macro_rules | `(tactic| k_all) => `(tactic| first | with_reducible assumption | exact Mine.allLt_ne (by with_reducible assumption))
local macro_rules | `(tactic| k_enter) => `(tactic| (refine' code_def ?k1 ?k2 ?k3 ?k4 ?k5 ?kA ?kF ?kK ?k6 ?k7 ?k8 ?k9 ?kB ?_ ?c2 ?c3 ?c4 ?c5; (case kA => first | assumption | exact rfl); (case kF => first | assumption | exact rfl); (case kK => first | assumption | exact rfl); (case k1 => k_asm); (case k2 => k_asm); (case k3 => k_asm); (case k4 => k_asm); (case k5 => k_asm); (case k6 => k_is); (case k7 => k_is); (case k8 => k_room); (case k9 => first | exact BindsTo.of_eq rfl | exact binds_K (by k_in) rfl (by k_is) rfl rfl rfl | fail "k_enter: no rule for these arguments"); (case c5 => decide); (case kB => exact locs rfl); (case c2 => exact rfl); (case c3 => exact rfl); (case c4 => exact rfl); k_whole; intro g' L' h' FG' F' N' B' X' T'; (try dsimp only); (try k_lift B'); (try k_fold)))
local macro_rules | `(tactic| k_mem) => `(tactic| ((repeat (first | ((show (_ : Addr × Obj) ∈ (_ : List (Addr × Obj))); with_reducible assumption) | (refine' List.Mem.tail _ ?_))); done))
local macro_rules | `(tactic| ks_enter) => `(tactic| (refine' ks_code_super ?k1 ?k2 ?k3 ?k4 ?k5 ?kA ?kF ?kK ?k6 ?k7 ?k8 ?k9 ?kB ?_ ?c1 ?c2 ?c3 ?c4; (case kA => first | assumption | exact rfl); (case kF => first | assumption | exact rfl); (case kK => first | assumption | exact rfl); (case k1 => k_asm); (case k2 => k_asm); (case k3 => k_asm); (case k4 => k_asm); (case k5 => k_asm); (case k6 => k_is); (case k7 => k_is); (case k8 => k_room); (case k9 => first | exact BindsTo.of_eq rfl | exact binds_K (by k_in) rfl (by k_is) rfl rfl rfl); (case kB => exact locs rfl); (case c1 => decide); (case c2 => exact rfl); (case c3 => exact rfl); (case c4 => exact rfl); intro g' L' h' FG' F' N' B' X' T' l1; (try k_lt l1); (try dsimp only); (try k_lift B')))
local macro_rules | `(tactic| walk_at "wpAt func") => `(tactic| ((try dsimp only); first
  | (ks_step "execs cons"; refine ks_wpAt_execs_cons ?_)
  | (ks_step "exec Expr"; refine ks_wpAt_Expr_any ?_)
  | (ks_step "exec Return"; refine ks_wpAt_Return_some ?_)
  | (ks_step "exec Assign"; first | refine ks_wpAt_Assign_Name ?_ | refine ks_wpAt_Assign_Attr ?_)
  | (ks_step "eval Call"; refine ks_wpAt_MethodCall ?_)
  | (ks_step "attributeBase Call"; k_here; k_dflt (refine ks_node (by k_asm) (by k_asm) (by k_asm) (by k_asm) (by k_is) (by rfl) (by rfl) (by k_inst) (by k_is) (by rfl) (by first | rfl | decide +kernel) (by k_is) (by k_is) (by k_is) (by k_is) (by decide) (by rfl) (by rfl) (by rfl) (by rfl) (by decide +kernel) (by first | boot_by_name | rfl | kernel_rfl) ?_; intro so' h' F' N' l1; (try k_lt l1)))))
local macro_rules | `(tactic| k_allIn) => `(tactic| first | exact List.forall_mem_nil _ | (refine List.forall_mem_cons.mpr ⟨by k_memK, ?_⟩; k_allIn) | (intro p hp; k_ownIn))
local macro_rules | `(tactic| k_ownIn) => `(tactic| first | with_reducible assumption | (refine List.Mem.tail _ ?_; k_ownIn))
local macro_rules | `(tactic| walk_at "callWith ref") => `(tactic| (k_here; (with_reducible show wpAny _ _ (callWith _ (Value.ref _) _ (backTo _ (starEach [] _)) []) _ _ _); k_dflt (refine' callWith_K0 ?k1 ?k2 ?_; (case k1 => k_in); (case k2 => k_is); k_whole)))
local macro_rules | `(tactic| walk_at "callWith ref") => `(tactic| (k_here; (with_reducible show wpAny _ _ (callWith _ (Value.ref _) _ (backTo _ (starEach (_ :: _) _)) []) _ _ _); k_dflt (refine' callWith_K ?k1 ?k2 ?_; (case k1 => k_asm); (case k2 => k_is); k_whole)))
local macro_rules | `(tactic| walk_at "callWith ref") => `(tactic| (k_here; (with_reducible show wpAny _ _ (callWith _ (Value.ref _) _ (backTo _ (starEach [] _)) (backToKw _ _)) _ _ _); k_dflt (refine' callWith_KW0 ?k1 ?k2 ?k3 ?_; (case k1 => k_asm); (case k2 => k_is); (case k3 => exact rfl); k_whole)))
local macro_rules | `(tactic| walk_at "callWith ref") => `(tactic| (k_here; (with_reducible show wpAny _ _ (callWith _ (Value.ref _) _ (backTo _ (starEach (_ :: _) _)) (backToKw _ _)) _ _ _); k_dflt (refine' callWith_KW ?k1 ?k2 ?k3 ?_; (case k1 => k_asm); (case k2 => k_is); (case k3 => exact rfl); k_whole)))
local macro_rules | `(tactic| walk_at "newList cons") => `(tactic| (k_here; k_dflt (refine' newList_K ?k1 ?k2 ?_ ?z; (case z => exact Nat.le_of_ble_eq_true rfl); (case k1 => k_asm); (case k2 => k_asm); k_whole); intro l' h' F' N' l1; (try k_lt l1); (try k_sweep)))
local macro_rules | `(tactic| walk_at "subscriptTail Attribute") => `(tactic| (k_here; (with_reducible show wpAny _ _ (subscriptTail (PySem.Expr.Attribute _ _ _) _ (Value.ref _) _) _ _ _); k_dflt (refine kba_turn (value' := PySem.Expr.Name (PySem.Str.ofString "_") ⟨0, 0, 0, 0⟩) (fun _ => rfl) ?_)))
local macro_rules | `(tactic| walk_at "exec Raise some none") => `(tactic| (exfalso; omega))
local macro_rules | `(tactic| walk_at "eval Name") => `(tactic| (k_here; (with_reducible show wpAny _ _ (eval (PySem.Expr.Name _ _) _) _ _ _); k_dflt (refine' nameX_L ?F ?v ?_ ?a ?b; (case F => k_asm); (case a => rfl); (case b => rfl); (case v => rfl); k_whole)))
local macro_rules | `(tactic| walk_at "subscriptTail Attribute Name Name ref int") => `(tactic| (exfalso; omega))
namespace Mine
theorem conf_get {prog : Program} {w : World} {A : Around} {E : Value → Shared → Prop} {s : Shared} {K : Frag} {x C : Addr} {ox : Obj} {od : Option Obj} {name : Str} {expr : Bool} {g a : Addr} {Q : Value → Shared → Prop}
    (X : K.In s.heap) (I : InstAt s.heap x ox C od)
    (hga : findIn K (.ref C) "__getattribute__" = some (some (.builtin "tuple.__getattribute__")))
    (hsub : mroIn K C (.type "tuple") = some true) (hna : findIn K (.ref C) "__getattr__" = some none)
    (hf : findObj K C od name = some (.bind (.ref g) (.ref a)))
    (h : wpAny (model prog w) A.in1 (call (.ref g) [.ref a, .ref x, .ref C]) (fun v s' => handedIn v = true ∧ Q v s') (fun _ _ => False) { s with toks := s.toks + 1 }) :
    wpAny (model prog w) A (getAttr (.ref x) name expr) Q E s := by
  obtain ⟨hh, gg, d, t, os⟩ := s
  have L0 := I.type (M := model prog w)
  have L1 := looks_findIn (M := model prog w) X hga
  have L2 := looks_findIn (M := model prog w) X hna
  have L3 := looks_find (M := model prog w) X I hf
  have L4 := looks_mroIn (M := model prog w) X hsub
  unfold getAttr getAttrBy
  refine wpAny_bind (wpAny_mkText (wpAny_holding (wpAny_bind (L0.at (wpAny_bind (L1.at ?_))))))
  show wpAny _ _ (getAttrByItsOwn (.ref x) (.str name t) (.ref C) (.builtin "tuple.__getattribute__") true expr) _ _ _
  unfold getAttrByItsOwn hookBefore callGetattribute boundAndCalled
  refine wpAny_bind ?_
  show wpAny _ _ (typeLookup (.ref C) "__getattr__") _ _ _
  refine L2.at ?_
  refine wpAny_bind (wpAny_attempt (wpAny_holding ?_))
  have e1 : (expr && onTheHeap (.builtin "tuple.__getattribute__")) = false := by cases expr <;> rfl
  rw [e1]
  show wpAny _ _ (bindSpecial (.builtin "tuple.__getattribute__") (.ref x) >>= _) _ _ _
  refine wpAny_bind (wpAny_of_eq (PySem.F.slot_tuple_getattribute.bind _) ?_)
  show wpAny _ _ (call (.builtin "tuple.__getattribute__") [.ref x, .str name t]) _ _ _
  refine wpAny_call (codeAny_call_builtin PySem.F.slot_tuple_getattribute.plain am_entry_tuple_getattribute ?_)
  refine @check_slot (model prog w) _ _ _ "tuple.__getattribute__" "tuple" "__getattribute__" (.ref x) [.str name t] [] _ (by decide +kernel) (by decide +kernel) (L0.andThen L4) (PySem.F.args_tuple_getattribute_2 _ _) ?_
  unfold Builtin.«object.__getattribute__»
  refine wpAny_bind (wpAny_pure ?_)
  refine wpAny_bind (wpAny_pure ?_)
  refine wpAny_bind (L0.at ?_)
  refine wpAny_bind (L3.at ?_)
  show wpAny _ _ (holding [.ref a] (call (.ref g) [.ref a, .ref x, .ref C]) >>= ret) _ _ _
  refine wpAny_bind (wpAny_holding (wpAny_mono h (fun v s' z => wpAny_pure ?_) fun _ _ z => z.elim))
  show wpAny _ _ (handedOut v) _ _ _
  rw [handedOut_of z.1]; exact wpAny_pure z.2

abbrev confObj (cd : Addr) (order : Int) (t1 t2 t3 t4 : Tok) (ser : Addr) (n : Nat) : Obj := { cls := .ref 177, dict := some cd, data := .seq #[.int 128 t1, .int order t2, .int 2 t3, .int 1 t4, .ref ser] n }
theorem conf_inst {h : Heap} {x cd : Addr} {order : Int} {t1 t2 t3 t4 : Tok} {ser : Addr} {n : Nat} (h1 : h.get? x = some (confObj cd order t1 t2 t3 t4 ser n)) (h2 : h.get? cd = some (dictOf [] 0)) :
    InstAt h x (confObj cd order t1 t2 t3 t4 ser n) 177 (some (dictOf [] 0)) := ⟨h1, rfl, rfl, h2⟩
section
variable {prog : Program} {w : World} {A : Around} {E : Value → Shared → Prop} {s : Shared} {K : Frag} {C : Addr} {Q : Value → Shared → Prop}
theorem looks_isType {K : Frag} {M : Model} {h : Heap} (X : K.In h) {C : Addr} (e : isClsIn K C = true) : Looks M h (isType (.ref C)) true := by
  unfold isClsIn clsIn at e
  split at e
  · rename_i ho
    unfold isType
    exact (Looks.ld (X _ _ ho)).andThen .now
  · cases e
theorem issub_tuple (X : K.In s.heap) (hC : isClsIn K C = true) (hs : mroIn K C (.type "tuple") = some true)
    (h : Q (.bool true) s) : wpAny (model prog w) A (call (.builtin "issubclass") [.ref C, .type "tuple"]) Q E s := by
  refine call_issubclass (S := fun A R s' => s' = s ∧ R (.ok (.ret (.bool true))) s) (fun prog' w' A' R s' hs' => ?_) ⟨rfl, h⟩
  obtain ⟨rfl, hR⟩ := hs'
  refine issubclass_outer ?_
  have L1 := looks_isType (M := model prog' w') X hC
  have L2 := looks_mroIn (M := model prog' w') X hs
  unfold Builtin.«issubclass.nested»
  refine wpAny_bind (wpAny_pure ?_)
  rw [if_pos (by rfl)]
  refine wpAny_bind ?_
  wp_delta
  refine wpAny_bind (L1.at ?_)
  refine wpAny_bind (wpAny_pure ?_)
  rw [if_pos (by rfl)]
  refine L2.at ?_
  exact wpAny_pure hR
theorem tuple_item_sub {x cd : Addr} {order : Int} {t1 t2 t3 t4 : Tok} {ser : Addr} {n : Nat} {i : Nat} {u : Tok} {v : Value} (X : K.In s.heap) (h1 : s.heap.get? x = some (confObj cd order t1 t2 t3 t4 ser n)) (hs : mroIn K 177 (.type "tuple") = some true)
    (hv : (#[Value.int 128 t1, .int order t2, .int 2 t3, .int 1 t4, .ref ser] : Array Value)[i]? = some v) (h : Q v s) :
    wpAny (model prog w) A (call (.builtin "tuple.__getitem__") [.ref x, .int i u]) Q E s := by
  obtain ⟨hh, g, d, t, os⟩ := s
  have L0 : Looks (model prog w) hh (typeOf (.ref x)) (.ref 177) := (Looks.ld h1).andThen .now
  have L4 := looks_mroIn (M := model prog w) X hs
  refine wpAny_call (codeAny_call_builtin PySem.F.slot_tuple_getitem.plain PySem.F.entry_tuple_getitem ?_)
  refine @check_slot (model prog w) _ _ _ "tuple.__getitem__" "tuple" "__getitem__" (.ref x) [.int i u] [] _ (by decide +kernel) (by decide +kernel) (L0.andThen L4) (PySem.F.args_tuple_getitem_2 _ _) ?_
  have hi : i < 5 := by
    rcases Nat.lt_or_ge i 5 with q | q
    · exact q
    · rw [Array.getElem?_eq_none (by simpa using q)] at hv; cases hv
  have f1 := AutoSeq1.idx_int
  have hf : ¬ (decide ((i : Int) < -2 ^ 63) || decide ((i : Int) ≥ 2 ^ 63)) = true := by simp; omega
  have hk : seqIndex? (i : Int) 5 = some i := by
    unfold seqIndex?; simp; omega
  wp_walk using wpAny_loadPart' h1
  have hk' : (seqIndex? (i : Int) (#[Value.int 128 t1, .int order t2, .int 2 t3, .int 1 t4, .ref ser] : Array Value).size) = some i := hk
  rw [if_neg hf]
  simp only [hk', hv, Option.bind_some]
  exact wpAny_pure h
end
local macro_rules | `(tactic| walk_at "call type:type cons nil") => `(tactic| (k_here; k_dflt (refine' kto_own (conf_inst (News.get ?N ?h1) (News.get ?N2 ?h2)) ?_; (case N => with_reducible assumption); (case h1 => with_reducible assumption); (case N2 => with_reducible assumption); (case h2 => with_reducible assumption); walk_say "MINE type")))
local macro_rules | `(tactic| walk_at "call builtin:issubclass cons nil") => `(tactic| (k_here; k_dflt (refine' issub_tuple ?X ?c ?m ?_; (case X => k_in); (case c => k_is); (case m => k_is); walk_say "MINE issubclass")))
local macro_rules | `(tactic| walk_at "getMethod type:tuple") => `(tactic| (k_here; k_dflt (refine' method_type ?F ?X ?t ?s ?c ?h ?_; (case F => k_asm); (case X => k_asm); (case t => rfl); (case s => decide +kernel); (case c => k_is); (case h => decide +kernel); walk_say "MINE getMethod")))
section
variable {w : World} {A A₀ : Around} {base h₀ : Heap} {outer : List Env} {env : Env} {L : Addr} {m mg mb : Str → Option Value} {p : Program} {loose : List Str} {mean : ExcName → Option Value} {s : Shared} {R : Result → Shared → Prop}
  {x cd ser : Addr} {order : Int} {t1 t2 t3 t4 : Tok} {n : Nat} {news : List (Addr × Obj)}
local macro_rules | `(tactic| walk_at "call builtin:tuple.__getitem__ cons nil") => `(tactic| (k_here; k_dflt (refine' tuple_item_sub (i := 1) ?X (News.get ?N ?h1) ?m ?v ?_; (case X => k_in); (case N => with_reducible assumption); (case h1 => with_reducible assumption); (case m => k_is); (case v => rfl); walk_say "MINE item")))
theorem getter_order (B : Below A₀ base outer h₀) (F : Fr h₀ L s.heap m) (X : (hd.heap_39 w.params).In h₀) (T : Top p loose mean mg mb h₀) (N : News h₀ L s.heap news)
    (hA : A.frames = some (env :: outer)) (hf : env.frame = some L) (hke : env.scope.kind = .function) (hroom : A.depth < 900)
    (hx : (x, confObj cd order t1 t2 t3 t4 ser n) ∈ news) (hcd : (cd, dictOf [] 0) ∈ news)
    (k : ∀ h' tk, Fr h₀ L h' m → News h₀ L h' news → R (.ok (.ret (.int order t2))) { s with heap := h', toks := tk }) :
    codeAny (model PySem.Challenge.rw_vq0003_01.row.prog w) A (.call (.ref 79) ⟨[.ref 163, .ref x, .ref 177], []⟩) R s := by
  revert X; k_fill; intro X
  clear getter_order
  w_on
  k_enter
  k_steps
  refine k _ _ ?_ ?_ <;> assumption
theorem conf_order {Q : Value → Shared → Prop} {E : Value → Shared → Prop} {expr : Bool} (B : Below A₀ base outer h₀) (F : Fr h₀ L s.heap m) (X : (hd.heap_39 w.params).In h₀) (T : Top p loose mean mg mb h₀) (N : News h₀ L s.heap news)
    (hA : A.frames = some (env :: outer)) (hf : env.frame = some L) (hke : env.scope.kind = .function) (hroom : A.depth < 900)
    (hx : (x, confObj cd order t1 t2 t3 t4 ser n) ∈ news) (hcd : (cd, dictOf [] 0) ∈ news)
    (k : ∀ h' tk, Fr h₀ L h' m → News h₀ L h' news → Q (.int order t2) { s with heap := h', toks := tk }) :
    wpAny (model PySem.Challenge.rw_vq0003_01.row.prog w) A (getAttr (.ref x) (Str.ofString "order") expr) Q E s := by
  revert X; k_fill; intro X
  have X1 := Frag.In.keeps X (Fr.keep F)
  refine conf_get (g := 79) (a := 163) X1 (conf_inst (N _ hx).1 (N _ hcd).1) (by k_is) (by k_is) (by k_is) (findObj_data (by show isClsIn _ _ = true; k_is) (by k_is) (by k_is) (by k_is)) ?_
  refine wpAny_call (getter_order B F X T N hA hf hke hroom hx hcd fun h' tk F' N' => ⟨rfl, k _ _ F' N'⟩)
local macro_rules | `(tactic| walk_at "call builtin:tuple.__getitem__ cons nil") => `(tactic| (k_here; k_dflt (refine' tuple_item_sub (i := 2) ?X (News.get ?N ?h1) ?m ?v ?_; (case X => k_in); (case N => with_reducible assumption); (case h1 => with_reducible assumption); (case m => k_is); (case v => rfl); walk_say "MINE item")))
theorem getter_key_size (B : Below A₀ base outer h₀) (F : Fr h₀ L s.heap m) (X : (hd.heap_39 w.params).In h₀) (T : Top p loose mean mg mb h₀) (N : News h₀ L s.heap news)
    (hA : A.frames = some (env :: outer)) (hf : env.frame = some L) (hke : env.scope.kind = .function) (hroom : A.depth < 900)
    (hx : (x, confObj cd order t1 t2 t3 t4 ser n) ∈ news) (hcd : (cd, dictOf [] 0) ∈ news)
    (k : ∀ h' tk, Fr h₀ L h' m → News h₀ L h' news → R (.ok (.ret (.int 2 t3))) { s with heap := h', toks := tk }) :
    codeAny (model PySem.Challenge.rw_vq0003_01.row.prog w) A (.call (.ref 79) ⟨[.ref 166, .ref x, .ref 177], []⟩) R s := by
  revert X; k_fill; intro X
  clear getter_key_size
  w_on
  k_enter
  k_steps
  refine k _ _ ?_ ?_ <;> assumption
theorem conf_key_size {Q : Value → Shared → Prop} {E : Value → Shared → Prop} {expr : Bool} (B : Below A₀ base outer h₀) (F : Fr h₀ L s.heap m) (X : (hd.heap_39 w.params).In h₀) (T : Top p loose mean mg mb h₀) (N : News h₀ L s.heap news)
    (hA : A.frames = some (env :: outer)) (hf : env.frame = some L) (hke : env.scope.kind = .function) (hroom : A.depth < 900)
    (hx : (x, confObj cd order t1 t2 t3 t4 ser n) ∈ news) (hcd : (cd, dictOf [] 0) ∈ news)
    (k : ∀ h' tk, Fr h₀ L h' m → News h₀ L h' news → Q (.int 2 t3) { s with heap := h', toks := tk }) :
    wpAny (model PySem.Challenge.rw_vq0003_01.row.prog w) A (getAttr (.ref x) (Str.ofString "key_size") expr) Q E s := by
  revert X; k_fill; intro X
  have X1 := Frag.In.keeps X (Fr.keep F)
  refine conf_get (g := 79) (a := 166) X1 (conf_inst (N _ hx).1 (N _ hcd).1) (by k_is) (by k_is) (by k_is) (findObj_data (by show isClsIn _ _ = true; k_is) (by k_is) (by k_is) (by k_is)) ?_
  refine wpAny_call (getter_key_size B F X T N hA hf hke hroom hx hcd fun h' tk F' N' => ⟨rfl, k _ _ F' N'⟩)
end
end Mine
local macro_rules | `(tactic| walk_at "getAttr ref true") => `(tactic| (k_here; (with_reducible show wpAny _ _ (getAttr (Value.ref _) (Str.ofString "order") _) _ _ _); k_dflt (refine' Mine.conf_order ?B ?F ?X ?T ?N ?A ?f ?k ?room ?hx ?hcd ?_; (case A => first | assumption | exact rfl); (case f => first | assumption | exact rfl); (case k => first | assumption | exact rfl); (case B => k_asm); (case F => k_asm); (case X => k_asm); (case T => k_asm); (case N => k_asm); (case hx => k_mem); (case hcd => k_mem); (case room => k_room); k_whole); intro h' tk' F' N'; (try k_sweep); walk_say "MINE conf"))
local macro_rules | `(tactic| walk_at "getAttr ref true") => `(tactic| (k_here; (with_reducible show wpAny _ _ (getAttr (Value.ref _) (Str.ofString "key_size") _) _ _ _); k_dflt (refine' Mine.conf_key_size ?B ?F ?X ?T ?N ?A ?f ?k ?room ?hx ?hcd ?_; (case A => first | assumption | exact rfl); (case f => first | assumption | exact rfl); (case k => first | assumption | exact rfl); (case B => k_asm); (case F => k_asm); (case X => k_asm); (case T => k_asm); (case N => k_asm); (case hx => k_mem); (case hcd => k_mem); (case room => k_room); k_whole); intro h' tk' F' N'; (try k_sweep); walk_say "MINE conf"))
namespace Mine
abbrev refDict (P : Params) (t0 t1 t2 t3 t4 tl : Tok) (conf : Addr) (vk vb va : Value) : Obj :=
  dictOf [⟨PyData.keyHash P (Str.ofString "_tree_conf"), .str (Str.ofString "_tree_conf") t0, .ref conf⟩, ⟨PyData.keyHash P (Str.ofString "length"), .str (Str.ofString "length") t1, .int 12 tl⟩,
    ⟨PyData.keyHash P (Str.ofString "key"), .str (Str.ofString "key") t2, vk⟩, ⟨PyData.keyHash P (Str.ofString "before"), .str (Str.ofString "before") t3, vb⟩, ⟨PyData.keyHash P (Str.ofString "after"), .str (Str.ofString "after") t4, va⟩] 5
section
variable {w : World} {A A₀ : Around} {base h₀ : Heap} {outer : List Env} {env : Env} {L : Addr} {m mg mb : Str → Option Value} {p : Program} {loose : List Str} {mean : ExcName → Option Value} {s : Shared}
  {conf cd ser : Addr} {order : Int} {t1 t2 t3 t4 : Tok} {n : Nat} {news : List (Addr × Obj)} {vk vb va : Value} {Q E : Value → Shared → Prop}
theorem ref_new (B : Below A₀ base outer h₀) (F : Fr h₀ L s.heap m) (X : (hd.heap_39 w.params).In h₀) (T : Top p loose mean mg mb h₀) (N : News h₀ L s.heap news)
    (hA : A.frames = some (env :: outer)) (hf : env.frame = some L) (hke : env.scope.kind = .function) (hroom : A.depth < 800)
    (hx : (conf, confObj cd order t1 t2 t3 t4 ser n) ∈ news) (hcd : (cd, dictOf [] 0) ∈ news)
    (k : ∀ x dx h' tk u0 u1 u2 u3 u4 ul, Fr h₀ L h' m → News h₀ L h' ((x, instObj 328 dx) :: (dx, refDict w.params u0 u1 u2 u3 u4 ul conf vk vb va) :: news) → (∀ p ∈ news, p.1 < dx) → dx < x → Q (.ref x) { s with heap := h', toks := tk }) :
    wpAny (model PySem.Challenge.rw_vq0003_01.row.prog w) A (call (.ref 328) [.ref conf, vk, vb, va]) Q E s := by
  revert X; k_fill; intro X
  clear ref_new
  obtain ⟨hd', dp', fr', gd', un'⟩ := A
  dsimp only at hA hroom
  subst hA
  w_on
  k_steps
  refine' k _ _ _ _ _ _ _ _ _ _ ?F ?N ?l ?d
  case F => assumption
  case N => assumption
  case l => first | assumption | exact allLt_lt (by assumption)
  case d => assumption
theorem ref_newK (B : Below A₀ base outer h₀) (F : Fr h₀ L s.heap m) (X : (hd.heap_39 w.params).In h₀) (T : Top p loose mean mg mb h₀) (N : News h₀ L s.heap news)
    (hA : A.frames = some (env :: outer)) (hf : env.frame = some L) (hke : env.scope.kind = .function) (hroom : A.depth < 800)
    (hx : (conf, confObj cd order t1 t2 t3 t4 ser n) ∈ news) (hcd : (cd, dictOf [] 0) ∈ news)
    (k : ∀ x dx h' tk u0 u1 u2 u3 u4 ul, Fr h₀ L h' m → News h₀ L h' ((x, instObj 328 dx) :: (dx, refDict w.params u0 u1 u2 u3 u4 ul conf vk .none .none) :: news) → (∀ p ∈ news, p.1 < dx) → dx < x → Q (.ref x) { s with heap := h', toks := tk }) :
    wpAny (model PySem.Challenge.rw_vq0003_01.row.prog w) A (call (.ref 328) [.ref conf] [(Str.ofString "key", vk)]) Q E s := by
  revert X; k_fill; intro X
  clear ref_newK
  obtain ⟨hd', dp', fr', gd', un'⟩ := A
  dsimp only at hA hroom
  subst hA
  w_on
  k_steps
  refine' k _ _ _ _ _ _ _ _ _ _ ?F ?N ?l ?d
  case F => assumption
  case N => assumption
  case l => first | assumption | exact allLt_lt (by assumption)
  case d => assumption
end
end Mine
namespace Mine
section
variable {prog : Program} {w : World} {A : Around} {E : Value → Shared → Prop} {s : Shared} {h₀ : Heap} {L : Addr} {m : Str → Option Value} {news : List (Addr × Obj)}
theorem typeCall_list_0 : checkTypeCall "list" ⟨[], []⟩ = pure () := by kernel_rfl
theorem newCall_list_0 : checkBuiltinCall "list.__new__" ⟨[.type "list"], []⟩ = pure () := by kernel_rfl
theorem args_list_init_1 (a : Value) : argsOk "list.__init__" ⟨[a], []⟩ := by unfold argsOk; kernel_rfl
theorem code_list_new0 {Q₁ : Value → Shared → Prop}
    (h : Q₁ (.ref s.heap.objs.size) { s with heap := s.heap.push { cls := .type "list", data := .seq #[] } }) :
    codeAny (model prog w) A (.call (.builtin "list.__new__") ⟨[.type "list"], []⟩) (wants Q₁ E) s := by
  refine codeAny_of_tree ?_
  show wpAny _ A.in1 (do checkBuiltinCall "list.__new__" ⟨[.type "list"], []⟩; again (.builtin "list.__new__" ⟨[.type "list"], []⟩)) _ _ s
  refine wpAny_bind (wpAny_of_eq newCall_list_0 (wpAny_pure ⟨plainId_quiet F.plain_list_new _, codeAny_builtin_stack F.entry_list_new rfl fun p st => ?_⟩))
  rw [Around.under_plainId F.plain_list_new _]
  have hsub := sub_list_self
  have hown := owner_list_new
  obtain ⟨hp, g, d, tk, os⟩ := s
  simp only [hown]
  wp_walk
  exact h
theorem call_list0 {Q : Value → Shared → Prop} (F : Fr h₀ L s.heap m) (N : News h₀ L s.heap news)
    (h : ∀ D c h', Fr h₀ L h' m → News h₀ L h' ((D, listOf #[] c) :: news) → (∀ q ∈ news, q.1 < D) → Q (.ref D) { s with heap := h' }) :
    wpAny (model prog w) A (call (.type "list") []) Q E s := by
  refine callType_codes (Q₁ := fun obj s₁ => obj = .ref s.heap.objs.size ∧ s₁ = { s with heap := s.heap.push { cls := .type "list", data := .seq #[] } }) PySem.F.called_list typeCall_list_0 PySem.F.entry_list_init
    (code_list_new0 ⟨rfl, rfl⟩) fun obj s₁ h₁ => ?_
  obtain ⟨rfl, rfl⟩ := h₁
  have hS : (s.heap.push { cls := .type "list", data := .seq #[] }).get? s.heap.objs.size = some { cls := .type "list", data := .seq #[] } := Heap.get?_push_size _ rfl
  refine ⟨⟨_, hS, rfl⟩, args_list_init_1 _, ?_⟩
  show wpAny _ A.in1.in1 (do let old ← Builtin.List.listItems (.ref s.heap.objs.size); Builtin.List.listUpdate (.ref s.heap.objs.size) (fun _ => #[]); letGo old.toList.reverse; ret .none) _ _ _
  refine wpAny_bind ?_
  unfold Builtin.List.listItems
  refine wpAny_bind (wpAny_seqItems hS rfl (wpAny_pure ?_))
  show wpAny _ _ (updateSeq s.heap.objs.size (fun _ => #[]) >>= fun _ => letGo (#[] : Array Value).toList.reverse >>= fun _ => ret .none) _ _ _
  refine wpAny_bind (wpAny_updateSeq hS rfl ?_)
  refine wpAny_bind (wpAny_letGo ?_)
  have hS₂ := Heap.get?_update_self (Obj.mapSeq (fun _ => (#[] : Array Value))) hS rfl
  have hk : ∀ b o, s.heap.get? b = some o → ((s.heap.push { cls := .type "list", data := .seq #[] }).update s.heap.objs.size (Obj.mapSeq (fun _ => (#[] : Array Value)))).get? b = some o := fun b o e => by
    have hb : b ≠ s.heap.objs.size := fun e' => Nat.lt_irrefl _ (e' ▸ Heap.lt_size e)
    exact (Heap.get?_update_other _ _ (Ne.symm hb)).trans (Heap.get?_push_of_some _ e)
  refine wpAny_pure ⟨rfl, ?_⟩
  exact h _ _ _ (F.keeps hk) (news_pushed F N hk hS₂ rfl) fun q hq => Heap.lt_size (N q hq).1
end
section
variable {prog : Program} {w : World} {A : Around} {E : Value → Shared → Prop} {s : Shared}
theorem fin_of {x : UInt64} (h1 : ¬ Float64.isNaN x = true) (h2 : ¬ Float64.isInf x = true) : ¬ Float64.isInf x = true ∧ ∃ sg m e, Float64.decode x = .fin sg m e := by
  refine ⟨h2, ?_⟩
  rcases PySem.Flt.three x with ⟨hd, c⟩ | ⟨_, hd, c⟩ | ⟨sg, m, e, hd, c⟩
  · exact absurd c h1
  · exact absurd c h2
  · exact ⟨_, _, _, hd⟩
theorem half_fits {o : Int} (h : 3 ≤ o ∧ o ≤ 6) : ¬ Float64.isInf (Float64.ofFrac (decide (o < 0) != decide ((2 : Int) < 0)) o.natAbs (2 : Int).natAbs) = true ∧
    ∃ sg m e, Float64.decode (Float64.ofFrac (decide (o < 0) != decide ((2 : Int) < 0)) o.natAbs (2 : Int).natAbs) = .fin sg m e := by
  have : o = 3 ∨ o = 4 ∨ o = 5 ∨ o = 6 := by omega
  rcases this with rfl | rfl | rfl | rfl
  all_goals exact fin_of (by decide +kernel) (by decide +kernel)
theorem div_half {o : Int} {t u : Tok} {Q : Value → Shared → Prop} (ho : 3 ≤ o ∧ o ≤ 6) (h : ∀ x, (∃ sg m e, Float64.decode x = .fin sg m e) → Q (.float x s.toks) { s with toks := s.toks + 1 }) :
    wpAny (model prog w) A (binaryOp .Div (.int o t) (.int 2 u)) Q E s :=
  AutoIntOps.truediv_2 (by decide) (half_fits ho).1 (h _ (half_fits ho).2)
theorem ceil_fin {x : UInt64} {t : Tok} {Q : Value → Shared → Prop} (hd : ∃ sg m e, Float64.decode x = .fin sg m e) (h : ∀ n, Q (.int n s.toks) { s with toks := s.toks + 1 }) :
    wpAny (model prog w) A (call (.builtin "math.ceil") [.float x t]) Q E s := by
  obtain ⟨_, _, _, hd⟩ := hd
  exact PySem.Flt.call_fn_gives PySem.Flt.kind_ceil PySem.Flt.plain_ceil PySem.Flt.entry_ceil (PySem.Flt.args_ceil _) (PySem.Flt.gives_mceil t hd) (h _)
end
end Mine
local macro_rules | `(tactic| walk_at "binaryOp Div int int") => `(tactic| (k_here; k_dflt (refine' Mine.div_half ?ho ?_; (case ho => assumption); k_whole); intro x' hx'; walk_say "MINE half"))
local macro_rules | `(tactic| walk_at "call builtin:math.ceil cons nil") => `(tactic| (k_here; k_dflt (refine' Mine.ceil_fin ?ho ?_; (case ho => assumption); k_whole); intro n'; walk_say "MINE ceil"))
local macro_rules | `(tactic| walk_at "call type:list nil nil") => `(tactic| (k_here; k_dflt (refine' Mine.call_list0 ?k1 ?k2 ?_; (case k1 => k_asm); (case k2 => k_asm); k_whole); intro D' c' h' F' N' l1; (try k_lt l1); (try k_sweep); walk_say "MINE list()"))
namespace Mine
abbrev nodeDict (P : Params) (u0 u1 u2 u3 u4 u5 u6 u7 u8 : Tok) (nt mn mx : Value) (conf ents : Addr) (page : Value) : Obj :=
  dictOf [⟨PyData.keyHash P (Str.ofString "_node_type_int"), .str (Str.ofString "_node_type_int") u0, nt⟩, ⟨PyData.keyHash P (Str.ofString "min_children"), .str (Str.ofString "min_children") u1, mn⟩,
    ⟨PyData.keyHash P (Str.ofString "max_children"), .str (Str.ofString "max_children") u2, mx⟩, ⟨PyData.keyHash P (Str.ofString "_entry_class"), .str (Str.ofString "_entry_class") u3, .ref 328⟩,
    ⟨PyData.keyHash P (Str.ofString "_tree_conf"), .str (Str.ofString "_tree_conf") u4, .ref conf⟩, ⟨PyData.keyHash P (Str.ofString "entries"), .str (Str.ofString "entries") u5, .ref ents⟩,
    ⟨PyData.keyHash P (Str.ofString "page"), .str (Str.ofString "page") u6, page⟩, ⟨PyData.keyHash P (Str.ofString "parent"), .str (Str.ofString "parent") u7, .none⟩,
    ⟨PyData.keyHash P (Str.ofString "next_page"), .str (Str.ofString "next_page") u8, .none⟩] 9
/-- a node's dict: its type's number, its order, its conf, the list of its entries, its page -/
def IsNode (P : Params) (nt mx : Int) (conf ents : Addr) (page : Value) (o : Obj) : Prop :=
  ∃ u0 u1 u2 u3 u4 u5 u6 u7 u8 tn mn tx, o = nodeDict P u0 u1 u2 u3 u4 u5 u6 u7 u8 (.int nt tn) mn (.int mx tx) conf ents page
theorem IsNode.mk {P : Params} {nt mx : Int} {conf ents : Addr} {page : Value} {u0 u1 u2 u3 u4 u5 u6 u7 u8 tn tx : Tok} {mn : Value} : IsNode P nt mx conf ents page (nodeDict P u0 u1 u2 u3 u4 u5 u6 u7 u8 (.int nt tn) mn (.int mx tx) conf ents page) :=
  ⟨_, _, _, _, _, _, _, _, _, _, _, _, rfl⟩
section
variable {w : World} {A A₀ : Around} {base h₀ : Heap} {outer : List Env} {env : Env} {L : Addr} {m mg mb : Str → Option Value} {p : Program} {loose : List Str} {mean : ExcName → Option Value} {s : Shared}
  {conf cd ser : Addr} {order : Int} {t1 t2 t3 t4 : Tok} {n : Nat} {news : List (Addr × Obj)} {vp : Value} {Q E : Value → Shared → Prop}
theorem root_new (B : Below A₀ base outer h₀) (F : Fr h₀ L s.heap m) (X : (hd.heap_39 w.params).In h₀) (T : Top p loose mean mg mb h₀) (N : News h₀ L s.heap news)
    (hA : A.frames = some (env :: outer)) (hf : env.frame = some L) (hke : env.scope.kind = .function) (hroom : A.depth < 800)
    (hx : (conf, confObj cd order t1 t2 t3 t4 ser n) ∈ news) (hcd : (cd, dictOf [] 0) ∈ news)
    (k : ∀ x dx el c o h' tk, Fr h₀ L h' m → News h₀ L h' ((el, listOf #[] c) :: (x, instObj 553 dx) :: (dx, o) :: news) → IsNode w.params 2 order conf el vp o → (∀ p ∈ news, p.1 < dx) → dx < x → x < el → Q (.ref x) { s with heap := h', toks := tk }) :
    wpAny (model PySem.Challenge.rw_vq0003_01.row.prog w) A (call (.ref 553) [.ref conf] [(Str.ofString "page", vp)]) Q E s := by
  revert X; k_fill; intro X
  clear root_new
  obtain ⟨hd', dp', fr', gd', un'⟩ := A
  dsimp only at hA hroom
  subst hA
  w_on
  k_steps
  refine' k _ _ _ _ _ _ _ ?F ?N IsNode.mk ?l ?d ?e
  case F => with_reducible assumption
  case N => exact News.sub (by with_reducible assumption) (by k_allIn)
  case l => first | assumption | exact allLt_lt (by assumption)
  case d => assumption
  case e => (refine ltN ?_; omega)
theorem inner_new (B : Below A₀ base outer h₀) (F : Fr h₀ L s.heap m) (X : (hd.heap_39 w.params).In h₀) (T : Top p loose mean mg mb h₀) (N : News h₀ L s.heap news)
    (hA : A.frames = some (env :: outer)) (hf : env.frame = some L) (hke : env.scope.kind = .function) (hroom : A.depth < 800)
    (hx : (conf, confObj cd order t1 t2 t3 t4 ser n) ∈ news) (hcd : (cd, dictOf [] 0) ∈ news) (ho : 3 ≤ order ∧ order ≤ 6)
    (k : ∀ x dx el c o h' tk, Fr h₀ L h' m → News h₀ L h' ((el, listOf #[] c) :: (x, instObj 575 dx) :: (dx, o) :: news) → IsNode w.params 3 order conf el vp o → (∀ p ∈ news, p.1 < dx) → dx < x → x < el → Q (.ref x) { s with heap := h', toks := tk }) :
    wpAny (model PySem.Challenge.rw_vq0003_01.row.prog w) A (call (.ref 575) [.ref conf] [(Str.ofString "page", vp)]) Q E s := by
  revert X; k_fill; intro X
  clear inner_new
  obtain ⟨hd', dp', fr', gd', un'⟩ := A
  dsimp only at hA hroom
  subst hA
  w_on
  k_steps
  refine' k _ _ _ _ _ _ _ ?F ?N IsNode.mk ?l ?d ?e
  case F => with_reducible assumption
  case N => exact News.sub (by with_reducible assumption) (by k_allIn)
  case l => first | assumption | exact allLt_lt (by assumption)
  case d => assumption
  case e => (refine ltN ?_; omega)
end
end Mine
namespace Mine
/-- a reference's dict whose key is k -/
def IsKey (P : Params) (k : Int) (o : Obj) : Prop := ∃ u0 u1 u2 u3 u4 ul c q vb va, o = refDict P u0 u1 u2 u3 u4 ul c (.int k q) vb va
section
variable {w : World} {A A₀ : Around} {base h₀ : Heap} {outer : List Env} {env : Env} {L : Addr} {m mg mb : Str → Option Value} {p : Program} {loose : List Str} {mean : ExcName → Option Value} {s : Shared} {R : Result → Shared → Prop}
  {news : List (Addr × Obj)} {a1 d1 a2 d2 : Addr} {o1 o2 : Obj} {k1 k2 : Int}
theorem lt_c (B : Below A₀ base outer h₀) (F : Fr h₀ L s.heap m) (X : (hd.heap_39 w.params).In h₀) (T : Top p loose mean mg mb h₀) (N : News h₀ L s.heap news)
    (hA : A.frames = some (env :: outer)) (hf : env.frame = some L) (hke : env.scope.kind = .function) (hroom : A.depth < 900)
    (h1 : (a1, instObj 328 d1) ∈ news) (g1 : (d1, o1) ∈ news) (r1 : IsKey w.params k1 o1) (h2 : (a2, instObj 328 d2) ∈ news) (g2 : (d2, o2) ∈ news) (r2 : IsKey w.params k2 o2)
    (k : ∀ h' tk, Fr h₀ L h' m → News h₀ L h' news → R (.ok (.ret (.bool (decide (k1 < k2))))) { s with heap := h', toks := tk }) :
    codeAny (model PySem.Challenge.rw_vq0003_01.row.prog w) A (.call (.ref 220) ⟨[.ref a1, .ref a2], []⟩) R s := by
  obtain ⟨_, _, _, _, _, _, _, _, _, _, rfl⟩ := r1
  obtain ⟨_, _, _, _, _, _, _, _, _, _, rfl⟩ := r2
  revert X; k_fill; intro X
  w_on
  k_enter
  k_steps
  refine k _ _ ?_ ?_ <;> with_reducible assumption
theorem eq_c (B : Below A₀ base outer h₀) (F : Fr h₀ L s.heap m) (X : (hd.heap_39 w.params).In h₀) (T : Top p loose mean mg mb h₀) (N : News h₀ L s.heap news)
    (hA : A.frames = some (env :: outer)) (hf : env.frame = some L) (hke : env.scope.kind = .function) (hroom : A.depth < 900)
    (h1 : (a1, instObj 328 d1) ∈ news) (g1 : (d1, o1) ∈ news) (r1 : IsKey w.params k1 o1) (h2 : (a2, instObj 328 d2) ∈ news) (g2 : (d2, o2) ∈ news) (r2 : IsKey w.params k2 o2)
    (k : ∀ h' tk, Fr h₀ L h' m → News h₀ L h' news → R (.ok (.ret (.bool (k1 == k2)))) { s with heap := h', toks := tk }) :
    codeAny (model PySem.Challenge.rw_vq0003_01.row.prog w) A (.call (.ref 213) ⟨[.ref a1, .ref a2], []⟩) R s := by
  obtain ⟨_, _, _, _, _, _, _, _, _, _, rfl⟩ := r1
  obtain ⟨_, _, _, _, _, _, _, _, _, _, rfl⟩ := r2
  revert X; k_fill; intro X
  w_on
  k_enter
  k_steps
  refine k _ _ ?_ ?_ <;> with_reducible assumption
end
end Mine
namespace Mine
section
variable {prog : Program} {w : World} {A : Around} {E : Value → Shared → Prop} {s : Shared} {R : Result → Shared → Prop} {el x : Addr} {items : Array Value} {n : Nat}
theorem entry_insort : entryFor table "_bisect.insort_right" = some Builtin.«_bisect.insort_right» := entryFor_of_tree (by kernel_rfl)
theorem entry_bisl : entryFor table "_bisect.bisect_left" = some Builtin.«_bisect.bisect_left» := entryFor_of_tree (by kernel_rfl)
theorem entry_bloop : entryFor table "_bisect.bisect_right.loop" = some Builtin.«_bisect.bisect_right.loop» := entryFor_of_tree (by kernel_rfl)
theorem kind_insort : builtinKind "_bisect.insort_right" = none := by decide +kernel
theorem plain_insort : plainId "_bisect.insort_right" = true := by decide +kernel
theorem args_insort (a b : Value) : argsOk "_bisect.insort_right" ⟨[a, b], []⟩ := by unfold argsOk; kernel_rfl
theorem kind_bisl : builtinKind "_bisect.bisect_left" = none := by decide +kernel
theorem plain_bisl : plainId "_bisect.bisect_left" = true := by decide +kernel
theorem args_bisl (a b : Value) : argsOk "_bisect.bisect_left" ⟨[a, b], []⟩ := by unfold argsOk; kernel_rfl
theorem run_len (hel : s.heap.get? el = some { cls := .type "list", data := .seq items n }) (hfit : (items.size : Int) < 2 ^ 63)
    (h : R (.ok (.ret (.int items.size (s.toks + 1)))) { s with toks := s.toks + 1 + 1 }) : codeAny (model prog w) A (.builtin "len" ⟨[.ref el], []⟩) R s := by
  have hl : s.heap.IsList el items := ⟨_, hel, rfl, _, rfl⟩
  refine codeAny_builtin entry_len ?_
  rw [Around.under_plain (show (Code.builtin "len" ⟨[.ref el], []⟩).weight = 0 from rfl) rfl]
  refine wpAny_mono (Q := fun fin s' => fin = .done (.ret (.int items.size (s.toks + 1))) ∧ s' = { s with toks := s.toks + 1 + 1 }) (E := fun _ _ => False) ?_ (fun fin s' hq => ?_) fun _ _ z => z.elim
  · unfold Builtin.«len»
    refine wpAny_bind (m := oneArg "len" _) (wpAny_pure ?_)
    refine wpAny_bind (m := callSpecial? (.ref el) (Str.ofString "__len__")) (wpAny_callSpecial?_slot (name := Str.ofString "__len__") hl.typeIs slot_list_len
      (wpAny_call_entry slot_list_len hl.typeIs entry_list_len ?_ (args_list_len _)))
    show wpAny _ _ (do retInt (← seqSize el)) _ _ s
    unfold seqSize
    refine wpAny_bind (wpAny_bind (wpAny_load hel ?_))
    refine wpAny_pure (wpAny_bind (wpAny_mkInt (wpAny_pure ⟨_, rfl, ?_⟩)))
    refine wpAny_bind (wpAny_holding (wpAny_pure ?_))
    refine wpAny_bind (wpAny_letGo ?_)
    show wpAny _ _ (if ((items.size : Nat) : Int) < 0 then _ else _) _ _ _
    rw [if_neg (by omega)]
    show wpAny _ _ (if ((items.size : Nat) : Int) ≥ 2 ^ 63 then _ else _) _ _ _
    rw [if_neg (by omega)]
    exact wpAny_bind (wpAny_mkInt (wpAny_pure ⟨rfl, rfl⟩))
  · obtain ⟨rfl, rfl⟩ := hq
    exact h
theorem bis_gen : ∃ f : String → Bool → Bool → Builtin, f "insort_right" true true = Builtin.«_bisect.insort_right» ∧ f "bisect_left" false false = Builtin.«_bisect.bisect_left» ∧
    ∀ (fname : String) (right insort : Bool) {prog : Program} {w : World} {A : Around} {s : Shared} {R : Result → Shared → Prop} {el x : Addr} {items : Array Value} {n : Nat},
      s.heap.get? el = some { cls := .type "list", data := .seq items n } → (items.size : Int) < 2 ^ 62 →
      (∀ tk, codeAny (model prog w) A (.builtin "_bisect.bisect_right.loop" ⟨[.ref el, .ref x, rawInt 0, rawInt items.size, .none, .bool right, .bool true, if insort then .ref x else rawInt 0], []⟩) R { s with toks := tk }) →
      wpAny (model prog w) A.in1 (f fname right insort ⟨[.ref el, .ref x], []⟩)
        (fun fin s' => match fin with | .done f => R (.ok f) s' | .again c' => c'.quiet = true ∧ codeAny (model prog w) A c' R s') (fun e s' => R (.error e) s') s := by
  refine ⟨_, rfl, rfl, ?_⟩
  intro fname right insort prog w A s R el x items n hel hfit h
  obtain ⟨hp, g, d, tk, os⟩ := s
  k_delta "bisectStart"
  k_delta "bisectBind"
  have f1 := PySem.F.slot_list_len.lookup
  have f2 := PySem.F.slot_list_getitem.lookup
  wp_walk using wpAny_loadPart' hel
  refine run_len hel (by omega) ?_
  dsimp only
  wp_walk using wpAny_loadPart' hel
  exact ⟨Code.quiet_builtin _ (by decide +kernel), h _⟩
theorem insort_body (hel : s.heap.get? el = some { cls := .type "list", data := .seq items n })
    (hfit : (items.size : Int) < 2 ^ 62) (h : ∀ tk, codeAny (model prog w) A (.builtin "_bisect.bisect_right.loop" ⟨[.ref el, .ref x, rawInt 0, rawInt items.size, .none, .bool true, .bool true, .ref x], []⟩) R { s with toks := tk }) :
    wpAny (model prog w) A.in1 (Builtin.«_bisect.insort_right» ⟨[.ref el, .ref x], []⟩)
      (fun fin s' => match fin with | .done f => R (.ok f) s' | .again c' => c'.quiet = true ∧ codeAny (model prog w) A c' R s') (fun e s' => R (.error e) s') s := by
  obtain ⟨f, e1, _, hg⟩ := bis_gen
  rw [← e1]
  exact hg "insort_right" true true hel hfit h
theorem bisl_body (hel : s.heap.get? el = some { cls := .type "list", data := .seq items n })
    (hfit : (items.size : Int) < 2 ^ 62) (h : ∀ tk, codeAny (model prog w) A (.builtin "_bisect.bisect_right.loop" ⟨[.ref el, .ref x, rawInt 0, rawInt items.size, .none, .bool false, .bool true, rawInt 0], []⟩) R { s with toks := tk }) :
    wpAny (model prog w) A.in1 (Builtin.«_bisect.bisect_left» ⟨[.ref el, .ref x], []⟩)
      (fun fin s' => match fin with | .done f => R (.ok f) s' | .again c' => c'.quiet = true ∧ codeAny (model prog w) A c' R s') (fun e s' => R (.error e) s') s := by
  obtain ⟨f, _, e2, hg⟩ := bis_gen
  rw [← e2]
  exact hg "bisect_left" false false hel hfit h
end
end Mine
namespace Mine
/-- an entry of a node: where it lies, its dict, its key, its pages -/
structure Ent where
  a : Addr
  d : Addr
  o : Obj
  k : Int
  b : Int
  f : Int
abbrev refs (E : List Ent) : List Value := E.map fun e => Value.ref e.a
/-- the ledger bears the entries (to read alone) -/
def Bears (P : Params) (news : List (Addr × Obj)) (E : List Ent) : Prop := ∀ e ∈ E, (e.a, instObj 328 e.d) ∈ news ∧ (e.d, e.o) ∈ news ∧ IsKey P e.k e.o
section
variable {w : World} {A A₀ : Around} {base h₀ : Heap} {outer : List Env} {env : Env} {L : Addr} {m mg mb : Str → Option Value} {p : Program} {loose : List Str} {mean : ExcName → Option Value} {s : Shared} {R : Result → Shared → Prop}
  {news : List (Addr × Obj)} {el x dx : Addr} {ox : Obj} {kx : Int} {c : Nat} {E : List Ent}
theorem list_item {A : Around} {E : Value → Shared → Prop} {s : Shared} {l : Addr} {items : Array Value} {n : Nat} {k : Int} {t : Tok} {v : Value} {Q : Option Value → Shared → Prop} {prog : Program} {w : World}
    (hl : s.heap.get? l = some { cls := .type "list", data := .seq items n }) (h0 : 0 ≤ k) (hfit : k < 2 ^ 63) (hx : items[k.toNat]? = some v) (h : Q (some v) s) :
    wpAny (model prog w) A (callSpecial? (.ref l) (Str.ofString "__getitem__") [.int k t]) Q E s := by
  have hT : s.heap.IsList l items := ⟨_, hl, rfl, _, rfl⟩
  refine wpAny_callSpecial?_slot (name := Str.ofString "__getitem__") hT.typeIs slot_list_getitem (wpAny_call_entry slot_list_getitem hT.typeIs entry_list_getitem ?_ (args_list_getitem _ _))
  show wpAny _ _ (Builtin.List.listSubscript? (.int k t) >>= _) _ _ s
  refine wpAny_bind (wpAny_listSubscript_int (fitsIndex_of h0 hfit) ?_)
  clear hfit
  obtain ⟨j, rfl⟩ := Int.eq_ofNat_of_zero_le h0
  have hx' : items[j]? = some v := hx
  show wpAny _ _ ((seqItemAt l j >>= fun r => pure (r.map (j, ·))) >>= _) _ _ s
  refine wpAny_bind (wpAny_bind (wpAny_seqItemAt hl rfl (wpAny_pure ?_)))
  rw [hx']
  first
    | exact wpAny_bind (wpAny_pure (wpAny_pure ⟨v, rfl, h⟩))
    | exact wpAny_pure ⟨v, rfl, h⟩
theorem bloop {right : Bool} {ins : Value} {pp : Nat} (B : Below A₀ base outer h₀) (X : (hd.heap_39 w.params).In h₀) (T : Top p loose mean mg mb h₀)
    (hA : A.frames = some (env :: outer)) (hf : env.frame = some L) (hke : env.scope.kind = .function) (hroom : A.depth < 800) (hun : A.units < 9000)
    (hel : (el, listOf (refs E).toArray c) ∈ news) (hE : Bears w.params news E) (hx : (x, instObj 328 dx) ∈ news) (hdx : (dx, ox) ∈ news) (hk : IsKey w.params kx ox)
    (hlen : E.length < 2 ^ 60) (hcmp : ∀ i e, E[i]? = some e → ((if right then decide (kx < e.k) else decide (e.k < kx)) == right) = decide (pp ≤ i))
    (fin : ∀ h' tk, Fr h₀ L h' m → News h₀ L h' news → codeAny (model PySem.Challenge.rw_vq0003_01.row.prog w) A (.builtin "_bisect.bisect_right.loop" ⟨[.ref el, .ref x, rawInt pp, rawInt pp, .none, .bool right, .bool true, ins], []⟩) R { s with heap := h', toks := tk }) :
    ∀ (fuel lo hi : Nat) (h' : Heap) (tk : Nat), hi - lo ≤ fuel → lo ≤ pp → pp ≤ hi → hi ≤ E.length → Fr h₀ L h' m → News h₀ L h' news →
      codeAny (model PySem.Challenge.rw_vq0003_01.row.prog w) A (.builtin "_bisect.bisect_right.loop" ⟨[.ref el, .ref x, rawInt lo, rawInt hi, .none, .bool right, .bool true, ins], []⟩) R { s with heap := h', toks := tk } := by
  revert X; k_fill; intro X
  intro fuel
  induction fuel with
  | zero =>
    intro lo hi h' tk h1 h2 h3 h4 F N
    have e1 : lo = pp := by omega
    have e2 : hi = pp := by omega
    subst e1 e2
    exact fin h' tk F N
  | succ fuel ih =>
    intro lo hi h' tk h1 h2 h3 h4 F N
    by_cases hlt : lo < hi
    · refine codeAny_builtin entry_bloop ?_
      rw [Around.under_plain (show (Code.builtin "_bisect.bisect_right.loop" ⟨[.ref el, .ref x, rawInt lo, rawInt hi, .none, .bool right, .bool true, ins], []⟩).weight = 0 from rfl) rfl]
      unfold Builtin.«_bisect.bisect_right.loop»
      have hlt' : (lo : Int) < (hi : Int) := by omega
      show wpAny _ _ (if (lo : Int) < (hi : Int) then _ else _) _ _ _
      rw [if_pos hlt']
      refine wpAny_bind (wpAny_mkInt ?_)
      have em : ((lo : Int) + (hi : Int)) / 2 = (((lo + hi) / 2 : Nat) : Int) := by omega
      have hm : (lo + hi) / 2 < E.length := by omega
      obtain ⟨e, he⟩ : ∃ e, E[(lo + hi) / 2]? = some e := ⟨_, List.getElem?_eq_getElem hm⟩
      have hz : (refs E).toArray[(((lo + hi) / 2 : Nat) : Int).toNat]? = some (.ref e.a) := by rw [Int.toNat_natCast]; simp [he]
      rw [em]
      refine wpAny_bind (list_item (N _ hel).1 (by omega) (by omega) hz ?_)
      obtain ⟨h1e, h2e, r1⟩ := hE e (List.mem_of_getElem? he)
      have X1 := Frag.In.keeps X F.keep
      have o1 := r1
      obtain ⟨_, _, _, _, _, _, _, _, _, _, oe⟩ := o1
      have o2 := hk
      obtain ⟨_, _, _, _, _, _, _, _, _, _, ox'⟩ := o2
      have I1 : InstAt h' e.a (instObj 328 e.d) 328 (some e.o) := ⟨(N _ h1e).1, rfl, rfl, (N _ h2e).1⟩
      have I2 : InstAt h' x (instObj 328 dx) 328 (some ox) := ⟨(N _ hx).1, rfl, rfl, (N _ hdx).1⟩
      have hc := hcmp _ _ he
      have hfi : findIn (hd.heap_39 w.params) (.ref 328) "__lt__" = some (some (.ref 220)) := by k_is
      have hfn : isFn (hd.heap_39 w.params) (.ref 220) = true := by k_is
      cases right with
      | true =>
        try dsimp only
        rw [if_pos (by rfl)]
        refine wpAny_bind (wpAny_pure (wpAny_holding ?_))
        rw [if_pos (by rfl)]
        refine wpAny_bind (I1.type.at (wpAny_bind (I2.type.at ?_)))
        rw [if_pos (by rfl)]
        refine wpAny_bind (wpAny_cRoomFor (by show A.units + 1 < cLine; rw [cLine_is]; omega) ?_)
        refine wpAny_bind (ifBound_K X1 I2 hfi hfn (wpAny_call (lt_c B F X T N hA hf hke (by show A.depth < 900; omega) hx hdx hk h1e h2e r1 fun h'' tk' F' N' => ?_)))
        refine wpAny_bind (wpAny_truthy_bool ?_)
        refine wpAny_bind (wpAny_pure ?_)
        have hc' : (decide (kx < e.k) == true) = decide (pp ≤ (lo + hi) / 2) := hc
        by_cases hp : pp ≤ (lo + hi) / 2
        · rw [if_pos (by rw [hc']; simp [hp])]
          exact wpAny_pure ⟨Code.quiet_builtin _ (by decide +kernel), ih lo ((lo + hi) / 2) h'' tk' (by omega) h2 hp (by omega) F' N'⟩
        · rw [if_neg (by rw [hc']; simp [hp])]
          have z := ih ((lo + hi) / 2 + 1) hi h'' tk' (by omega) (by omega) h3 h4 F' N'
          rw [Int.natCast_succ] at z
          exact wpAny_pure ⟨Code.quiet_builtin _ (by decide +kernel), z⟩
      | false =>
        try dsimp only
        rw [if_pos (by rfl)]
        refine wpAny_bind (wpAny_pure (wpAny_holding ?_))
        rw [if_pos (by rfl)]
        refine wpAny_bind (I1.type.at (wpAny_bind (I2.type.at ?_)))
        rw [if_pos (by rfl)]
        refine wpAny_bind (wpAny_cRoomFor (by show A.units + 1 < cLine; rw [cLine_is]; omega) ?_)
        refine wpAny_bind (ifBound_K X1 I1 hfi hfn (wpAny_call (lt_c B F X T N hA hf hke (by show A.depth < 900; omega) h1e h2e r1 hx hdx hk fun h'' tk' F' N' => ?_)))
        refine wpAny_bind (wpAny_truthy_bool ?_)
        refine wpAny_bind (wpAny_pure ?_)
        have hc' : (decide (e.k < kx) == false) = decide (pp ≤ (lo + hi) / 2) := hc
        by_cases hp : pp ≤ (lo + hi) / 2
        · rw [if_pos (by rw [hc']; simp [hp])]
          exact wpAny_pure ⟨Code.quiet_builtin _ (by decide +kernel), ih lo ((lo + hi) / 2) h'' tk' (by omega) h2 hp (by omega) F' N'⟩
        · rw [if_neg (by rw [hc']; simp [hp])]
          have z := ih ((lo + hi) / 2 + 1) hi h'' tk' (by omega) (by omega) h3 h4 F' N'
          rw [Int.natCast_succ] at z
          exact wpAny_pure ⟨Code.quiet_builtin _ (by decide +kernel), z⟩
    · have e1 : lo = pp := by omega
      have e2 : hi = pp := by omega
      subst e1 e2
      exact fin h' tk F N
end
end Mine
namespace Mine
section
variable {w : World} {A A₀ : Around} {base h₀ : Heap} {outer : List Env} {env : Env} {L : Addr} {m mg mb : Str → Option Value} {p : Program} {loose : List Str} {mean : ExcName → Option Value} {s : Shared} {R : Result → Shared → Prop}
  {rest : List (Addr × Obj)} {el x dx : Addr} {ox : Obj} {kx : Int} {c : Nat} {E : List Ent} {pp : Nat} {Q E' : Value → Shared → Prop} {prog : Program}
theorem seq_upd {xs ys : Array Value} {f : Array Value → Array Value} (F : Fr h₀ L s.heap m) (N : News h₀ L s.heap ((el, listOf xs c) :: rest)) (hne : ∀ p ∈ rest, p.1 ≠ el) (hf : f xs = ys) :
    ∃ c', Fr h₀ L (s.heap.update el (Obj.mapSeq f)) m ∧ News h₀ L (s.heap.update el (Obj.mapSeq f)) ((el, listOf ys c') :: rest) := by
  refine ⟨if ys.size == xs.size then c else c + 1, ?_⟩
  have e : Obj.mapSeq f (listOf xs c) = listOf ys (if ys.size == xs.size then c else c + 1) := by
    rw [← hf]; rfl
  have z := news_upd (pre := []) F N (fun _ hp => nomatch hp) hne e rfl
  exact z
theorem bloop_ins (F : Fr h₀ L s.heap m) (N : News h₀ L s.heap ((el, listOf (refs E).toArray c) :: rest)) (hne : ∀ p ∈ rest, p.1 ≠ el) (hp : pp ≤ E.length) (hlen : E.length ≤ 1000)
    (k : ∀ h' c', Fr h₀ L h' m → News h₀ L h' ((el, listOf ((refs E).insertIdx pp (.ref x)).toArray c') :: rest) → R (.ok (.ret .none)) { s with heap := h' }) :
    codeAny (model prog w) A (.builtin "_bisect.bisect_right.loop" ⟨[.ref el, .ref x, rawInt pp, rawInt pp, .none, .bool true, .bool true, .ref x], []⟩) R s := by
  refine codeAny_builtin entry_bloop ?_
  rw [Around.under_plain (show (Code.builtin "_bisect.bisect_right.loop" ⟨[.ref el, .ref x, rawInt pp, rawInt pp, .none, .bool true, .bool true, .ref x], []⟩).weight = 0 from rfl) rfl]
  unfold Builtin.«_bisect.bisect_right.loop»
  show wpAny _ _ (if (pp : Int) < (pp : Int) then _ else _) _ _ _
  rw [if_neg (Int.lt_irrefl _)]
  have hel := (N _ (.head _)).1
  have hT : s.heap.IsList el (refs E).toArray := ⟨_, hel, rfl, _, rfl⟩
  refine wpAny_bind (wpAny_typeOf hT.typeIs ?_)
  rw [if_pos (by rfl)]
  refine wpAny_bind (wpAny_rule ?_)
  obtain ⟨c', F', N'⟩ := seq_upd (f := fun xs => xs.insertIdxIfInBounds (min (pp : Int).toNat xs.size) (.ref x)) (ys := ((refs E).insertIdx pp (.ref x)).toArray) F N hne (by
    simp only [Int.toNat_natCast, List.size_toArray, List.length_map]
    rw [Nat.min_eq_left hp]
    simp [Array.insertIdxIfInBounds, hp])
  refine wpAny_bind (wpAny_updateSeq hel rfl ?_ ?_ ?_)
  · have z := k _ _ F' N'
    first | exact wpAny_pure z | exact wpAny_bind (wpAny_pure z) | exact wpAny_bind (wpAny_pure (wpAny_pure z))
  · rw [sizeLine_eq]; simp; omega
  · rw [sizeLine_eq, show (refs E).toArray.insertIdxIfInBounds (min (pp : Int).toNat (refs E).toArray.size) (.ref x) = ((refs E).insertIdx pp (.ref x)).toArray from by
      simp only [Int.toNat_natCast, List.size_toArray, List.length_map]
      rw [Nat.min_eq_left hp]
      simp [Array.insertIdxIfInBounds, hp]]
    simp [List.length_insertIdx]
    split <;> omega
theorem call_fn_body {id : String} {Bf : Builtin} {args : List Value} (kind : builtinKind id = none) (plain : plainId id = true)
    (entry : entryFor table id = some Bf) (ok : argsOk id ⟨args, []⟩)
    (hfin : wpAny (model prog w) A.in1 (Bf ⟨args, []⟩) (fun fin s' => match fin with | .done f => wants Q E' (.ok f) s' | .again c' => c'.quiet = true ∧ codeAny (model prog w) A c' (wants Q E') s') (fun e s' => wants Q E' (.error e) s') s) :
    wpAny (model prog w) A (call (.builtin id) args) Q E' s := by
  refine wpAny_call (codeAny_call_builtin plain entry ?_)
  simp only [checkBuiltinCall, kind]
  cases hsig : Manifest.signature? id with
  | none => exact wpAny_pure hfin
  | some sig =>
    simp only [argsOk, hsig] at ok
    have h2 : Bind.checkArgs id sig ⟨args, []⟩ = pure () := ok
    show wpAny _ _ (Bind.checkArgs id sig ⟨args, []⟩) _ _ s
    rw [h2]; exact wpAny_pure hfin
/-- insort_right puts x at its place: behind pp keys below it, ahead of keys above it -/
theorem insort_c (B : Below A₀ base outer h₀) (F : Fr h₀ L s.heap m) (X : (hd.heap_39 w.params).In h₀) (T : Top p loose mean mg mb h₀)
    (N : News h₀ L s.heap ((el, listOf (refs E).toArray c) :: rest)) (hne : ∀ p ∈ rest, p.1 ≠ el)
    (hA : A.frames = some (env :: outer)) (hf : env.frame = some L) (hke : env.scope.kind = .function) (hroom : A.depth < 800) (hun : A.units < 9000)
    (hE : Bears w.params rest E) (hx : (x, instObj 328 dx) ∈ rest) (hdx : (dx, ox) ∈ rest) (hk : IsKey w.params kx ox) (hp : pp ≤ E.length) (hlen : E.length ≤ 1000)
    (hcmp : ∀ i e, E[i]? = some e → (decide (kx < e.k) = decide (pp ≤ i)))
    (k : ∀ h' tk c', Fr h₀ L h' m → News h₀ L h' ((el, listOf ((refs E).insertIdx pp (.ref x)).toArray c') :: rest) → Q .none { s with heap := h', toks := tk }) :
    wpAny (model PySem.Challenge.rw_vq0003_01.row.prog w) A (call (.builtin "_bisect.insort_right") [.ref el, .ref x]) Q E' s := by
  refine call_fn_body kind_insort plain_insort entry_insort (args_insort _ _) ?_
  refine insort_body (N _ (.head _)).1 (by simp; omega) fun tk => ?_
  have hz : (refs E).toArray.size = E.length := by simp
  rw [hz]
  refine bloop (pp := pp) (right := true) B X T hA hf hke hroom hun (.head _) (fun e he => ?_) (.tail _ hx) (.tail _ hdx) hk (by omega) (fun i e he => ?_) (fun h' tk' F' N' => ?_) (E.length - 0) 0 E.length s.heap tk (Nat.le_refl _) (Nat.zero_le _) hp (Nat.le_refl _) F N
  · exact ⟨.tail _ (hE e he).1, .tail _ (hE e he).2.1, (hE e he).2.2⟩
  · rw [← hcmp i e he]; simp
  · exact bloop_ins F' N' hne hp hlen fun h'' c' F'' N'' => k _ _ _ F'' N''
end
end Mine
namespace Mine
section
variable {w : World} {A A₀ : Around} {base h₀ : Heap} {outer : List Env} {env : Env} {L : Addr} {m mg mb : Str → Option Value} {p : Program} {loose : List Str} {mean : ExcName → Option Value} {s : Shared} {R : Result → Shared → Prop}
  {news : List (Addr × Obj)} {el x dx a1 d1 a2 d2 : Addr} {ox o1 o2 : Obj} {kx k1 k2 : Int} {c : Nat} {E : List Ent} {pp : Nat} {Q E' : Value → Shared → Prop} {prog : Program}
theorem eqb_c {Q : Bool → Shared → Prop} (B : Below A₀ base outer h₀) (F : Fr h₀ L s.heap m) (X : (hd.heap_39 w.params).In h₀) (T : Top p loose mean mg mb h₀) (N : News h₀ L s.heap news)
    (hA : A.frames = some (env :: outer)) (hf : env.frame = some L) (hke : env.scope.kind = .function) (hroom : A.depth < 800) (hun : A.units < 9000)
    (h1 : (a1, instObj 328 d1) ∈ news) (g1 : (d1, o1) ∈ news) (r1 : IsKey w.params k1 o1) (h2 : (a2, instObj 328 d2) ∈ news) (g2 : (d2, o2) ∈ news) (r2 : IsKey w.params k2 o2)
    (hne : a1 ≠ a2) (k : ∀ h' tk, Fr h₀ L h' m → News h₀ L h' news → Q (k1 == k2) { s with heap := h', toks := tk }) :
    wpAny (model PySem.Challenge.rw_vq0003_01.row.prog w) A (eqBool (.ref a1) (.ref a2)) Q E' s := by
  revert X; k_fill; intro X
  have o1' := r1
  obtain ⟨_, _, _, _, _, _, _, _, _, _, e1⟩ := o1'
  have o2' := r2
  obtain ⟨_, _, _, _, _, _, _, _, _, _, e2⟩ := o2'
  have I1 : InstAt s.heap a1 (instObj 328 d1) 328 (some o1) := ⟨(N _ h1).1, rfl, rfl, (N _ g1).1⟩
  have I2 : InstAt s.heap a2 (instObj 328 d2) 328 (some o2) := ⟨(N _ h2).1, rfl, rfl, (N _ g2).1⟩
  unfold eqBool
  refine wpAny_holding ?_
  rw [if_neg (by simpa using hne)]
  show wpAny _ _ (richCompare .Eq (.ref a1) (.ref a2) >>= truthOfDropped) _ _ _
  refine wpAny_bind (cmp_K (f := 213) (by rw [cLine_is]; omega) F X I1 I2.type (by k_is) (by k_is) (by k_is) (wpAny_call (eq_c B F X T N hA hf hke (by omega) h1 g1 r1 h2 g2 r2 fun h' tk F' N' => ?_)))
  exact wpAny_truthy_bool (k _ _ F' N')
theorem list_items {Q : Array Value → Shared → Prop} {items : Array Value} {n : Nat} {M : Model} (hl : s.heap.get? el = some { cls := .type "list", data := .seq items n }) (h : Q items s) : wpAny M A (Builtin.List.listItems (.ref el)) Q E' s := by
  unfold Builtin.List.listItems
  exact wpAny_bind (wpAny_seqItems hl rfl (wpAny_pure h))
theorem iloop (B : Below A₀ base outer h₀) (X : (hd.heap_39 w.params).In h₀) (T : Top p loose mean mg mb h₀)
    (hA : A.frames = some (env :: outer)) (hf : env.frame = some L) (hke : env.scope.kind = .function) (hroom : A.depth < 800) (hun : A.units < 8000)
    (hel : (el, listOf (refs E).toArray c) ∈ news) (hE : Bears w.params news E) (hx : (x, instObj 328 dx) ∈ news) (hdx : (dx, ox) ∈ news) (hk : IsKey w.params kx ox)
    (hlen : E.length < 2 ^ 60) (hbef : ∀ i e, i < pp → E[i]? = some e → e.a ≠ x ∧ e.k ≠ kx) (hat : (refs E)[pp]? = some (.ref x))
    (k : ∀ h' tk t, Fr h₀ L h' m → News h₀ L h' news → R (.ok (.ret (.int pp t))) { s with heap := h', toks := tk }) :
    ∀ (fuel i : Nat) (h' : Heap) (tk : Nat), pp - i = fuel → i ≤ pp → Fr h₀ L h' m → News h₀ L h' news →
      codeAny (model PySem.Challenge.rw_vq0003_01.row.prog w) A (.builtin "list.index.loop" ⟨[.ref el, .ref x, rawInt i, rawInt (2 ^ 63 - 1)], []⟩) R { s with heap := h', toks := tk } := by
  intro fuel
  induction fuel with
  | zero =>
    intro i h' tk h1 h2 F N
    have e1 : i = pp := by omega
    subst e1
    have hp : i < E.length := by
      rcases Nat.lt_or_ge i E.length with q | q
      · exact q
      · rw [List.getElem?_eq_none (by simpa using q)] at hat; cases hat
    refine codeAny_builtin MeetsSeq.entry_index_loop ?_
    rw [Around.under_plainId MeetsSeq.plain_index_loop _]
    unfold Builtin.«list.index.loop»
    refine wpAny_bind (list_items (N _ hel).1 ?_)
    have hi : (if (i : Int) < 2 ^ 63 - 1 then (refs E).toArray[((i : Nat) : Int).toNat]? else none) = some (.ref x) := by
      rw [if_pos (by omega), Int.toNat_natCast]; simpa using hat
    rw [hi]
    have hself : wpAny (model PySem.Challenge.rw_vq0003_01.row.prog w) A.in1 (eqBool (.ref x) (.ref x)) (fun b s' => b = true ∧ s' = { s with heap := h', toks := tk }) (fun _ _ => False) { s with heap := h', toks := tk } := by
      unfold eqBool
      refine wpAny_holding ?_
      rw [if_pos (by simp)]
      exact wpAny_bind (wpAny_rule (wpAny_pure ⟨rfl, rfl⟩))
    refine wpAny_bind (wpAny_mono hself (fun b s' hb => ?_) fun _ _ z => z.elim)
    obtain ⟨rfl, rfl⟩ := hb
    rw [if_pos rfl]
    exact wpAny_bind (wpAny_mkInt (wpAny_pure (k _ _ _ F N)))
  | succ fuel ih =>
    intro i h' tk h1 h2 F N
    have hp : i < pp := by omega
    have hpl : pp < E.length := by
      rcases Nat.lt_or_ge pp E.length with q | q
      · exact q
      · rw [List.getElem?_eq_none (by simpa using q)] at hat; cases hat
    obtain ⟨e, he⟩ : ∃ e, E[i]? = some e := ⟨_, List.getElem?_eq_getElem (by omega)⟩
    obtain ⟨h1e, h2e, r1⟩ := hE e (List.mem_of_getElem? he)
    obtain ⟨na, nk⟩ := hbef i e hp he
    refine codeAny_builtin MeetsSeq.entry_index_loop ?_
    rw [Around.under_plainId MeetsSeq.plain_index_loop _]
    unfold Builtin.«list.index.loop»
    refine wpAny_bind (list_items (N _ hel).1 ?_)
    have hi : (if (i : Int) < 2 ^ 63 - 1 then (refs E).toArray[((i : Nat) : Int).toNat]? else none) = some (.ref e.a) := by
      rw [if_pos (by omega), Int.toNat_natCast]; simp [he]
    rw [hi]
    refine wpAny_bind (eqb_c B F X T N (by exact hA) hf hke (by exact hroom) (by show A.units + 1 < 9000; omega) h1e h2e r1 hx hdx hk na fun h'' tk' F' N' => ?_)
    rw [if_neg (by simpa using nk)]
    have z := ih (i + 1) h'' tk' (by omega) (by omega) F' N'
    rw [Int.natCast_succ] at z
    exact wpAny_pure ⟨MeetsSeq.plain_index_loop |> plainId_quiet <| _, z⟩
/-- list.index finds x at its place -/
theorem index_c (B : Below A₀ base outer h₀) (F : Fr h₀ L s.heap m) (X : (hd.heap_39 w.params).In h₀) (T : Top p loose mean mg mb h₀) (N : News h₀ L s.heap news)
    (hA : A.frames = some (env :: outer)) (hf : env.frame = some L) (hke : env.scope.kind = .function) (hroom : A.depth < 800) (hun : A.units < 8000)
    (hel : (el, listOf (refs E).toArray c) ∈ news) (hE : Bears w.params news E) (hx : (x, instObj 328 dx) ∈ news) (hdx : (dx, ox) ∈ news) (hk : IsKey w.params kx ox)
    (hlen : E.length < 2 ^ 60) (hbef : ∀ i e, i < pp → E[i]? = some e → e.a ≠ x ∧ e.k ≠ kx) (hat : (refs E)[pp]? = some (.ref x))
    (k : ∀ h' tk t, Fr h₀ L h' m → News h₀ L h' news → Q (.int pp t) { s with heap := h', toks := tk }) :
    wpAny (model PySem.Challenge.rw_vq0003_01.row.prog w) A (call (.builtin "list.index") [.ref el, .ref x]) Q E' s := by
  have hl := (N _ hel).1
  have hT : s.TypeIs (.ref el) "list" := ⟨_, hl, rfl⟩
  refine wpAny_call (codeAny_call_builtin PySem.F.slot_list_index.plain PySem.F.entry_list_index (PySem.F.slot_list_index.check _ _ _ _ _ _ _ _ hT (PySem.F.args_list_index_2 _ _) ?_))
  obtain ⟨hp, g, d, tk, os⟩ := s
  wp_walk using wpAny_loadPart' hl
  have a1 : ((fun i : Int => if i < 0 then max 0 (i + ((refs E).toArray.size : Int)) else i) ((none : Option Int).getD 0)) = ((0 : Nat) : Int) := by simp
  have a2 : ((fun i : Int => if i < 0 then max 0 (i + ((refs E).toArray.size : Int)) else i) ((none : Option Int).getD (2 ^ 63 - 1))) = 2 ^ 63 - 1 := by simp
  rw [a1, a2]
  exact ⟨plainId_quiet MeetsSeq.plain_index_loop _, iloop (s := ⟨hp, g, d, tk, os⟩) B X T hA hf hke hroom hun hel hE hx hdx hk hlen hbef hat k pp 0 hp tk rfl (Nat.zero_le _) F N⟩
end
end Mine
namespace Mine
/-- a reference's dict: its key, the pages before and after it -/
def IsRef (P : Params) (k b f : Int) (o : Obj) : Prop := ∃ u0 u1 u2 u3 u4 ul c q qb qf, o = refDict P u0 u1 u2 u3 u4 ul c (.int k q) (.int b qb) (.int f qf)
theorem IsRef.key {P : Params} {k b f : Int} {o : Obj} (h : IsRef P k b f o) : IsKey P k o := by
  obtain ⟨_, _, _, _, _, _, _, _, _, _, rfl⟩ := h
  exact ⟨_, _, _, _, _, _, _, _, _, _, rfl⟩
section
variable {w : World} {A : Around} {h₀ : Heap} {L : Addr} {m : Str → Option Value} {s : Shared} {rest : List (Addr × Obj)} {a d : Addr} {o : Obj} {kk b f v : Int} {t : Tok} {Q : Unit → Shared → Prop} {E : Value → Shared → Prop}
theorem set_after (F : Fr h₀ L s.heap m) (X : (hd.heap_39 w.params).In h₀) (N : News h₀ L s.heap ((d, o) :: rest)) (hne : ∀ p ∈ rest, p.1 ≠ d) (ha : (a, instObj 328 d) ∈ rest) (ho : IsRef w.params kk b f o)
    (k : ∀ h' tk o', Fr h₀ L h' m → News h₀ L h' ((d, o') :: rest) → IsRef w.params kk b v o' → Q () { s with heap := h', toks := tk }) :
    wpAny (model PySem.Challenge.rw_vq0003_01.row.prog w) A (setAttr (.ref a) (Str.ofString "after") (.int v t)) Q E s := by
  revert X; k_fill; intro X
  obtain ⟨_, _, _, _, _, _, _, _, _, _, rfl⟩ := ho
  refine set_dict F X N (InstAt.of_news N (.tail _ ha) (.head _)) rfl (by k_is) (by k_is) (by k_is) (by k_is) (by k_get) (by k_put) (Upd.head hne) (by show 5 ≤ 1000; decide) fun h' F' N' => ?_
  exact k _ _ _ F' N' ⟨_, _, _, _, _, _, _, _, _, _, rfl⟩
theorem set_before (F : Fr h₀ L s.heap m) (X : (hd.heap_39 w.params).In h₀) (N : News h₀ L s.heap ((d, o) :: rest)) (hne : ∀ p ∈ rest, p.1 ≠ d) (ha : (a, instObj 328 d) ∈ rest) (ho : IsRef w.params kk b f o)
    (k : ∀ h' tk o', Fr h₀ L h' m → News h₀ L h' ((d, o') :: rest) → IsRef w.params kk v f o' → Q () { s with heap := h', toks := tk }) :
    wpAny (model PySem.Challenge.rw_vq0003_01.row.prog w) A (setAttr (.ref a) (Str.ofString "before") (.int v t)) Q E s := by
  revert X; k_fill; intro X
  obtain ⟨_, _, _, _, _, _, _, _, _, _, rfl⟩ := ho
  refine set_dict F X N (InstAt.of_news N (.tail _ ha) (.head _)) rfl (by k_is) (by k_is) (by k_is) (by k_is) (by k_get) (by k_put) (Upd.head hne) (by show 5 ≤ 1000; decide) fun h' F' N' => ?_
  exact k _ _ _ F' N' ⟨_, _, _, _, _, _, _, _, _, _, rfl⟩
end
/-- the entries' objects -/
def entObjs (E : List Ent) : List (Addr × Obj) := E.flatMap fun e => [(e.a, instObj 328 e.d), (e.d, e.o)]
theorem entObjs_append (E F : List Ent) : entObjs (E ++ F) = entObjs E ++ entObjs F := by simp [entObjs]
theorem entObjs_cons (e : Ent) (F : List Ent) : entObjs (e :: F) = (e.a, instObj 328 e.d) :: (e.d, e.o) :: entObjs F := by simp [entObjs]
theorem entObjs_inst {E : List Ent} {e : Ent} (h : e ∈ E) : (e.a, instObj 328 e.d) ∈ entObjs E := List.mem_flatMap.mpr ⟨e, h, .head _⟩
theorem entObjs_dict {E : List Ent} {e : Ent} (h : e ∈ E) : (e.d, e.o) ∈ entObjs E := List.mem_flatMap.mpr ⟨e, h, .tail _ (.head _)⟩
def Good (P : Params) (E : List Ent) : Prop := ∀ e ∈ E, IsRef P e.k e.b e.f e.o
theorem Good.bears {P : Params} {E : List Ent} {news : List (Addr × Obj)} (h : Good P E) (hs : ∀ p ∈ entObjs E, p ∈ news) : Bears P news E :=
  fun e he => ⟨hs _ (entObjs_inst he), hs _ (entObjs_dict he), (h e he).key⟩
end Mine
namespace Mine
theorem ins_mid {α : Type} (l r : List α) (x : α) (n : Nat) (h : n = l.length) : (l ++ r).insertIdx n x = l ++ x :: r := by
  subst h
  induction l with
  | nil => simp
  | cons y l ih => simp [ih]
/-- e may be put between E1 and E2: the keys lie so, and the ledger bears them all -/
structure InsOk (P : Params) (rest : List (Addr × Obj)) (E1 E2 : List Ent) (e : Ent) : Prop where
  bears : Bears P rest (E1 ++ e :: E2)
  below : ∀ x ∈ E1, x.k < e.k
  above : ∀ x ∈ E2, e.k < x.k
  other : ∀ x ∈ E1, x.a ≠ e.a
  few : (E1 ++ E2).length ≤ 100
section
variable {w : World} {A A₀ : Around} {base h₀ : Heap} {outer : List Env} {env : Env} {L : Addr} {m mg mb : Str → Option Value} {p : Program} {loose : List Str} {mean : ExcName → Option Value} {s : Shared} {R : Result → Shared → Prop}
  {news rest : List (Addr × Obj)} {el x : Addr} {c : Nat} {E1 E2 : List Ent} {e : Ent} {Q E' : Value → Shared → Prop}
theorem insort_e (B : Below A₀ base outer h₀) (F : Fr h₀ L s.heap m) (X : (hd.heap_39 w.params).In h₀) (T : Top p loose mean mg mb h₀) (N : News h₀ L s.heap news)
    (hA : A.frames = some (env :: outer)) (hf : env.frame = some L) (hke : env.scope.kind = .function) (hroom : A.depth < 800) (hun : A.units < 8000)
    (hI : InsOk w.params rest E1 E2 e) (hne : ∀ p ∈ rest, p.1 ≠ el) (hx : x = e.a)
    (hsub : ∀ p ∈ (el, listOf (refs (E1 ++ E2)).toArray c) :: rest, p ∈ news)
    (k : ∀ h' tk c', Fr h₀ L h' m → News h₀ L h' ((el, listOf (refs (E1 ++ e :: E2)).toArray c') :: rest) → Q .none { s with heap := h', toks := tk }) :
    wpAny (model PySem.Challenge.rw_vq0003_01.row.prog w) A (call (.builtin "_bisect.insort_right") [.ref el, .ref x]) Q E' s := by
  subst hx
  have he := hI.bears e (by simp)
  have hlen := hI.few
  refine insort_c (pp := E1.length) B F X T (News.sub N hsub) hne hA hf hke hroom (by omega) (fun x hx => hI.bears x ((List.mem_append.mp hx).elim (fun h => List.mem_append.mpr (.inl h)) fun h => List.mem_append.mpr (.inr (.tail _ h)))) he.1 he.2.1 he.2.2 (by simp) (by omega) (fun i x hx => ?_) (fun h' tk c' F' N' => ?_)
  · rw [List.getElem?_append] at hx
    split at hx
    · rename_i hi
      have := hI.below x (List.mem_of_getElem? hx)
      simp; omega
    · rename_i hi
      have := hI.above x (List.mem_of_getElem? hx)
      simp; omega
  · have e1 : (refs (E1 ++ E2)).insertIdx E1.length (.ref e.a) = refs (E1 ++ e :: E2) := by
      simp only [refs, List.map_append, List.map_cons]
      exact ins_mid (E1.map fun e => Value.ref e.a) (E2.map fun e => Value.ref e.a) (.ref e.a) E1.length (by simp)
    rw [e1] at N'
    exact k _ _ _ F' N'
theorem index_e (B : Below A₀ base outer h₀) (F : Fr h₀ L s.heap m) (X : (hd.heap_39 w.params).In h₀) (T : Top p loose mean mg mb h₀) (N : News h₀ L s.heap news)
    (hA : A.frames = some (env :: outer)) (hf : env.frame = some L) (hke : env.scope.kind = .function) (hroom : A.depth < 800) (hun : A.units < 8000)
    (hI : InsOk w.params rest E1 E2 e) (hx : x = e.a) (hsub : ∀ p ∈ (el, listOf (refs (E1 ++ e :: E2)).toArray c) :: rest, p ∈ news)
    (k : ∀ h' tk t, Fr h₀ L h' m → News h₀ L h' news → Q (.int E1.length t) { s with heap := h', toks := tk }) :
    wpAny (model PySem.Challenge.rw_vq0003_01.row.prog w) A (call (.builtin "list.index") [.ref el, .ref x]) Q E' s := by
  subst hx
  have he := hI.bears e (by simp)
  have hlen := hI.few
  have hlen' : (E1 ++ e :: E2).length ≤ 101 := by simp at hlen ⊢; omega
  refine index_c (pp := E1.length) (E := E1 ++ e :: E2) B F X T N hA hf hke hroom hun (hsub _ (.head _)) (fun x hx => ?_) (hsub _ (.tail _ he.1)) (hsub _ (.tail _ he.2.1)) he.2.2 (by omega) (fun i x hi hx => ?_) (by simp) k
  · obtain ⟨b1, b2, b3⟩ := hI.bears x hx
    exact ⟨hsub _ (.tail _ b1), hsub _ (.tail _ b2), b3⟩
  · rw [List.getElem?_append_left hi] at hx
    have h1 := hI.below x (List.mem_of_getElem? hx)
    exact ⟨hI.other x (List.mem_of_getElem? hx), by omega⟩
end
section
variable {prog : Program} {w : World} {A : Around} {E : Value → Shared → Prop} {s : Shared} {h₀ : Heap} {L : Addr} {news : List (Addr × Obj)} {value slice : PySem.Expr} {l : Addr} {vs : List Value} {n c : Nat} {u : Tok} {v : Value} {Q : Value → Shared → Prop}
theorem item_prev (N : News h₀ L s.heap news) (hm : (l, listOf vs.toArray c) ∈ news) (hx : vs[n - 1]? = some v) (hp : 0 < n) (hn : n ≤ 1000) (h : Q v s)
    (hs : subscripted slice false (.ref l) (.int ((n : Int) - 1) u) = operate [.ref l, .int ((n : Int) - 1) u] (getItem (.ref l) (.int ((n : Int) - 1) u)) := by with_unfolding_all rfl) :
    wpAny (model prog w) A (subscriptTail value slice (.ref l) (.int ((n : Int) - 1) u)) Q E s :=
  item_litK ⟨_, (N _ hm).1, rfl, _, rfl⟩ (by omega) (by omega) (by rw [show ((n : Int) - 1).toNat = n - 1 from by omega]; exact hx) h hs
theorem item_next (N : News h₀ L s.heap news) (hm : (l, listOf vs.toArray c) ∈ news) (hx : vs[n + 1]? = some v) (hn : n ≤ 1000) (h : Q v s)
    (hs : subscripted slice false (.ref l) (.int ((n : Int) + 1) u) = operate [.ref l, .int ((n : Int) + 1) u] (getItem (.ref l) (.int ((n : Int) + 1) u)) := by with_unfolding_all rfl) :
    wpAny (model prog w) A (subscriptTail value slice (.ref l) (.int ((n : Int) + 1) u)) Q E s :=
  item_litK ⟨_, (N _ hm).1, rfl, _, rfl⟩ (by omega) (by omega) (by rw [show ((n : Int) + 1).toNat = n + 1 from by omega]; exact hx) h hs
end
end Mine
local macro_rules | `(tactic| walk_at "call builtin:_bisect.insort_right cons nil") => `(tactic| (k_here; k_dflt (refine' Mine.insort_e ?B ?F ?X ?T ?N ?A ?f ?k ?room ?un ?I ?ne ?x ?sub ?_; (case I => with_reducible assumption); (case A => first | assumption | exact rfl); (case f => first | assumption | exact rfl); (case k => first | assumption | exact rfl); (case B => k_asm); (case F => k_asm); (case X => k_asm); (case T => k_asm); (case N => k_asm); (case ne => with_reducible assumption); (case x => rfl); (case sub => k_allIn); (case room => k_room); (case un => k_units); k_whole); intro h' tk' c' F' N'; (try k_sweep); walk_say "MINE insort"))
local macro_rules | `(tactic| walk_at "call builtin:list.index nil") => `(tactic| (k_here; k_dflt (show wpAny _ _ (call (Value.builtin "list.index") [Value.ref _, Value.ref _]) _ _ _); k_dflt (refine' Mine.index_e ?B ?F ?X ?T ?N ?A ?f ?k ?room ?un ?I ?x ?sub ?_; (case I => with_reducible assumption); (case A => first | assumption | exact rfl); (case f => first | assumption | exact rfl); (case k => first | assumption | exact rfl); (case B => k_asm); (case F => k_asm); (case X => k_asm); (case T => k_asm); (case N => k_asm); (case x => rfl); (case sub => k_allIn); (case room => k_room); (case un => k_units); k_whole); intro h' tk' t' F' N'; (try k_sweep); walk_say "MINE index"))
local macro_rules | `(tactic| k_units) => `(tactic| ((try simp only [units_in1, units_deeper, Around.mark_units, units_caller, cLine]); omega))
local macro_rules | `(tactic| walk_at "noteFrame ref") => `(tactic| (k_here; k_dflt (refine' Mine.caught_own ?fr ?fc ?fl ?kc ?kl ?FG ?F ?N ?x PySem.F.isExc_IndexError PySem.F.notTuple_IndexError Mine.sub_index ?ev ?_; (case fr => rfl); (case fc => rfl); (case fl => with_reducible assumption); (case kc => rfl); (case kl => with_reducible assumption); (case x => with_reducible assumption); (case F => with_reducible assumption); (case N => with_reducible assumption); (case FG => with_reducible assumption); (case ev => exact fun _ _ _ _ st q => Mine.ks_builtin (by with_reducible assumption) (by with_reducible assumption) (by k_is) PyProof.Rows.Boot.«IndexError» st q rfl rfl (by decide) (by decide)); k_whole); intro h' F' N'; walk_say "MINE caught"))
local macro_rules | `(tactic| k_is) => `(tactic| with_reducible assumption)
local macro_rules | `(tactic| ks_is) => `(tactic| with_reducible assumption)
local macro_rules | `(tactic| walk_at "subscriptTail Name BinOp ref int") => `(tactic| (k_here; k_dflt (first
  | ((with_reducible show wpAny _ _ (subscriptTail _ _ (Value.ref _) (Value.int (_ - 1) _)) _ _ _); refine' Mine.item_prev ?N ?m ?x ?p ?n ?_ ?s; (case N => k_asm); (case x => with_reducible assumption); (case m => k_mem); (case p => with_reducible assumption); (case n => with_reducible assumption); (case s => with_unfolding_all rfl); k_whole; walk_say "MINE prev")
  | ((with_reducible show wpAny _ _ (subscriptTail _ _ (Value.ref _) (Value.int (_ + 1) _)) _ _ _); refine' Mine.item_next ?N ?m ?x ?n ?_ ?s; (case N => k_asm); (case x => with_reducible assumption); (case m => k_mem); (case n => with_reducible assumption); (case s => with_unfolding_all rfl); k_whole; walk_say "MINE next")
  | ((with_reducible show wpAny _ _ (subscriptTail _ _ (Value.ref _) (Value.int (_ + 1) _)) _ _ _); refine' Mine.item_end ?h ?N ?m ?x ?n ?_ ?s; (case h => rfl); (case N => k_asm); (case x => with_reducible assumption); (case m => k_mem); (case n => with_reducible assumption); (case s => with_unfolding_all rfl); k_whole; intro h' tk' e' hx'; (try dsimp only); walk_say "MINE end"))))
namespace Mine
section
variable {M : Model} {A : Around} {E : Value → Shared → Prop} {s : Shared}
/-- an exception that starts here: its frame is noted -/
theorem looks_firstW {base : Heap} {env : Env} {outer : List Env} {L e : Addr} {oe : Obj} {vs : Array Value} {a0 : Value} {Q : Unit → Shared → Prop}
    (hfr : A.frames = some (env :: outer)) (hl : s.heap.FunFrames base (env :: outer)) (hf : env.frame = some L)
    (he : s.heap.get? e = some oe) (hkb : base.StaysIn s.heap) (hen : base.get? e = none) (hd : oe.data = .fields vs) (h1 : vs[1]? = some .none) (h0 : vs[0]? = some a0)
    (h : ∀ h', Heap.HeldW base (env :: outer) e oe.cls a0 L h' → s.heap.UpToSlots h' → Q () { s with heap := h' }) : wpAny M A (noteFrame (.ref e) env) Q E s := by
  unfold noteFrame
  simp only [hf]
  refine wpAny_bind (wpAny_field he hd h1 ?_)
  rw [if_neg (by decide)]
  refine wpAny_entryW hfr hl hf he hkb hen hd (Array.getElem?_eq_some_iff.mp h1).1 h0 fun h' hN => ?_
  obtain ⟨k1, k2, k3, k4⟩ := hN
  exact h h' ⟨k1, hen, k2, k3⟩ k4
end
section
variable {prog : Program} {w : World} {A : Around} {E : Value → Shared → Prop} {s' : Shared} {h₀ g h : Heap} {L L' e : Addr} {m m' : Str → Option Value} {news : List (Addr × Obj)} {envc envl : Env}
  {b₀ : Stmt} {suite : List Stmt} {pos : Pos} {t : PySem.Expr} {X T' : String} {Q : Flow → Shared → Prop}
theorem caught_own (hfr : A.frames = some [envc, envl]) (hfc : envc.frame = some L') (hfl : envl.frame = some L) (hkc : envc.scope.kind = .function) (hkl : envl.scope.kind = .function)
    (FG : Fr h₀ L g m) (F : Fr g L' h m') (N : News g L' h news) (hx : Heap.NewExc h s'.heap e X)
    (hexc : isSubtype (.type T') (.type "BaseException") = pure true) (hnt : isSubtype (.type ((Manifest.find? T').elim "type" fun y => y.metatype)) (.type "tuple") = pure false) (hsub : isSubtype (.type X) (.type T') = pure true)
    (hev : ∀ (A₁ : Around) (Q₁ E₁ : Value → Shared → Prop) (s₁ : Shared), h₀.StaysIn s₁.heap → Q₁ (.type T') s₁ → wpAny (model prog w) A₁ (eval t envc) Q₁ E₁ s₁)
    (k : ∀ h'', Fr h₀ L h'' m → News h₀ L h'' news → wpAny (model prog w) (A.mark (some (.ref e))) (execs (b₀ :: suite) envc) Q (notedBy (model prog w) (A.mark (some (.ref e))) envc (cameBackBy (model prog w) A envc E)) { s' with heap := h'' }) :
    wpAny (model prog w) A (noteFrame (.ref e) envc) (fun _ s₂ => wpAny (model prog w) A (setFlight (.ref e) none) (fun _ s₃ =>
        wpAny (model prog w) A (handleBy (.ref e) envc [.ExceptHandler (some t) none (b₀ :: suite) pos]) Q E s₃) E s₂) E s' := by
  obtain ⟨oL, esL, epL, hL, hLd, hLk, hLf⟩ := FG.ns
  obtain ⟨oC, esC, epC, hC, hCd, hCk, hCf⟩ := F.ns
  have hLh : h.get? L = some oL := F.keep _ _ hL
  have hne : L ≠ L' := fun q => by
    have := F.above
    exact absurd (Heap.lt_size hL) (by rw [q]; exact Nat.not_lt.mpr this)
  have hlt : h₀.objs.size ≤ L := FG.above
  have hlt' : h₀.objs.size ≤ L' := Nat.le_of_lt (Nat.lt_of_le_of_lt hlt (Nat.lt_of_lt_of_le (Heap.lt_size hL) F.above))
  have st : h₀.StaysIn (hideAll h [L', L]) := fun b o q => hideAll_get _ (F.keep _ _ (FG.keep _ _ q)) fun hm => by
    rcases List.mem_cons.mp hm with z | hm
    · exact absurd (Heap.lt_size q) (by rw [z]; exact Nat.not_lt.mpr hlt')
    · exact absurd (Heap.lt_size q) (by rw [List.mem_singleton.mp hm]; exact Nat.not_lt.mpr hlt)
  have hB1 : (hideAll h [L', L]).get? L' = none := hideAll_none _ (.head _)
  have hB2 : (hideAll h [L', L]).get? L = none := hideAll_none _ (.tail _ (.head _))
  have hnl : ∀ q ∈ news, (hideAll h [L', L]).get? q.1 = some q.2 := fun q hq => hideAll_get _ (N q hq).1 fun hm => by
    rcases List.mem_cons.mp hm with z | hm
    · exact (N q hq).2.1 z
    · have := (N q hq).2.2; rw [List.mem_singleton.mp hm, hL] at this; cases this
  obtain ⟨ob, tp, he, hcls, hd⟩ := hx.there
  have hen : (hideAll h [L', L]).get? e = none := by
    cases q : (hideAll h [L', L]).get? e with
    | none => rfl
    | some o => have := of_hideAll _ q; rw [hx.new] at this; cases this
  have hff : s'.heap.FunFrames (hideAll h [L', L]) [envc, envl] := ⟨by rw [hkc]; decide, ⟨L', oC, hfc, hB1, hx.keeps _ _ hC, fun vs q => by rw [hCd] at q; cases q⟩, by rw [hkl]; decide, ⟨L, oL, hfl, hB2, hx.keeps _ _ hLh, fun vs q => by rw [hLd] at q; cases q⟩, trivial⟩
  refine looks_firstW (a0 := tp) hfr hff hfc he (fun b o hb => hx.keeps b o (of_hideAll _ hb)) hen hd rfl rfl fun h₄ hheld₄ hsm₄ => ?_
  refine wpAny_landsW hheld₄ fun h₅ hfly hsm₅ => ?_
  obtain ⟨ot, hot, hotc⟩ := hfly.there
  refine wpAny_handleBy_builtin (X := X) (T := T') (b := true) hexc hnt hsub (hev _ _ _ _ (fun b o q => hfly.1 _ _ (st b o q)) ⟨rfl, ⟨ot, hot, hotc.trans hcls⟩, ?_⟩)
  refine lands_againW hfly fun h₆ hfl₆ hsm₆ => ?_
  have hsm := ((Heap.UpToSlots.of_keeps hx.keeps).trans (hsm₄.trans (hsm₅.trans hsm₆)))
  refine k h₆ ⟨hsm.ns ⟨oL, esL, epL, hLh, hLd, hLk, hLf⟩, fun b o q => hfl₆.1 _ _ (st b o q), FG.above⟩ fun q hq => ⟨hfl₆.1 _ _ (hnl q hq), ?_, ?_⟩
  · intro z; have := (N q hq).2.2; rw [z, hL] at this; cases this
  · cases z : h₀.get? q.1 with
    | none => rfl
    | some o => have := (N q hq).2.2; rw [FG.keep _ _ z] at this; cases this
end
end Mine
namespace Mine
section
variable {prog : Program} {w : World} {A₀ A : Around} {s : Shared} {base h₀ : Heap} {outer : List Env} {L : Addr} {m mg mb : Str → Option Value} {env : Env} {news : List (Addr × Obj)} {K : Frag} {p : Program} {loose : List Str} {mean : ExcName → Option Value}
  {R : Result → Shared → Prop} {name qual : Str} {params : Arguments} {body : List Stmt} {scope : Scope} {dV kV doc pm cdv ct oc : Value} {an od : Option Addr} {osl : Array (Option Value)} {f cc : Addr} {args : Args} {binds : List (Str × Value)}
/-- a def that says super() is entered; its end is left as it comes -/
theorem raw_super (B : Below A₀ base outer h₀) (F : Fr h₀ L s.heap m) (X₀ : K.In h₀) (N : News h₀ L s.heap news) (T : Top p loose mean mg mb h₀) (hA : A.frames = some (env :: outer)) (hf : env.frame = some L) (hke : env.scope.kind = .function)
    (ho : K.lookup f = some ⟨oc, od, .func (ksFn name qual params body scope dV kV doc pm an cdv ct cc), osl⟩) (hcd : codeIn K cdv qual = true) (hroom : A.depth < recursionLimit)
    (hbind : BindsTo s (ksFn name qual params body scope dV kV doc pm an cdv ct cc) args binds) (hloc : ∀ y ∈ binds, scope.names.lookup y.1 = some .local)
    (h : ∀ g L' h₁, Fr h₀ L g m → Fr g L' h₁ (fun y => binds.reverse.lookup y) → News g L' h₁ news → Below A base (env :: outer) g → K.In g → Top p loose mean mg mb g → (∀ p ∈ news, p.1 < L') →
      _root_.PySem.wpAt (model prog w) (A.deeper (ksEnv qual scope L' f cdv cc)) (.func body (ksEnv qual scope L' f cdv cc)) (execs body (ksEnv qual scope L' f cdv cc))
        (fun fl s' => R (.ok (.ret (match fl with | .ret v => v | _ => .none))) s')
        (fun e s' => wpAny (model prog w) (A.deeper (ksEnv qual scope L' f cdv cc)) (leaving (ksEnv qual scope L' f cdv cc) e) (fun _ s'' => R (.error e) s'') (fun e' s'' => R (.error e') s'') s')
        { s with heap := h₁, toks := s.toks + binds.length })
    (hcell : ∀ x ∈ scope.names, x.2 ≠ .cell := by decide) (hco : scope.isCoroutine = false := by rfl) (hgen : scope.isGenerator = false := by rfl) (hk : scope.kind = .function := by rfl) : codeAny (model prog w) A (.call (.ref f) args) R s := by
  obtain ⟨FG, BG, st, _⟩ := groundX (R := R) B F N hA hf hke
  refine ks_codeAny_call_defAt (fd := ksFn name qual params body scope dV kV doc pm an cdv ct cc) (body := body) (binds := binds) hroom ((X₀.keeps F.keep) _ _ ho) rfl (T.nolimit.keeps F.keep) (codeRec_of (X₀.keeps F.keep) hcd) rfl hbind hcell hloc (fun h₁ hns hk₁ => ?_) hco hgen hk
  exact h _ s.heap.objs.size h₁ FG ⟨hns, fun b o e => hk₁ b o (of_hideAll _ e), Nat.le_of_eq (hideAll_size _ _)⟩
    (fun p hp => ⟨hk₁ _ _ (N p hp).1, Nat.ne_of_lt (Heap.lt_size (N p hp).1), hideAll_none _ (List.mem_map_of_mem hp)⟩) BG (X₀.keeps st) (T.keeps st) (fun p hp => Heap.lt_size (N p hp).1)
theorem ks_builtin {M : Model} {A : Around} {E : Value → Shared → Prop} {s : Shared} {L' : Addr} {x : Str} {np : Pos} {v : Value} {Q : Value → Shared → Prop} (X₀ : K.In h₀) (T : Top p loose mean mg mb h₀) (hn : nsIn K mainGlobals x = some none) (hb : bootBuiltins x = some v)
    (st : h₀.StaysIn s.heap) (h : Q v s) (hx : scope.names.lookup x = some .globalImplicit) (hk : scope.kind = .function) (hnn : x ≠ "__name__") (hd : (x == ("__debug__" : Str)) = false) :
    wpAny M A (eval (.Name x np) (ksEnv qual scope L' f cdv cc)) Q E s := by
  refine wpAny_Name (ks_loadName_global hk hx ?_) hd
  exact loadGlobal_builtin (env := ksEnv qual scope L' f cdv cc) (T.g.keeps st) (mg_none_of X₀ T.g hn) (T.b.keeps st) ((T.builtins _ hnn).trans hb) h
end
section
variable {prog : Program} {w : World} {A : Around} {E : Value → Shared → Prop} {s : Shared} {h₀ : Heap} {L : Addr} {news : List (Addr × Obj)} {value slice : PySem.Expr} {l : Addr} {vs : List Value} {n c : Nat} {u : Tok} {Q : Value → Shared → Prop}
theorem item_end (hA : A.handled = none) (N : News h₀ L s.heap news) (hm : (l, listOf vs.toArray c) ∈ news) (hx : vs[n + 1]? = none) (hn : n ≤ 1000)
    (hE : ∀ h' tk e, Heap.NewExc s.heap h' e "IndexError" → E (.ref e) { s with heap := h', toks := tk })
    (hs : subscripted slice false (.ref l) (.int ((n : Int) + 1) u) = operate [.ref l, .int ((n : Int) + 1) u] (getItem (.ref l) (.int ((n : Int) + 1) u)) := by with_unfolding_all rfl) :
    wpAny (model prog w) A (subscriptTail value slice (.ref l) (.int ((n : Int) + 1) u)) Q E s :=
  item_outK hA ⟨_, (N _ hm).1, rfl, _, rfl⟩ (.inr (by have := List.getElem?_eq_none_iff.mp hx; simp; omega)) (by omega) (by omega) hE hs
theorem sub_index : isSubtype (.type "IndexError") (.type "IndexError") = pure true := by rw [isSubtype_type]; kernel_rfl
end
end Mine
local macro_rules | `(tactic| walk_at "call builtin:_bisect.insort_right cons nil") => `(tactic| (k_here; k_dflt (refine' Mine.insort_e ?B ?F ?X ?T ?N ?A ?f ?k ?room ?un ?I ?ne ?x ?sub ?_; (case I => with_reducible assumption); (case A => first | assumption | exact rfl); (case f => first | assumption | exact rfl); (case k => first | assumption | exact rfl); (case B => k_asm); (case F => k_asm); (case X => k_asm); (case T => k_asm); (case N => k_asm); (case ne => with_reducible assumption); (case x => rfl); (case sub => k_allIn); (case room => k_room); (case un => k_units); k_whole); intro h' tk' c' F' N'; (try k_sweep); walk_say "MINE insort"))
local macro_rules | `(tactic| walk_at "call builtin:list.index nil") => `(tactic| (k_here; k_dflt (show wpAny _ _ (call (Value.builtin "list.index") [Value.ref _, Value.ref _]) _ _ _); k_dflt (refine' Mine.index_e ?B ?F ?X ?T ?N ?A ?f ?k ?room ?un ?I ?x ?sub ?_; (case I => with_reducible assumption); (case A => first | assumption | exact rfl); (case f => first | assumption | exact rfl); (case k => first | assumption | exact rfl); (case B => k_asm); (case F => k_asm); (case X => k_asm); (case T => k_asm); (case N => k_asm); (case x => rfl); (case sub => k_allIn); (case room => k_room); (case un => k_units); k_whole); intro h' tk' t' F' N'; (try k_sweep); walk_say "MINE index"))
local macro_rules | `(tactic| k_units) => `(tactic| ((try simp only [units_in1, units_deeper, Around.mark_units, units_caller, cLine]); omega))
local macro_rules | `(tactic| walk_at "noteFrame ref") => `(tactic| (k_here; k_dflt (refine' Mine.caught_own ?fr ?fc ?fl ?kc ?kl ?FG ?F ?N ?x PySem.F.isExc_IndexError PySem.F.notTuple_IndexError Mine.sub_index ?ev ?_; (case fr => rfl); (case fc => rfl); (case fl => with_reducible assumption); (case kc => rfl); (case kl => with_reducible assumption); (case x => with_reducible assumption); (case F => with_reducible assumption); (case N => with_reducible assumption); (case FG => with_reducible assumption); (case ev => exact fun _ _ _ _ st q => Mine.ks_builtin (by with_reducible assumption) (by with_reducible assumption) (by k_is) PyProof.Rows.Boot.«IndexError» st q rfl rfl (by decide) (by decide)); k_whole); intro h' F' N'; walk_say "MINE caught"))
local macro_rules | `(tactic| k_is) => `(tactic| with_reducible assumption)
local macro_rules | `(tactic| ks_is) => `(tactic| with_reducible assumption)
local macro_rules | `(tactic| walk_at "subscriptTail Name BinOp ref int") => `(tactic| (k_here; k_dflt (first
  | ((with_reducible show wpAny _ _ (subscriptTail _ _ (Value.ref _) (Value.int (_ - 1) _)) _ _ _); refine' Mine.item_prev ?N ?m ?x ?p ?n ?_ ?s; (case N => k_asm); (case x => with_reducible assumption); (case m => k_mem); (case p => with_reducible assumption); (case n => with_reducible assumption); (case s => with_unfolding_all rfl); k_whole; walk_say "MINE prev")
  | ((with_reducible show wpAny _ _ (subscriptTail _ _ (Value.ref _) (Value.int (_ + 1) _)) _ _ _); refine' Mine.item_next ?N ?m ?x ?n ?_ ?s; (case N => k_asm); (case x => with_reducible assumption); (case m => k_mem); (case n => with_reducible assumption); (case s => with_unfolding_all rfl); k_whole; walk_say "MINE next")
  | ((with_reducible show wpAny _ _ (subscriptTail _ _ (Value.ref _) (Value.int (_ + 1) _)) _ _ _); refine' Mine.item_end ?h ?N ?m ?x ?n ?_ ?s; (case h => rfl); (case N => k_asm); (case x => with_reducible assumption); (case m => k_mem); (case n => with_reducible assumption); (case s => with_unfolding_all rfl); k_whole; intro h' tk' e' hx'; (try dsimp only); walk_say "MINE end"))))
namespace Mine
/-- what the walks ask of a node's class -/
structure NodeCls (K : Frag) (C : Addr) : Prop where
  get : plainGet K C (Str.ofString "entries") = true
  dict : hasDictIn K C = true
  entries : findIn K (.ref C) (Str.ofString "entries") = some none
  mro : mroIn K C (.ref 524) = some true
  ins : ks_superIn K C 524 (Str.ofString "insert_entry") = some (some (.ref 421))
section
variable {w : World} {A A₀ : Around} {base h₀ : Heap} {outer : List Env} {env : Env} {L : Addr} {m mg mb : Str → Option Value} {p : Program} {loose : List Str} {mean : ExcName → Option Value} {s : Shared} {R : Result → Shared → Prop}
  {core : List (Addr × Obj)} {el x dx conf C : Addr} {no : Obj} {nt mx : Int} {page : Value} {c : Nat} {E1 E2 : List Ent} {e pe ne : Ent}
theorem ins_ss (B : Below A₀ base outer h₀) (F : Fr h₀ L s.heap m) (X : (hd.heap_39 w.params).In h₀) (T : Top p loose mean mg mb h₀)
    (N : News h₀ L s.heap ((el, listOf (refs (E1 ++ E2)).toArray c) :: (pe.a, instObj 328 pe.d) :: (pe.d, pe.o) :: (ne.a, instObj 328 ne.d) :: (ne.d, ne.o) :: core))
    (hA : A.frames = some (env :: outer)) (hf : env.frame = some L) (hke : env.scope.kind = .function) (hroom : A.depth < 700) (hun : A.units < 7000) (hC : NodeCls (hd.heap_39 w.params) C)
    (hI : InsOk w.params ((pe.a, instObj 328 pe.d) :: (pe.d, pe.o) :: (ne.a, instObj 328 ne.d) :: (ne.d, ne.o) :: core) E1 E2 e)
    (hne : ∀ p ∈ (pe.a, instObj 328 pe.d) :: (pe.d, pe.o) :: (ne.a, instObj 328 ne.d) :: (ne.d, ne.o) :: core, p.1 ≠ el)
    (hx : (x, instObj C dx) ∈ core) (hdx : (dx, no) ∈ core) (hno : IsNode w.params nt mx conf el page no)
    (he : (e.a, instObj 328 e.d) ∈ core) (hde : (e.d, e.o) ∈ core) (hre : IsRef w.params e.k e.b e.f e.o)
    (hq : E1.length ≤ 1000)
    (hrp : IsRef w.params pe.k pe.b pe.f pe.o) (n1 : @Ne Nat pe.a pe.d) (n6 : @Ne Nat el pe.d) (n8 : ∀ p ∈ core, p.1 ≠ pe.d) (hp : 0 < E1.length) (hpe : (refs (E1 ++ e :: E2))[E1.length - 1]? = some (.ref pe.a))
    (hrn : IsRef w.params ne.k ne.b ne.f ne.o) (n4 : @Ne Nat ne.a ne.d) (n7 : @Ne Nat el ne.d) (n9 : ∀ p ∈ core, p.1 ≠ ne.d) (hnx : (refs (E1 ++ e :: E2))[E1.length + 1]? = some (.ref ne.a))
    (n2 : @Ne Nat ne.a pe.d) (n3 : @Ne Nat ne.d pe.d) (n5 : @Ne Nat pe.a ne.d)
    (k : ∀ h' tk c' pe' ne', Fr h₀ L h' m → News h₀ L h' ((el, listOf (refs (E1 ++ e :: E2)).toArray c') :: (pe.a, instObj 328 pe.d) :: (pe.d, pe') :: (ne.a, instObj 328 ne.d) :: (ne.d, ne') :: core) → IsRef w.params pe.k pe.b e.b pe' → IsRef w.params ne.k e.f ne.f ne' → R (.ok (.ret .none)) { s with heap := h', toks := tk }) :
    codeAny (model PySem.Challenge.rw_vq0003_01.row.prog w) A (.call (.ref 521) ⟨[.ref x, .ref e.a], []⟩) R s := by
  obtain ⟨_, _, _, _, _, _, _, _, _, _, _, _, rfl⟩ := hno
  obtain ⟨ea, ed, eo, ek, eb, ef⟩ := e
  obtain ⟨pa, pd, po, pk, pb, pf⟩ := pe
  obtain ⟨na, nd, no, nk, nb, nf⟩ := ne
  dsimp only at *
  obtain ⟨_, _, _, _, _, _, _, _, _, _, rfl⟩ := hre
  obtain ⟨_, _, _, _, _, _, _, _, _, _, rfl⟩ := hrp
  obtain ⟨_, _, _, _, _, _, _, _, _, _, rfl⟩ := hrn
  obtain ⟨c1, c2, c3, c4, c5⟩ := hC
  revert X; k_fill; intro X
  obtain ⟨hd', dp', fr', gd', un'⟩ := A
  dsimp only at hA hroom hun
  subst hA
  w_on
  ks_enter
  k_steps
  refine' k _ _ _ _ _ ?F ?N ⟨_, _, _, _, _, _, _, _, _, _, rfl⟩ ⟨_, _, _, _, _, _, _, _, _, _, rfl⟩
  case F => with_reducible assumption
  case N => assumption
theorem ins_ns (B : Below A₀ base outer h₀) (F : Fr h₀ L s.heap m) (X : (hd.heap_39 w.params).In h₀) (T : Top p loose mean mg mb h₀)
    (N : News h₀ L s.heap ((el, listOf (refs (E1 ++ E2)).toArray c) :: (ne.a, instObj 328 ne.d) :: (ne.d, ne.o) :: core))
    (hA : A.frames = some (env :: outer)) (hf : env.frame = some L) (hke : env.scope.kind = .function) (hroom : A.depth < 700) (hun : A.units < 7000) (hC : NodeCls (hd.heap_39 w.params) C)
    (hI : InsOk w.params ((ne.a, instObj 328 ne.d) :: (ne.d, ne.o) :: core) E1 E2 e)
    (hne : ∀ p ∈ (ne.a, instObj 328 ne.d) :: (ne.d, ne.o) :: core, p.1 ≠ el)
    (hx : (x, instObj C dx) ∈ core) (hdx : (dx, no) ∈ core) (hno : IsNode w.params nt mx conf el page no)
    (he : (e.a, instObj 328 e.d) ∈ core) (hde : (e.d, e.o) ∈ core) (hre : IsRef w.params e.k e.b e.f e.o)
    (hq : E1.length ≤ 1000)
    (hp : E1.length = 0)
    (hrn : IsRef w.params ne.k ne.b ne.f ne.o) (n4 : @Ne Nat ne.a ne.d) (n7 : @Ne Nat el ne.d) (n9 : ∀ p ∈ core, p.1 ≠ ne.d) (hnx : (refs (E1 ++ e :: E2))[E1.length + 1]? = some (.ref ne.a))
    (k : ∀ h' tk c' ne', Fr h₀ L h' m → News h₀ L h' ((el, listOf (refs (E1 ++ e :: E2)).toArray c') :: (ne.a, instObj 328 ne.d) :: (ne.d, ne') :: core) → IsRef w.params ne.k e.f ne.f ne' → R (.ok (.ret .none)) { s with heap := h', toks := tk }) :
    codeAny (model PySem.Challenge.rw_vq0003_01.row.prog w) A (.call (.ref 521) ⟨[.ref x, .ref e.a], []⟩) R s := by
  obtain ⟨_, _, _, _, _, _, _, _, _, _, _, _, rfl⟩ := hno
  obtain ⟨ea, ed, eo, ek, eb, ef⟩ := e
  obtain ⟨na, nd, no, nk, nb, nf⟩ := ne
  dsimp only at *
  obtain ⟨_, _, _, _, _, _, _, _, _, _, rfl⟩ := hre
  obtain ⟨_, _, _, _, _, _, _, _, _, _, rfl⟩ := hrn
  obtain ⟨c1, c2, c3, c4, c5⟩ := hC
  revert X; k_fill; intro X
  obtain ⟨hd', dp', fr', gd', un'⟩ := A
  dsimp only at hA hroom hun
  subst hA
  w_on
  ks_enter
  k_steps
  refine' k _ _ _ _ ?F ?N ⟨_, _, _, _, _, _, _, _, _, _, rfl⟩
  case F => with_reducible assumption
  case N => assumption
end
/- the end of the list -/
section
variable {w : World} {A A₀ : Around} {base h₀ : Heap} {outer : List Env} {env : Env} {L : Addr} {m mg mb : Str → Option Value} {p : Program} {loose : List Str} {mean : ExcName → Option Value} {s : Shared} {R : Result → Shared → Prop}
  {core : List (Addr × Obj)} {el x dx conf C : Addr} {no : Obj} {nt mx : Int} {page : Value} {c : Nat} {E1 E2 : List Ent} {e pe ne : Ent}
theorem ins_sn (B : Below A₀ base [] h₀) (F : Fr h₀ L s.heap m) (X : (hd.heap_39 w.params).In h₀) (T : Top p loose mean mg mb h₀)
    (N : News h₀ L s.heap ((el, listOf (refs (E1 ++ E2)).toArray c) :: (pe.a, instObj 328 pe.d) :: (pe.d, pe.o) :: core))
    (hA : A.frames = some [env]) (hh : A.handled = none) (hf : env.frame = some L) (hke : env.scope.kind = .function) (hroom : A.depth < 700) (hun : A.units < 7000) (hC : NodeCls (hd.heap_39 w.params) C)
    (hI : InsOk w.params ((pe.a, instObj 328 pe.d) :: (pe.d, pe.o) :: core) E1 E2 e)
    (hne : ∀ p ∈ (pe.a, instObj 328 pe.d) :: (pe.d, pe.o) :: core, p.1 ≠ el)
    (hx : (x, instObj C dx) ∈ core) (hdx : (dx, no) ∈ core) (hno : IsNode w.params nt mx conf el page no)
    (he : (e.a, instObj 328 e.d) ∈ core) (hde : (e.d, e.o) ∈ core) (hre : IsRef w.params e.k e.b e.f e.o)
    (hq : E1.length ≤ 1000)
    (hrp : IsRef w.params pe.k pe.b pe.f pe.o) (n1 : @Ne Nat pe.a pe.d) (n6 : @Ne Nat el pe.d) (n8 : ∀ p ∈ core, p.1 ≠ pe.d) (hp : 0 < E1.length) (hpe : (refs (E1 ++ e :: E2))[E1.length - 1]? = some (.ref pe.a))
    (hnx : (refs (E1 ++ e :: E2))[E1.length + 1]? = none)
    (k : ∀ h' tk c' pe', Fr h₀ L h' m → News h₀ L h' ((el, listOf (refs (E1 ++ e :: E2)).toArray c') :: (pe.a, instObj 328 pe.d) :: (pe.d, pe') :: core) → IsRef w.params pe.k pe.b e.b pe' → R (.ok (.ret .none)) { s with heap := h', toks := tk }) :
    codeAny (model PySem.Challenge.rw_vq0003_01.row.prog w) A (.call (.ref 521) ⟨[.ref x, .ref e.a], []⟩) R s := by
  obtain ⟨_, _, _, _, _, _, _, _, _, _, _, _, rfl⟩ := hno
  obtain ⟨ea, ed, eo, ek, eb, ef⟩ := e
  obtain ⟨pa, pd, po, pk, pb, pf⟩ := pe
  dsimp only at *
  obtain ⟨_, _, _, _, _, _, _, _, _, _, rfl⟩ := hre
  obtain ⟨_, _, _, _, _, _, _, _, _, _, rfl⟩ := hrp
  obtain ⟨c1, c2, c3, c4, c5⟩ := hC
  revert X; k_fill; intro X
  obtain ⟨hd', dp', fr', gd', un'⟩ := A
  dsimp only at hA hroom hun hh
  subst hA hh
  w_on
  refine' raw_super ?k1 ?k2 ?k3 ?k4 ?k5 ?kA ?kF ?kK ?k6 ?k7 ?k8 ?k9 ?kB ?_ ?c1 ?c2 ?c3 ?c4; (case kA => rfl); (case kF => assumption); (case kK => assumption); (case k1 => k_asm); (case k2 => k_asm); (case k3 => k_asm); (case k4 => k_asm); (case k5 => k_asm); (case k6 => k_is); (case k7 => k_is); (case k8 => k_room); (case k9 => exact BindsTo.of_eq rfl); (case kB => exact locs rfl); (case c1 => decide); (case c2 => exact rfl); (case c3 => exact rfl); (case c4 => exact rfl); intro g' L' h' FG' F' N' B' X' T' l1; (try k_lt l1); (try dsimp only); (try k_lift B')
  k_steps
  refine' k _ _ _ _ ?F ?N ⟨_, _, _, _, _, _, _, _, _, _, rfl⟩
  case F => with_reducible assumption
  case N => assumption
theorem ins_nn (B : Below A₀ base [] h₀) (F : Fr h₀ L s.heap m) (X : (hd.heap_39 w.params).In h₀) (T : Top p loose mean mg mb h₀)
    (N : News h₀ L s.heap ((el, listOf (refs (E1 ++ E2)).toArray c) :: core))
    (hA : A.frames = some [env]) (hh : A.handled = none) (hf : env.frame = some L) (hke : env.scope.kind = .function) (hroom : A.depth < 700) (hun : A.units < 7000) (hC : NodeCls (hd.heap_39 w.params) C)
    (hI : InsOk w.params (core) E1 E2 e)
    (hne : ∀ p ∈ core, p.1 ≠ el)
    (hx : (x, instObj C dx) ∈ core) (hdx : (dx, no) ∈ core) (hno : IsNode w.params nt mx conf el page no)
    (he : (e.a, instObj 328 e.d) ∈ core) (hde : (e.d, e.o) ∈ core) (hre : IsRef w.params e.k e.b e.f e.o)
    (hq : E1.length ≤ 1000)
    (hp : E1.length = 0)
    (hnx : (refs (E1 ++ e :: E2))[E1.length + 1]? = none)
    (k : ∀ h' tk c', Fr h₀ L h' m → News h₀ L h' ((el, listOf (refs (E1 ++ e :: E2)).toArray c') :: core) → R (.ok (.ret .none)) { s with heap := h', toks := tk }) :
    codeAny (model PySem.Challenge.rw_vq0003_01.row.prog w) A (.call (.ref 521) ⟨[.ref x, .ref e.a], []⟩) R s := by
  obtain ⟨_, _, _, _, _, _, _, _, _, _, _, _, rfl⟩ := hno
  obtain ⟨ea, ed, eo, ek, eb, ef⟩ := e
  dsimp only at *
  obtain ⟨_, _, _, _, _, _, _, _, _, _, rfl⟩ := hre
  obtain ⟨c1, c2, c3, c4, c5⟩ := hC
  revert X; k_fill; intro X
  obtain ⟨hd', dp', fr', gd', un'⟩ := A
  dsimp only at hA hroom hun hh
  subst hA hh
  w_on
  refine' raw_super ?k1 ?k2 ?k3 ?k4 ?k5 ?kA ?kF ?kK ?k6 ?k7 ?k8 ?k9 ?kB ?_ ?c1 ?c2 ?c3 ?c4; (case kA => rfl); (case kF => assumption); (case kK => assumption); (case k1 => k_asm); (case k2 => k_asm); (case k3 => k_asm); (case k4 => k_asm); (case k5 => k_asm); (case k6 => k_is); (case k7 => k_is); (case k8 => k_room); (case k9 => exact BindsTo.of_eq rfl); (case kB => exact locs rfl); (case c1 => decide); (case c2 => exact rfl); (case c3 => exact rfl); (case c4 => exact rfl); intro g' L' h' FG' F' N' B' X' T' l1; (try k_lt l1); (try dsimp only); (try k_lift B')
  k_steps
  refine' k _ _ _ ?F ?N
  case F => with_reducible assumption
  case N => assumption
end
end Mine
namespace Mine
/-- the last of a list replaced -/
def setLs (l : List Int) (v : Int) : List Int := if l = [] then [] else l.dropLast ++ [v]
/-- the first of a list replaced -/
def setHd : List Int → Int → List Int
  | [], _ => []
  | _ :: t, v => v :: t
theorem setLs_snoc (l : List Int) (x v : Int) : setLs (l ++ [x]) v = l ++ [v] := by simp [setLs]
/-- the entries after e was put in: their addresses and keys stay, the neighbours' pages are set -/
structure Put (E' : List Ent) (E1 E2 : List Ent) (e : Ent) : Prop where
  a : E'.map (·.a) = (E1 ++ e :: E2).map (·.a)
  d : E'.map (·.d) = (E1 ++ e :: E2).map (·.d)
  k : E'.map (·.k) = (E1 ++ e :: E2).map (·.k)
  b : E'.map (·.b) = E1.map (·.b) ++ e.b :: setHd (E2.map (·.b)) e.f
  f : E'.map (·.f) = setLs (E1.map (·.f)) e.b ++ e.f :: E2.map (·.f)
theorem entObjs_nil : entObjs [] = [] := rfl
/-- the addresses of a ledger -/
abbrev adrs (l : List (Addr × Obj)) : List Nat := l.map fun p => p.1
theorem adrs_ne {l : List (Addr × Obj)} {x : Addr} (h : x ∉ adrs l) : ∀ p ∈ l, p.1 ≠ x := by
  intro p hp e
  exact h (List.mem_map.mpr ⟨p, hp, e⟩)
set_option linter.unusedSimpArgs false
section
variable {w : World} {A A₀ : Around} {base h₀ : Heap} {env : Env} {L : Addr} {m mg mb : Str → Option Value} {p : Program} {loose : List Str} {mean : ExcName → Option Value} {s : Shared} {R : Result → Shared → Prop}
  {core : List (Addr × Obj)} {el x dx conf C : Addr} {no : Obj} {nt mx : Int} {page : Value} {c : Nat} {E1 E2 : List Ent} {e : Ent}
theorem insert_c (B : Below A₀ base [] h₀) (F : Fr h₀ L s.heap m) (X : (hd.heap_39 w.params).In h₀) (T : Top p loose mean mg mb h₀)
    (N : News h₀ L s.heap ((el, listOf (refs (E1 ++ E2)).toArray c) :: (entObjs (E1 ++ e :: E2) ++ core)))
    (hA : A.frames = some [env]) (hh : A.handled = none) (hf : env.frame = some L) (hke : env.scope.kind = .function) (hroom : A.depth < 700) (hun : A.units < 7000) (hC : NodeCls (hd.heap_39 w.params) C)
    (hnd : (el :: adrs (entObjs (E1 ++ e :: E2) ++ core)).Nodup) (hG : Good w.params (E1 ++ e :: E2))
    (hlt : ∀ y ∈ E1, y.k < e.k) (hgt : ∀ y ∈ E2, e.k < y.k) (hlen : (E1 ++ E2).length ≤ 100)
    (hx : (x, instObj C dx) ∈ core) (hdx : (dx, no) ∈ core) (hno : IsNode w.params nt mx conf el page no)
    (k : ∀ h' tk c' E', Fr h₀ L h' m → News h₀ L h' ((el, listOf (refs E').toArray c') :: (entObjs E' ++ core)) → Good w.params E' → Put E' E1 E2 e → R (.ok (.ret .none)) { s with heap := h', toks := tk }) :
    codeAny (model PySem.Challenge.rw_vq0003_01.row.prog w) A (.call (.ref 521) ⟨[.ref x, .ref e.a], []⟩) R s := by
  have hre : IsRef w.params e.k e.b e.f e.o := hG e (by simp)
  rcases List.eq_nil_or_concat E1 with rfl | ⟨F1, pe, rfl⟩
  · cases E2 with
    | nil =>
      have hmem : ∀ q, q ∈ ((e.a, instObj 328 e.d) :: (e.d, e.o) :: (entObjs ([] : List Ent) ++ (entObjs ([] : List Ent) ++ core))) ↔ q ∈ entObjs (([] : List Ent) ++ e :: ([] : List Ent)) ++ core := by intro q; simp only [entObjs_append, entObjs_nil, entObjs_cons, List.mem_append, List.mem_cons, List.append_assoc, List.cons_append, List.nil_append, List.append_nil]; (try grind)
      have hperm : (el :: adrs (((e.a, instObj 328 e.d) :: (e.d, e.o) :: (entObjs ([] : List Ent) ++ (entObjs ([] : List Ent) ++ core))))).Nodup := by simp only [entObjs_append, entObjs_nil, entObjs_cons, List.append_assoc, List.cons_append, List.nil_append, List.append_nil, adrs, List.map_append, List.map_cons] at hnd ⊢; exact (List.Perm.nodup_iff (List.perm_iff_count.mpr fun z => by simp only [List.count_append, List.count_cons] <;> omega)).mp hnd
      have hnes := adrs_ne (List.nodup_cons.mp hperm).1
      have hb : Bears w.params (((e.a, instObj 328 e.d) :: (e.d, e.o) :: (entObjs ([] : List Ent) ++ (entObjs ([] : List Ent) ++ core)))) (([] : List Ent) ++ e :: ([] : List Ent)) := hG.bears fun q hq => (hmem q).mpr (List.mem_append.mpr (.inl hq))
      have hnd2 := hperm
      simp only [adrs, List.map_cons, List.nodup_cons, List.mem_cons, not_or] at hnd2
      refine' ins_nn (E1 := ([] : List Ent)) (E2 := ([] : List Ent)) (core := ((e.a, instObj 328 e.d) :: (e.d, e.o) :: (entObjs ([] : List Ent) ++ (entObjs ([] : List Ent) ++ core)))) B F X T ?N hA hh hf hke hroom hun hC ⟨hb, hlt, hgt, ?other, hlen⟩ hnes ?hx ?hdx hno ?he ?hde hre ?hq rfl ?hnx ?kk
      case N => exact News.sub N fun q hq => (List.mem_cons.mp hq).elim (fun h => h ▸ .head _) fun h => .tail _ ((hmem q).mp h)
      case other => intro y hy he; have := hlt y hy; have hy2 : (y.a, instObj 328 y.d) ∈ entObjs ([] : List Ent) := entObjs_inst hy; clear N hmem hb; simp only [entObjs_append, entObjs_nil, entObjs_cons, List.append_assoc, List.cons_append, List.nil_append, List.append_nil, adrs, List.map_append, List.map_cons] at hnd hy2; grind
      case hx => exact .tail _ (.tail _ (List.mem_append.mpr (.inr (List.mem_append.mpr (.inr hx)))))
      case hdx => exact .tail _ (.tail _ (List.mem_append.mpr (.inr (List.mem_append.mpr (.inr hdx)))))
      case he => exact .head _
      case hde => exact .tail _ (.head _)
      case hq => simp at hlen ⊢ <;> omega
      case hnx => simp [refs]
      case kk =>
        intro h' tk c' F' N'
        refine k h' tk c' (e :: []) F' ?_ ?_ ⟨?_, ?_, ?_, ?_, ?_⟩
        · have er : refs (e :: []) = refs (([] : List Ent) ++ e :: ([] : List Ent)) := by simp [refs]
          rw [er]
          refine News.sub N' fun q hq => ?_
          clear N N' hmem hb hnes hnd hnd2 hperm
          simp only [entObjs_append, entObjs_nil, entObjs_cons, List.mem_append, List.mem_cons, List.append_assoc, List.cons_append, List.nil_append, List.append_nil] at hq ⊢
          grind
        · intro y hy
          simp only [List.mem_append, List.mem_cons] at hy
          rcases hy with rfl | hy
          · exact hre
          · cases hy
        · simp
        · simp
        · simp
        · simp [setHd]
        · simp [setLs]
    | cons ne F2 =>
      have hmem : ∀ q, q ∈ (ne.a, instObj 328 ne.d) :: (ne.d, ne.o) :: ((e.a, instObj 328 e.d) :: (e.d, e.o) :: (entObjs ([] : List Ent) ++ (entObjs F2 ++ core))) ↔ q ∈ entObjs (([] : List Ent) ++ e :: (ne :: F2)) ++ core := by intro q; simp only [entObjs_append, entObjs_nil, entObjs_cons, List.mem_append, List.mem_cons, List.append_assoc, List.cons_append, List.nil_append, List.append_nil]; (try grind)
      have hperm : (el :: adrs ((ne.a, instObj 328 ne.d) :: (ne.d, ne.o) :: ((e.a, instObj 328 e.d) :: (e.d, e.o) :: (entObjs ([] : List Ent) ++ (entObjs F2 ++ core))))).Nodup := by simp only [entObjs_append, entObjs_nil, entObjs_cons, List.append_assoc, List.cons_append, List.nil_append, List.append_nil, adrs, List.map_append, List.map_cons] at hnd ⊢; exact (List.Perm.nodup_iff (List.perm_iff_count.mpr fun z => by simp only [List.count_append, List.count_cons] <;> omega)).mp hnd
      have hnes := adrs_ne (List.nodup_cons.mp hperm).1
      have hb : Bears w.params ((ne.a, instObj 328 ne.d) :: (ne.d, ne.o) :: ((e.a, instObj 328 e.d) :: (e.d, e.o) :: (entObjs ([] : List Ent) ++ (entObjs F2 ++ core)))) (([] : List Ent) ++ e :: (ne :: F2)) := hG.bears fun q hq => (hmem q).mpr (List.mem_append.mpr (.inl hq))
      have hnd2 := hperm
      simp only [adrs, List.map_cons, List.nodup_cons, List.mem_cons, not_or] at hnd2
      refine' ins_ns (E1 := ([] : List Ent)) (E2 := (ne :: F2)) (core := ((e.a, instObj 328 e.d) :: (e.d, e.o) :: (entObjs ([] : List Ent) ++ (entObjs F2 ++ core)))) (ne := ne) B F X T ?N hA hf hke hroom hun hC ⟨hb, hlt, hgt, ?other, hlen⟩ hnes ?hx ?hdx hno ?he ?hde hre ?hq rfl (hG ne (by simp)) ?n4 ?n7 ?n9 ?hnx ?kk
      case N => exact News.sub N fun q hq => (List.mem_cons.mp hq).elim (fun h => h ▸ .head _) fun h => .tail _ ((hmem q).mp h)
      case other => intro y hy he; have := hlt y hy; have hy2 : (y.a, instObj 328 y.d) ∈ entObjs ([] : List Ent) := entObjs_inst hy; clear N hmem hb; simp only [entObjs_append, entObjs_nil, entObjs_cons, List.append_assoc, List.cons_append, List.nil_append, List.append_nil, adrs, List.map_append, List.map_cons] at hnd hy2; grind
      case hx => exact .tail _ (.tail _ (List.mem_append.mpr (.inr (List.mem_append.mpr (.inr hx)))))
      case hdx => exact .tail _ (.tail _ (List.mem_append.mpr (.inr (List.mem_append.mpr (.inr hdx)))))
      case he => exact .head _
      case hde => exact .tail _ (.head _)
      case hq => simp at hlen ⊢ <;> omega
      case n4 => clear N hmem hb hnes; grind
      case n7 => clear N hmem hb hnes; grind
      case n9 => clear N hmem hb hnes; exact adrs_ne (by simp only [adrs]; grind)
      case hnx => simp [refs, List.getElem?_append]
      case kk =>
        intro h' tk c' ne' F' N' r2
        refine k h' tk c' (e :: (⟨ne.a, ne.d, ne', ne.k, e.f, ne.f⟩ : Ent) :: F2) F' ?_ ?_ ⟨?_, ?_, ?_, ?_, ?_⟩
        · have er : refs (e :: (⟨ne.a, ne.d, ne', ne.k, e.f, ne.f⟩ : Ent) :: F2) = refs (([] : List Ent) ++ e :: (ne :: F2)) := by simp [refs]
          rw [er]
          refine News.sub N' fun q hq => ?_
          clear N N' hmem hb hnes hnd hnd2 hperm
          simp only [entObjs_append, entObjs_nil, entObjs_cons, List.mem_append, List.mem_cons, List.append_assoc, List.cons_append, List.nil_append, List.append_nil] at hq ⊢
          grind
        · intro y hy
          simp only [List.mem_append, List.mem_cons] at hy
          rcases hy with rfl | rfl | hy
          · exact hre
          · exact r2
          · exact hG y (by simp [hy])
        · simp
        · simp
        · simp
        · simp [setHd]
        · simp [setLs]
  · simp only [List.concat_eq_append] at *
    cases E2 with
    | nil =>
      have hmem : ∀ q, q ∈ (pe.a, instObj 328 pe.d) :: (pe.d, pe.o) :: ((e.a, instObj 328 e.d) :: (e.d, e.o) :: (entObjs F1 ++ (entObjs ([] : List Ent) ++ core))) ↔ q ∈ entObjs ((F1 ++ [pe]) ++ e :: ([] : List Ent)) ++ core := by intro q; simp only [entObjs_append, entObjs_nil, entObjs_cons, List.mem_append, List.mem_cons, List.append_assoc, List.cons_append, List.nil_append, List.append_nil]; (try grind)
      have hperm : (el :: adrs ((pe.a, instObj 328 pe.d) :: (pe.d, pe.o) :: ((e.a, instObj 328 e.d) :: (e.d, e.o) :: (entObjs F1 ++ (entObjs ([] : List Ent) ++ core))))).Nodup := by simp only [entObjs_append, entObjs_nil, entObjs_cons, List.append_assoc, List.cons_append, List.nil_append, List.append_nil, adrs, List.map_append, List.map_cons] at hnd ⊢; exact (List.Perm.nodup_iff (List.perm_iff_count.mpr fun z => by simp only [List.count_append, List.count_cons] <;> omega)).mp hnd
      have hnes := adrs_ne (List.nodup_cons.mp hperm).1
      have hb : Bears w.params ((pe.a, instObj 328 pe.d) :: (pe.d, pe.o) :: ((e.a, instObj 328 e.d) :: (e.d, e.o) :: (entObjs F1 ++ (entObjs ([] : List Ent) ++ core)))) ((F1 ++ [pe]) ++ e :: ([] : List Ent)) := hG.bears fun q hq => (hmem q).mpr (List.mem_append.mpr (.inl hq))
      have hnd2 := hperm
      simp only [adrs, List.map_cons, List.nodup_cons, List.mem_cons, not_or] at hnd2
      refine' ins_sn (E1 := (F1 ++ [pe])) (E2 := ([] : List Ent)) (core := ((e.a, instObj 328 e.d) :: (e.d, e.o) :: (entObjs F1 ++ (entObjs ([] : List Ent) ++ core)))) (pe := pe) B F X T ?N hA hh hf hke hroom hun hC ⟨hb, hlt, hgt, ?other, hlen⟩ hnes ?hx ?hdx hno ?he ?hde hre ?hq (hG pe (by simp)) ?n1 ?n6 ?n8 ?hp ?hpe ?hnx ?kk
      case N => exact News.sub N fun q hq => (List.mem_cons.mp hq).elim (fun h => h ▸ .head _) fun h => .tail _ ((hmem q).mp h)
      case other => intro y hy he; have := hlt y hy; have hy2 : (y.a, instObj 328 y.d) ∈ entObjs (F1 ++ [pe]) := entObjs_inst hy; clear N hmem hb; simp only [entObjs_append, entObjs_nil, entObjs_cons, List.append_assoc, List.cons_append, List.nil_append, List.append_nil, adrs, List.map_append, List.map_cons] at hnd hy2; grind
      case hx => exact .tail _ (.tail _ (List.mem_append.mpr (.inr (List.mem_append.mpr (.inr hx)))))
      case hdx => exact .tail _ (.tail _ (List.mem_append.mpr (.inr (List.mem_append.mpr (.inr hdx)))))
      case he => exact .head _
      case hde => exact .tail _ (.head _)
      case hq => simp at hlen ⊢ <;> omega
      case n1 => clear N hmem hb hnes; grind
      case n6 => clear N hmem hb hnes; grind
      case n8 => clear N hmem hb hnes; exact adrs_ne (by simp only [adrs]; grind)
      case hp => simp
      case hpe => simp [refs, List.getElem?_append]
      case hnx => simp [refs]
      case kk =>
        intro h' tk c' pe' F' N' r1
        refine k h' tk c' (F1 ++ (⟨pe.a, pe.d, pe', pe.k, pe.b, e.b⟩ : Ent) :: e :: []) F' ?_ ?_ ⟨?_, ?_, ?_, ?_, ?_⟩
        · have er : refs (F1 ++ (⟨pe.a, pe.d, pe', pe.k, pe.b, e.b⟩ : Ent) :: e :: []) = refs ((F1 ++ [pe]) ++ e :: ([] : List Ent)) := by simp [refs]
          rw [er]
          refine News.sub N' fun q hq => ?_
          clear N N' hmem hb hnes hnd hnd2 hperm
          simp only [entObjs_append, entObjs_nil, entObjs_cons, List.mem_append, List.mem_cons, List.append_assoc, List.cons_append, List.nil_append, List.append_nil] at hq ⊢
          grind
        · intro y hy
          simp only [List.mem_append, List.mem_cons] at hy
          rcases hy with hy | rfl | rfl | hy
          · exact hG y (by simp [hy])
          · exact r1
          · exact hre
          · cases hy
        · simp
        · simp
        · simp
        · simp [setHd]
        · simp [setLs]
    | cons ne F2 =>
      have hmem : ∀ q, q ∈ (pe.a, instObj 328 pe.d) :: (pe.d, pe.o) :: (ne.a, instObj 328 ne.d) :: (ne.d, ne.o) :: ((e.a, instObj 328 e.d) :: (e.d, e.o) :: (entObjs F1 ++ (entObjs F2 ++ core))) ↔ q ∈ entObjs ((F1 ++ [pe]) ++ e :: (ne :: F2)) ++ core := by intro q; simp only [entObjs_append, entObjs_nil, entObjs_cons, List.mem_append, List.mem_cons, List.append_assoc, List.cons_append, List.nil_append, List.append_nil]; (try grind)
      have hperm : (el :: adrs ((pe.a, instObj 328 pe.d) :: (pe.d, pe.o) :: (ne.a, instObj 328 ne.d) :: (ne.d, ne.o) :: ((e.a, instObj 328 e.d) :: (e.d, e.o) :: (entObjs F1 ++ (entObjs F2 ++ core))))).Nodup := by simp only [entObjs_append, entObjs_nil, entObjs_cons, List.append_assoc, List.cons_append, List.nil_append, List.append_nil, adrs, List.map_append, List.map_cons] at hnd ⊢; exact (List.Perm.nodup_iff (List.perm_iff_count.mpr fun z => by simp only [List.count_append, List.count_cons] <;> omega)).mp hnd
      have hnes := adrs_ne (List.nodup_cons.mp hperm).1
      have hb : Bears w.params ((pe.a, instObj 328 pe.d) :: (pe.d, pe.o) :: (ne.a, instObj 328 ne.d) :: (ne.d, ne.o) :: ((e.a, instObj 328 e.d) :: (e.d, e.o) :: (entObjs F1 ++ (entObjs F2 ++ core)))) ((F1 ++ [pe]) ++ e :: (ne :: F2)) := hG.bears fun q hq => (hmem q).mpr (List.mem_append.mpr (.inl hq))
      have hnd2 := hperm
      simp only [adrs, List.map_cons, List.nodup_cons, List.mem_cons, not_or] at hnd2
      refine' ins_ss (E1 := (F1 ++ [pe])) (E2 := (ne :: F2)) (core := ((e.a, instObj 328 e.d) :: (e.d, e.o) :: (entObjs F1 ++ (entObjs F2 ++ core)))) (pe := pe) (ne := ne) B F X T ?N hA hf hke hroom hun hC ⟨hb, hlt, hgt, ?other, hlen⟩ hnes ?hx ?hdx hno ?he ?hde hre ?hq (hG pe (by simp)) ?n1 ?n6 ?n8 ?hp ?hpe (hG ne (by simp)) ?n4 ?n7 ?n9 ?hnx ?n2 ?n3 ?n5 ?kk
      case N => exact News.sub N fun q hq => (List.mem_cons.mp hq).elim (fun h => h ▸ .head _) fun h => .tail _ ((hmem q).mp h)
      case other => intro y hy he; have := hlt y hy; have hy2 : (y.a, instObj 328 y.d) ∈ entObjs (F1 ++ [pe]) := entObjs_inst hy; clear N hmem hb; simp only [entObjs_append, entObjs_nil, entObjs_cons, List.append_assoc, List.cons_append, List.nil_append, List.append_nil, adrs, List.map_append, List.map_cons] at hnd hy2; grind
      case hx => exact .tail _ (.tail _ (List.mem_append.mpr (.inr (List.mem_append.mpr (.inr hx)))))
      case hdx => exact .tail _ (.tail _ (List.mem_append.mpr (.inr (List.mem_append.mpr (.inr hdx)))))
      case he => exact .head _
      case hde => exact .tail _ (.head _)
      case hq => simp at hlen ⊢ <;> omega
      case n1 => clear N hmem hb hnes; grind
      case n6 => clear N hmem hb hnes; grind
      case n8 => clear N hmem hb hnes; exact adrs_ne (by simp only [adrs]; grind)
      case hp => simp
      case hpe => simp [refs, List.getElem?_append]
      case n4 => clear N hmem hb hnes; grind
      case n7 => clear N hmem hb hnes; grind
      case n9 => clear N hmem hb hnes; exact adrs_ne (by simp only [adrs]; grind)
      case hnx => simp [refs, List.getElem?_append]; rw [if_neg (by omega), show F1.length + 1 + 1 - F1.length = 2 from by omega]; rfl
      case n2 => clear N hmem hb hnes; grind
      case n3 => clear N hmem hb hnes; grind
      case n5 => clear N hmem hb hnes; grind
      case kk =>
        intro h' tk c' pe' ne' F' N' r1 r2
        refine k h' tk c' (F1 ++ (⟨pe.a, pe.d, pe', pe.k, pe.b, e.b⟩ : Ent) :: e :: (⟨ne.a, ne.d, ne', ne.k, e.f, ne.f⟩ : Ent) :: F2) F' ?_ ?_ ⟨?_, ?_, ?_, ?_, ?_⟩
        · have er : refs (F1 ++ (⟨pe.a, pe.d, pe', pe.k, pe.b, e.b⟩ : Ent) :: e :: (⟨ne.a, ne.d, ne', ne.k, e.f, ne.f⟩ : Ent) :: F2) = refs ((F1 ++ [pe]) ++ e :: (ne :: F2)) := by simp [refs]
          rw [er]
          refine News.sub N' fun q hq => ?_
          clear N N' hmem hb hnes hnd hnd2 hperm
          simp only [entObjs_append, entObjs_nil, entObjs_cons, List.mem_append, List.mem_cons, List.append_assoc, List.cons_append, List.nil_append, List.append_nil] at hq ⊢
          grind
        · intro y hy
          simp only [List.mem_append, List.mem_cons] at hy
          rcases hy with hy | rfl | rfl | rfl | hy
          · exact hG y (by simp [hy])
          · exact r1
          · exact hre
          · exact r2
          · exact hG y (by simp [hy])
        · simp
        · simp
        · simp
        · simp [setHd]
        · simp [setLs]
end
end Mine
namespace Mine
section
variable {prog : Program} {w : World} {A : Around} {E : Value → Shared → Prop} {s : Shared} {h₀ : Heap} {L : Addr} {news : List (Addr × Obj)} {l : Addr} {vs : List Value} {c : Nat}
theorem truthy_l0 {Q : Bool → Shared → Prop} (N : News h₀ L s.heap news) (hm : (l, listOf #[] c) ∈ news) (h : Q false { s with toks := s.toks + 1 + 1 }) : wpAny (model prog w) A (truthy (.ref l)) Q E s :=
  wpAny_truthy_list (items := #[]) ⟨_, (N _ hm).1, rfl, _, rfl⟩ (by decide) h
theorem truthy_l1 {Q : Bool → Shared → Prop} (N : News h₀ L s.heap news) (hm : (l, listOf vs.toArray c) ∈ news) (hp : 0 < vs.length) (hn : vs.length ≤ 1000) (h : Q true { s with toks := s.toks + 1 + 1 }) : wpAny (model prog w) A (truthy (.ref l)) Q E s :=
  wpAny_truthy_list (items := vs.toArray) ⟨_, (N _ hm).1, rfl, _, rfl⟩ (by simp; omega) (by
    have : (!vs.toArray.isEmpty) = true := by cases vs with | nil => exact absurd hp (by decide) | cons a b => rfl
    rw [this]; exact h)
theorem len_l {Q : Value → Shared → Prop} (N : News h₀ L s.heap news) (hm : (l, listOf vs.toArray c) ∈ news) (hn : vs.length ≤ 1000) (h : ∀ t, Q (.int vs.length t) { s with toks := s.toks + 1 + 1 }) : wpAny (model prog w) A (call (.builtin "len") [.ref l]) Q E s :=
  call_len_list (items := vs.toArray) ⟨_, (N _ hm).1, rfl, _, rfl⟩ (by simp; omega) (by rw [List.size_toArray]; exact h _)
end
local macro_rules | `(tactic| walk_at "truthy ref") => `(tactic| (k_here; k_dflt (first
  | (refine' Mine.truthy_l0 ?N ?m ?_; (case N => k_asm); (case m => k_mem); k_whole; walk_say "MINE truthy0")
  | (refine' Mine.truthy_l1 ?N ?m ?zp ?zn ?_; (case N => k_asm); (case m => k_mem); (case zp => with_reducible assumption); (case zn => with_reducible assumption); k_whole; walk_say "MINE truthy1"))))
local macro_rules | `(tactic| walk_at "call builtin:len cons nil") => `(tactic| (k_here; k_dflt (refine' Mine.len_l ?N ?m ?n ?_; (case N => k_asm); (case m => k_mem); (case n => first | with_reducible assumption | (simp only [List.length_take, List.length_drop, List.length_append, List.length_map]; omega)); k_whole); intro t'; (try dsimp only); walk_say "MINE len"))
section
variable {prog : Program} {w : World} {A : Around} {E : Value → Shared → Prop} {s : Shared} {h₀ : Heap} {L : Addr} {news : List (Addr × Obj)} {value slice : PySem.Expr} {l : Addr} {vs : List Value} {c : Nat} {u : Tok} {v : Value} {Q : Value → Shared → Prop}
theorem item_zero (N : News h₀ L s.heap news) (hm : (l, listOf vs.toArray c) ∈ news) (hx : vs[0]? = some v) (h : Q v s)
    (hs : subscripted slice false (.ref l) (.int 0 u) = operate [.ref l, .int 0 u] (getItem (.ref l) (.int 0 u)) := by with_unfolding_all rfl) :
    wpAny (model prog w) A (subscriptTail value slice (.ref l) (.int 0 u)) Q E s := item_litK ⟨_, (N _ hm).1, rfl, _, rfl⟩ (by decide) (by decide) hx h hs
theorem item_last (N : News h₀ L s.heap news) (hm : (l, listOf vs.toArray c) ∈ news) (hx : vs[vs.length - 1]? = some v) (hn : vs.length ≤ 1000) (h : Q v s)
    (hs : subscripted slice false (.ref l) (.int (-1) u) = operate [.ref l, .int (-1) u] (getItem (.ref l) (.int (-1) u)) := by with_unfolding_all rfl) :
    wpAny (model prog w) A (subscriptTail value slice (.ref l) (.int (-1) u)) Q E s := by
  have hp : 0 < vs.length := by
    rcases Nat.eq_zero_or_pos vs.length with q | q
    · rw [List.getElem?_eq_none_iff.mpr (by omega)] at hx; cases hx
    · exact q
  exact kde_neg (j := vs.length - 1) ⟨_, (N _ hm).1, rfl, _, rfl⟩ (by decide) (by decide) (by unfold seqIndex?; simp; omega) hx h hs
end
local macro_rules | `(tactic| walk_at "subscriptTail Name Constant ref int") => `(tactic| (k_here; (with_reducible show wpAny _ _ (subscriptTail _ _ (Value.ref _) (Value.int 0 _)) _ _ _); k_dflt (refine' Mine.item_zero ?N ?m ?zx ?_ ?s; (case N => k_asm); (case m => k_mem); (case zx => with_reducible assumption); (case s => with_unfolding_all rfl); k_whole; walk_say "MINE item")))
local macro_rules | `(tactic| walk_at "subscriptTail Name UnaryOp ref int") => `(tactic| (k_here; (with_reducible show wpAny _ _ (subscriptTail _ _ (Value.ref _) (Value.int (-1) _)) _ _ _); k_dflt (refine' Mine.item_last ?N ?m ?zx ?zn ?_ ?s; (case N => k_asm); (case m => k_mem); (case zx => with_reducible assumption); (case zn => with_reducible assumption); (case s => with_unfolding_all rfl); k_whole; walk_say "MINE last")))
/-- what the walks ask of a node's class for its properties -/
structure NodeAttrs (K : Frag) (C : Addr) : Prop where
  g_num_children : plainGet K C (Str.ofString "num_children") = true
  f_num_children : findIn K (.ref C) (Str.ofString "num_children") = some (some (.ref 513))
  g_can_add_entry : plainGet K C (Str.ofString "can_add_entry") = true
  f_can_add_entry : findIn K (.ref C) (Str.ofString "can_add_entry") = some (some (.ref 367))
  g_smallest_key : plainGet K C (Str.ofString "smallest_key") = true
  f_smallest_key : findIn K (.ref C) (Str.ofString "smallest_key") = some (some (.ref 383))
  g_smallest_entry : plainGet K C (Str.ofString "smallest_entry") = true
  f_smallest_entry : findIn K (.ref C) (Str.ofString "smallest_entry") = some (some (.ref 391))
  g_biggest_key : plainGet K C (Str.ofString "biggest_key") = true
  f_biggest_key : findIn K (.ref C) (Str.ofString "biggest_key") = some (some (.ref 399))
  g_biggest_entry : plainGet K C (Str.ofString "biggest_entry") = true
  f_biggest_entry : findIn K (.ref C) (Str.ofString "biggest_entry") = some (some (.ref 407))
  g_max : plainGet K C (Str.ofString "max_children") = true
  f_max : ∃ v, findIn K (.ref C) (Str.ofString "max_children") = some v ∧ noGet K v = true
  s_set : findIn K (.ref C) "__setattr__" = some (some (.builtin "object.__setattr__"))
  s_over : plainOver K C = true
  s_ent : takerIn K C (Str.ofString "entries") = some none
section
variable {w : World} {A A₀ : Around} {base h₀ : Heap} {outer : List Env} {env : Env} {L : Addr} {m mg mb : Str → Option Value} {p : Program} {loose : List Str} {mean : ExcName → Option Value} {s : Shared} {Q E' : Value → Shared → Prop}
  {news : List (Addr × Obj)} {el x dx conf C : Addr} {no : Obj} {nt mx : Int} {page : Value} {c : Nat} {E : List Ent}
theorem num_0 (B : Below A₀ base outer h₀) (F : Fr h₀ L s.heap m) (X : (hd.heap_39 w.params).In h₀) (T : Top p loose mean mg mb h₀) (N : News h₀ L s.heap news)
    (hA : A.frames = some (env :: outer)) (hf : env.frame = some L) (hke : env.scope.kind = .function) (hroom : A.depth < 800) (hC : NodeCls (hd.heap_39 w.params) C) (hC2 : NodeAttrs (hd.heap_39 w.params) C)
    (hx : (x, instObj C dx) ∈ news) (hdx : (dx, no) ∈ news) (hno : IsNode w.params nt mx conf el page no) (hel : (el, listOf #[] c) ∈ news)
    (k : ∀ h' tk t, Fr h₀ L h' m → News h₀ L h' news → Q (.int 0 t) { s with heap := h', toks := tk }) :
    wpAny (model PySem.Challenge.rw_vq0003_01.row.prog w) A (getAttr (.ref x) (Str.ofString "num_children") true) Q E' s := by
  obtain ⟨_, _, _, _, _, _, _, _, _, _, _, _, rfl⟩ := hno
  obtain ⟨c1, c2, c3, c4, c5⟩ := hC
  obtain ⟨a0, a1, a2, a3, a4, a5, a6, a7, a8, a9, a10, a11, a_g, ⟨a_m, a_f, a_n⟩, a_s, a_o, a_e⟩ := hC2
  revert X; k_fill; intro X
  obtain ⟨hd', dp', fr', gd', un'⟩ := A
  dsimp only at hA hroom
  subst hA
  w_on
  k_steps
  refine k _ _ _ ?_ ?_ <;> with_reducible assumption
theorem num_n (B : Below A₀ base outer h₀) (F : Fr h₀ L s.heap m) (X : (hd.heap_39 w.params).In h₀) (T : Top p loose mean mg mb h₀) (N : News h₀ L s.heap news)
    (hA : A.frames = some (env :: outer)) (hf : env.frame = some L) (hke : env.scope.kind = .function) (hroom : A.depth < 800) (hC : NodeCls (hd.heap_39 w.params) C) (hC2 : NodeAttrs (hd.heap_39 w.params) C)
    (hx : (x, instObj C dx) ∈ news) (hdx : (dx, no) ∈ news) (hno : IsNode w.params nt mx conf el page no) (hel : (el, listOf (refs E).toArray c) ∈ news) (hE : 0 < (refs E).length) (hE2 : (refs E).length ≤ 1000)
    (k : ∀ h' tk t, Fr h₀ L h' m → News h₀ L h' news → Q (.int (((refs E).length : Int) + 1) t) { s with heap := h', toks := tk }) :
    wpAny (model PySem.Challenge.rw_vq0003_01.row.prog w) A (getAttr (.ref x) (Str.ofString "num_children") true) Q E' s := by
  obtain ⟨_, _, _, _, _, _, _, _, _, _, _, _, rfl⟩ := hno
  obtain ⟨c1, c2, c3, c4, c5⟩ := hC
  obtain ⟨a0, a1, a2, a3, a4, a5, a6, a7, a8, a9, a10, a11, a_g, ⟨a_m, a_f, a_n⟩, a_s, a_o, a_e⟩ := hC2
  revert X; k_fill; intro X
  obtain ⟨hd', dp', fr', gd', un'⟩ := A
  dsimp only at hA hroom
  subst hA
  w_on
  k_steps
  refine k _ _ _ ?_ ?_ <;> with_reducible assumption
theorem can_n (B : Below A₀ base outer h₀) (F : Fr h₀ L s.heap m) (X : (hd.heap_39 w.params).In h₀) (T : Top p loose mean mg mb h₀) (N : News h₀ L s.heap news)
    (hA : A.frames = some (env :: outer)) (hf : env.frame = some L) (hke : env.scope.kind = .function) (hroom : A.depth < 800) (hC : NodeCls (hd.heap_39 w.params) C) (hC2 : NodeAttrs (hd.heap_39 w.params) C)
    (hx : (x, instObj C dx) ∈ news) (hdx : (dx, no) ∈ news) (hno : IsNode w.params nt mx conf el page no) (hel : (el, listOf (refs E).toArray c) ∈ news) (hE : 0 < (refs E).length) (hE2 : (refs E).length ≤ 1000)
    (k : ∀ h' tk, Fr h₀ L h' m → News h₀ L h' news → Q (.bool (decide (((refs E).length : Int) + 1 < mx))) { s with heap := h', toks := tk }) :
    wpAny (model PySem.Challenge.rw_vq0003_01.row.prog w) A (getAttr (.ref x) (Str.ofString "can_add_entry") true) Q E' s := by
  obtain ⟨_, _, _, _, _, _, _, _, _, _, _, _, rfl⟩ := hno
  obtain ⟨c1, c2, c3, c4, c5⟩ := hC
  obtain ⟨a0, a1, a2, a3, a4, a5, a6, a7, a8, a9, a10, a11, a_g, ⟨a_m, a_f, a_n⟩, a_s, a_o, a_e⟩ := hC2
  revert X; k_fill; intro X
  obtain ⟨hd', dp', fr', gd', un'⟩ := A
  dsimp only at hA hroom
  subst hA
  w_on
  k_steps
  refine k _ _ ?_ ?_ <;> with_reducible assumption
theorem small_c (B : Below A₀ base outer h₀) (F : Fr h₀ L s.heap m) (X : (hd.heap_39 w.params).In h₀) (T : Top p loose mean mg mb h₀) (N : News h₀ L s.heap news)
    (hA : A.frames = some (env :: outer)) (hf : env.frame = some L) (hke : env.scope.kind = .function) (hroom : A.depth < 800) (hC : NodeCls (hd.heap_39 w.params) C) (hC2 : NodeAttrs (hd.heap_39 w.params) C)
    (hx : (x, instObj C dx) ∈ news) (hdx : (dx, no) ∈ news) (hno : IsNode w.params nt mx conf el page no) (hel : (el, listOf (refs E).toArray c) ∈ news) {e : Ent} (hE : (refs E)[0]? = some (.ref e.a)) (he : (e.a, instObj 328 e.d) ∈ news) (hde : (e.d, e.o) ∈ news) (hk : IsKey w.params e.k e.o)
    (k : ∀ h' tk t, Fr h₀ L h' m → News h₀ L h' news → Q (.int e.k t) { s with heap := h', toks := tk }) :
    wpAny (model PySem.Challenge.rw_vq0003_01.row.prog w) A (getAttr (.ref x) (Str.ofString "smallest_key") true) Q E' s := by
  obtain ⟨_, _, _, _, _, _, _, _, _, _, _, _, rfl⟩ := hno
  obtain ⟨ea, ed, eo, ek, eb, ef⟩ := e
  dsimp only at *
  obtain ⟨_, _, _, _, _, _, _, _, _, _, rfl⟩ := hk
  obtain ⟨c1, c2, c3, c4, c5⟩ := hC
  obtain ⟨a0, a1, a2, a3, a4, a5, a6, a7, a8, a9, a10, a11, a_g, ⟨a_m, a_f, a_n⟩, a_s, a_o, a_e⟩ := hC2
  revert X; k_fill; intro X
  obtain ⟨hd', dp', fr', gd', un'⟩ := A
  dsimp only at hA hroom
  subst hA
  w_on
  k_steps
  refine k _ _ _ ?_ ?_ <;> with_reducible assumption
theorem big_c (B : Below A₀ base outer h₀) (F : Fr h₀ L s.heap m) (X : (hd.heap_39 w.params).In h₀) (T : Top p loose mean mg mb h₀) (N : News h₀ L s.heap news)
    (hA : A.frames = some (env :: outer)) (hf : env.frame = some L) (hke : env.scope.kind = .function) (hroom : A.depth < 800) (hC : NodeCls (hd.heap_39 w.params) C) (hC2 : NodeAttrs (hd.heap_39 w.params) C)
    (hx : (x, instObj C dx) ∈ news) (hdx : (dx, no) ∈ news) (hno : IsNode w.params nt mx conf el page no) (hel : (el, listOf (refs E).toArray c) ∈ news) {e : Ent} (hE : (refs E)[(refs E).length - 1]? = some (.ref e.a)) (hE2 : (refs E).length ≤ 1000) (he : (e.a, instObj 328 e.d) ∈ news) (hde : (e.d, e.o) ∈ news) (hk : IsKey w.params e.k e.o)
    (k : ∀ h' tk t, Fr h₀ L h' m → News h₀ L h' news → Q (.int e.k t) { s with heap := h', toks := tk }) :
    wpAny (model PySem.Challenge.rw_vq0003_01.row.prog w) A (getAttr (.ref x) (Str.ofString "biggest_key") true) Q E' s := by
  obtain ⟨_, _, _, _, _, _, _, _, _, _, _, _, rfl⟩ := hno
  obtain ⟨ea, ed, eo, ek, eb, ef⟩ := e
  dsimp only at *
  obtain ⟨_, _, _, _, _, _, _, _, _, _, rfl⟩ := hk
  obtain ⟨c1, c2, c3, c4, c5⟩ := hC
  obtain ⟨a0, a1, a2, a3, a4, a5, a6, a7, a8, a9, a10, a11, a_g, ⟨a_m, a_f, a_n⟩, a_s, a_o, a_e⟩ := hC2
  revert X; k_fill; intro X
  obtain ⟨hd', dp', fr', gd', un'⟩ := A
  dsimp only at hA hroom
  subst hA
  w_on
  k_steps
  refine k _ _ _ ?_ ?_ <;> with_reducible assumption
end
end Mine
local macro_rules | `(tactic| walk_at "truthy ref") => `(tactic| (k_here; k_dflt (first
  | (refine' Mine.truthy_l0 ?N ?m ?_; (case N => k_asm); (case m => k_mem); k_whole; walk_say "MINE truthy0")
  | (refine' Mine.truthy_l1 ?N ?m ?zp ?zn ?_; (case N => k_asm); (case m => k_mem); (case zp => with_reducible assumption); (case zn => with_reducible assumption); k_whole; walk_say "MINE truthy1"))))
local macro_rules | `(tactic| walk_at "call builtin:len cons nil") => `(tactic| (k_here; k_dflt (refine' Mine.len_l ?N ?m ?n ?_; (case N => k_asm); (case m => k_mem); (case n => first | with_reducible assumption | (simp only [List.length_take, List.length_drop, List.length_append, List.length_map]; omega)); k_whole); intro t'; (try dsimp only); walk_say "MINE len"))
local macro_rules | `(tactic| walk_at "subscriptTail Name Constant ref int") => `(tactic| (k_here; (with_reducible show wpAny _ _ (subscriptTail _ _ (Value.ref _) (Value.int 0 _)) _ _ _); k_dflt (refine' Mine.item_zero ?N ?m ?zx ?_ ?s; (case N => k_asm); (case m => k_mem); (case zx => with_reducible assumption); (case s => with_unfolding_all rfl); k_whole; walk_say "MINE item")))
local macro_rules | `(tactic| walk_at "subscriptTail Name UnaryOp ref int") => `(tactic| (k_here; (with_reducible show wpAny _ _ (subscriptTail _ _ (Value.ref _) (Value.int (-1) _)) _ _ _); k_dflt (refine' Mine.item_last ?N ?m ?zx ?zn ?_ ?s; (case N => k_asm); (case m => k_mem); (case zx => with_reducible assumption); (case zn => with_reducible assumption); (case s => with_unfolding_all rfl); k_whole; walk_say "MINE last")))
namespace Mine
section
variable {prog : Program} {w : World} {A : Around} {E : Value → Shared → Prop} {s : Shared} {h₀ : Heap} {L : Addr} {m : Str → Option Value} {news news' : List (Addr × Obj)} {l : Addr} {vs : List Value} {v : Value} {c : Nat} {u : Tok} {Q : Value → Shared → Prop}
theorem pop_l (F : Fr h₀ L s.heap m) (N : News h₀ L s.heap news) (U : Upd l (listOf (v :: vs).toArray c) (listOf vs.toArray (c + 1)) news news') (hn : vs.length ≤ 1000) (h : ∀ h', Fr h₀ L h' m → News h₀ L h' news' → Q v { s with heap := h' }) :
    wpAny (model prog w) A (call (.builtin "list.pop") [.ref l, .int 0 u]) Q E s :=
  kl_popAt (k := 0) (p := []) (q := vs) (y := v) F N rfl (by unfold seqIndex?; simp) rfl U (by rw [sizeLine_eq]; simp; omega) h
theorem app_l (F : Fr h₀ L s.heap m) (N : News h₀ L s.heap news) (U : Upd l (listOf vs.toArray c) (listOf (vs ++ [v]).toArray (c + 1)) news news') (hn : vs.length ≤ 1000) (h : ∀ h', Fr h₀ L h' m → News h₀ L h' news' → Q .none { s with heap := h' }) :
    wpAny (model prog w) A (call (.builtin "list.append") [.ref l, v]) Q E s := by
  have e : vs.toArray.push v = (vs ++ [v]).toArray := by simp
  refine append_K F N (by rw [e]; exact U) h (by rw [sizeLine_eq]; simp; omega)
end
local macro_rules | `(tactic| walk_at "call builtin:list.append") => `(tactic| (k_here; k_dflt (refine' Mine.app_l ?F ?N ?U ?zn ?_; (case F => k_asm); (case N => k_asm); (case U => k_upd); (case zn => with_reducible assumption); k_whole); intro h' F' N'; (try k_sweep); walk_say "MINE append"))
local macro_rules | `(tactic| walk_at "call builtin:list.pop") => `(tactic| (k_here; k_dflt (refine' Mine.pop_l ?F ?N ?U ?zn ?_; (case F => k_asm); (case N => k_asm); (case U => k_upd); (case zn => with_reducible assumption); k_whole); intro h' F' N'; (try k_sweep); walk_say "MINE pop"))
section
variable {w : World} {A A₀ : Around} {base h₀ : Heap} {outer : List Env} {env : Env} {L : Addr} {m mg mb : Str → Option Value} {p : Program} {loose : List Str} {mean : ExcName → Option Value} {s : Shared} {R : Result → Shared → Prop}
  {rest core : List (Addr × Obj)} {el x dx conf C : Addr} {no : Obj} {nt mx : Int} {page : Value} {c : Nat} {vs : List Value} {v : Value}
theorem atend_c (B : Below A₀ base outer h₀) (F : Fr h₀ L s.heap m) (X : (hd.heap_39 w.params).In h₀) (T : Top p loose mean mg mb h₀) (N : News h₀ L s.heap ((el, listOf vs.toArray c) :: rest))
    (hA : A.frames = some (env :: outer)) (hf : env.frame = some L) (hke : env.scope.kind = .function) (hroom : A.depth < 800) (hC : NodeCls (hd.heap_39 w.params) C)
    (hne : ∀ p ∈ rest, p.1 ≠ el) (hx : (x, instObj C dx) ∈ rest) (hdx : (dx, no) ∈ rest) (hno : IsNode w.params nt mx conf el page no) (hn : vs.length ≤ 1000)
    (k : ∀ h' tk c', Fr h₀ L h' m → News h₀ L h' ((el, listOf (vs ++ [v]).toArray c') :: rest) → R (.ok (.ret .none)) { s with heap := h', toks := tk }) :
    codeAny (model PySem.Challenge.rw_vq0003_01.row.prog w) A (.call (.ref 428) ⟨[.ref x, v], []⟩) R s := by
  obtain ⟨_, _, _, _, _, _, _, _, _, _, _, _, rfl⟩ := hno
  obtain ⟨c1, c2, c3, c4, c5⟩ := hC
  revert X; k_fill; intro X
  obtain ⟨hd', dp', fr', gd', un'⟩ := A
  dsimp only at hA hroom
  subst hA
  w_on
  k_enter
  k_steps
  refine' k _ _ _ ?F ?N
  case F => with_reducible assumption
  case N => assumption
theorem pop_c (B : Below A₀ base outer h₀) (F : Fr h₀ L s.heap m) (X : (hd.heap_39 w.params).In h₀) (T : Top p loose mean mg mb h₀) (N : News h₀ L s.heap ((el, listOf (v :: vs).toArray c) :: rest))
    (hA : A.frames = some (env :: outer)) (hf : env.frame = some L) (hke : env.scope.kind = .function) (hroom : A.depth < 800) (hC : NodeCls (hd.heap_39 w.params) C)
    (hne : ∀ p ∈ rest, p.1 ≠ el) (hx : (x, instObj C dx) ∈ rest) (hdx : (dx, no) ∈ rest) (hno : IsNode w.params nt mx conf el page no) (hn : vs.length ≤ 1000)
    (k : ∀ h' tk c', Fr h₀ L h' m → News h₀ L h' ((el, listOf vs.toArray c') :: rest) → R (.ok (.ret v)) { s with heap := h', toks := tk }) :
    codeAny (model PySem.Challenge.rw_vq0003_01.row.prog w) A (.call (.ref 414) ⟨[.ref x], []⟩) R s := by
  obtain ⟨_, _, _, _, _, _, _, _, _, _, _, _, rfl⟩ := hno
  obtain ⟨c1, c2, c3, c4, c5⟩ := hC
  revert X; k_fill; intro X
  obtain ⟨hd', dp', fr', gd', un'⟩ := A
  dsimp only at hA hroom
  subst hA
  w_on
  k_enter
  k_steps
  refine' k _ _ _ ?F ?N
  case F => with_reducible assumption
  case N => assumption
end
end Mine
local macro_rules | `(tactic| walk_at "call builtin:list.append") => `(tactic| (k_here; k_dflt (refine' Mine.app_l ?F ?N ?U ?zn ?_; (case F => k_asm); (case N => k_asm); (case U => k_upd); (case zn => with_reducible assumption); k_whole); intro h' F' N'; (try k_sweep); walk_say "MINE append"))
local macro_rules | `(tactic| walk_at "call builtin:list.pop") => `(tactic| (k_here; k_dflt (refine' Mine.pop_l ?F ?N ?U ?zn ?_; (case F => k_asm); (case N => k_asm); (case U => k_upd); (case zn => with_reducible assumption); k_whole); intro h' F' N'; (try k_sweep); walk_say "MINE pop"))
namespace Mine
theorem pick_from (vs : List Value) (x : Int) (h : 0 ≤ x) : (slicePick vs.toArray (some x) none none).toList = vs.drop x.toNat := by
  have e : sliceBounds (some x) none none vs.toArray.size = (((min x.toNat vs.toArray.size : Nat) : Int), ((vs.toArray.size : Nat) : Int), 1) := by
    simp only [sliceBounds, Option.getD_none, show (1 : Int) > 0 by decide, if_true, if_neg (show ¬ (x < 0) by omega)]
    congr 1
    omega
  rw [kmk_pick_nat _ e]
  show (vs.drop (min x.toNat vs.toArray.size)).take (vs.toArray.size - min x.toNat vs.toArray.size) = _
  rw [List.size_toArray, kmk_drop_min, List.take_of_length_le (by rw [List.length_drop]; omega)]
theorem pick_upto (vs : List Value) (y : Int) (h : 0 ≤ y) : (slicePick vs.toArray none (some y) none).toList = vs.take y.toNat := by
  have e : sliceBounds none (some y) none vs.toArray.size = (((0 : Nat) : Int), ((min y.toNat vs.toArray.size : Nat) : Int), 1) := by
    simp only [sliceBounds, Option.getD_none, show (1 : Int) > 0 by decide, if_true, if_neg (show ¬ (y < 0) by omega)]
    congr 1
    congr 1
    omega
  rw [kmk_pick_nat _ e]
  show (vs.drop 0).take (min y.toNat vs.toArray.size - 0) = _
  rw [List.drop_zero, Nat.sub_zero, List.size_toArray, kmk_take_min]
theorem half_nat (n : Nat) : ((n : Int).fdiv 2).toNat = n / 2 := by
  rw [Int.fdiv_eq_ediv_of_nonneg _ (by decide)]
  omega
section
variable {prog : Program} {w : World} {A : Around} {E : Value → Shared → Prop} {s : Shared} {h₀ : Heap} {L : Addr} {m : Str → Option Value} {news : List (Addr × Obj)} {value slice : PySem.Expr} {l : Addr} {vs : List Value} {c : Nat} {x : Int} {t : Tok} {Q : Value → Shared → Prop}
theorem sl_from (F : Fr h₀ L s.heap m) (N : News h₀ L s.heap news) (hm : (l, listOf vs.toArray c) ∈ news) (hn : vs.length ≤ 1000) (h0 : 0 ≤ x)
    (h : ∀ D h', Fr h₀ L h' m → News h₀ L h' ((D, listOf (vs.drop x.toNat).toArray 0) :: news) → (∀ p ∈ news, p.1 < D) → Q (.ref D) { s with heap := h' })
    (hs : subscripted slice false (.ref l) (.ref s.heap.objs.size) = operate [.ref s.heap.objs.size, .ref l] (getItem (.ref l) (.ref s.heap.objs.size))) (ht : ∀ r, letTemporaryGo value (.ref l) r = pure ()) :
    wpAny (model prog w) A (subscriptTail value slice (.ref l) (.ref s.heap.objs.size)) Q E { s with heap := s.heap.push { cls := .type "slice", data := .fields #[.int x t, .none, .none] } } :=
  kmk_slice_lit F N ⟨_, (N _ hm).1, rfl, _, rfl⟩ (IsPart.int _ _) IsPart.none (pick_from vs x h0) h hs ht (by rw [sizeLine_eq]; simp; omega)
theorem sl_upto (F : Fr h₀ L s.heap m) (N : News h₀ L s.heap news) (hm : (l, listOf vs.toArray c) ∈ news) (hn : vs.length ≤ 1000) (h0 : 0 ≤ x)
    (h : ∀ D h', Fr h₀ L h' m → News h₀ L h' ((D, listOf (vs.take x.toNat).toArray 0) :: news) → (∀ p ∈ news, p.1 < D) → Q (.ref D) { s with heap := h' })
    (hs : subscripted slice false (.ref l) (.ref s.heap.objs.size) = operate [.ref s.heap.objs.size, .ref l] (getItem (.ref l) (.ref s.heap.objs.size))) (ht : ∀ r, letTemporaryGo value (.ref l) r = pure ()) :
    wpAny (model prog w) A (subscriptTail value slice (.ref l) (.ref s.heap.objs.size)) Q E { s with heap := s.heap.push { cls := .type "slice", data := .fields #[.none, .int x t, .none] } } :=
  kmk_slice_lit F N ⟨_, (N _ hm).1, rfl, _, rfl⟩ IsPart.none (IsPart.int _ _) (pick_upto vs x h0) h hs ht (by rw [sizeLine_eq]; simp; omega)
end
local macro_rules | `(tactic| walk_at "subscriptTail Name Slice ref ref") => `(tactic| (k_here; k_dflt (first
  | (refine' Mine.sl_from ?F ?N ?m ?zn ?z0 ?_ ?s ?t; (case F => k_asm); (case N => k_asm); (case m => k_mem); (case zn => with_reducible assumption); (case z0 => first | with_reducible assumption | exact Int.fdiv_nonneg (by omega) (by omega) | omega); (case s => with_unfolding_all rfl); (case t => kmk_pure))
  | (refine' Mine.sl_upto ?F ?N ?m ?zn ?z0 ?_ ?s ?t; (case F => k_asm); (case N => k_asm); (case m => k_mem); (case zn => with_reducible assumption); (case z0 => first | with_reducible assumption | exact Int.fdiv_nonneg (by omega) (by omega) | omega); (case s => with_unfolding_all rfl); (case t => kmk_pure))); intro D' h' F' N' l1; (try k_lt l1); (try k_sweep); walk_say "MINE slice"))
section
variable {w : World} {A A₀ : Around} {base h₀ : Heap} {outer : List Env} {env : Env} {L : Addr} {m mg mb : Str → Option Value} {p : Program} {loose : List Str} {mean : ExcName → Option Value} {s : Shared} {R : Result → Shared → Prop}
  {rest core : List (Addr × Obj)} {el x dx conf C : Addr} {no : Obj} {nt mx : Int} {page : Value} {c : Nat} {vs : List Value} {v : Value}
theorem split_c (B : Below A₀ base outer h₀) (F : Fr h₀ L s.heap m) (X : (hd.heap_39 w.params).In h₀) (T : Top p loose mean mg mb h₀) (N : News h₀ L s.heap ((dx, no) :: rest))
    (hA : A.frames = some (env :: outer)) (hf : env.frame = some L) (hke : env.scope.kind = .function) (hroom : A.depth < 800) (hC : NodeCls (hd.heap_39 w.params) C) (hC2 : NodeAttrs (hd.heap_39 w.params) C)
    (hne : ∀ p ∈ rest, p.1 ≠ dx) (hx : (x, instObj C dx) ∈ rest) (hel : (el, listOf vs.toArray c) ∈ rest) (hno : IsNode w.params nt mx conf el page no) (hn : vs.length ≤ 1000)
    (k : ∀ h' tk up el2 no', Fr h₀ L h' m → News h₀ L h' ((el2, listOf (vs.take (vs.length / 2)).toArray 0) :: (up, listOf (vs.drop (vs.length / 2)).toArray 0) :: (dx, no') :: rest) → IsNode w.params nt mx conf el2 page no' → (∀ p ∈ (dx, no) :: rest, p.1 < up) → up < el2 → R (.ok (.ret (.ref up))) { s with heap := h', toks := tk }) :
    codeAny (model PySem.Challenge.rw_vq0003_01.row.prog w) A (.call (.ref 456) ⟨[.ref x], []⟩) R s := by
  obtain ⟨_, _, _, _, _, _, _, _, _, _, _, _, rfl⟩ := hno
  obtain ⟨c1, c2, c3, c4, c5⟩ := hC
  obtain ⟨a0, a1, a2, a3, a4, a5, a6, a7, a8, a9, a10, a11, a_g, ⟨a_m, a_f, a_n⟩, a_s, a_o, a_e⟩ := hC2
  revert X; k_fill; intro X
  obtain ⟨hd', dp', fr', gd', un'⟩ := A
  dsimp only at hA hroom
  subst hA
  w_on
  k_enter
  k_steps
  · exact beq_iff_eq.mpr (by simp only [List.length_take, List.length_drop, half_nat]; omega)
  rename News _ _ _ _ => NN
  simp only [half_nat] at NN
  refine' k _ _ _ _ _ ?F NN ⟨_, _, _, _, _, _, _, _, _, _, _, _, rfl⟩ ?l ?g
  case F => with_reducible assumption
  case l => exact List.forall_mem_cons.mpr ⟨by refine ltN ?_; show @LT.lt Nat _ dx _; omega, allLt_lt (And.right (by with_reducible assumption))⟩
  case g => (refine ltN ?_; omega)
end
end Mine
local macro_rules | `(tactic| walk_at "subscriptTail Name Slice ref ref") => `(tactic| (k_here; k_dflt (first
  | (refine' Mine.sl_from ?F ?N ?m ?zn ?z0 ?_ ?s ?t; (case F => k_asm); (case N => k_asm); (case m => k_mem); (case zn => with_reducible assumption); (case z0 => first | with_reducible assumption | exact Int.fdiv_nonneg (by omega) (by omega) | omega); (case s => with_unfolding_all rfl); (case t => kmk_pure))
  | (refine' Mine.sl_upto ?F ?N ?m ?zn ?z0 ?_ ?s ?t; (case F => k_asm); (case N => k_asm); (case m => k_mem); (case zn => with_reducible assumption); (case z0 => first | with_reducible assumption | exact Int.fdiv_nonneg (by omega) (by omega) | omega); (case s => with_unfolding_all rfl); (case t => kmk_pure))); intro D' h' F' N' l1; (try k_lt l1); (try k_sweep); walk_say "MINE slice"))
namespace Mine
theorem cls_root (P : Params) : NodeCls (hd.heap_39 P) 553 := by
  suffices h : PySem.Challenge.rw_vq0003_01.row.prog = PySem.Challenge.rw_vq0003_01.row.prog → NodeCls (hd.heap_39 P) 553 from h rfl
  k_fill
  intro _
  constructor
  all_goals first | k_is | ks_is | exact ⟨_, by k_is, by k_is⟩
theorem cls_inner (P : Params) : NodeCls (hd.heap_39 P) 575 := by
  suffices h : PySem.Challenge.rw_vq0003_01.row.prog = PySem.Challenge.rw_vq0003_01.row.prog → NodeCls (hd.heap_39 P) 575 from h rfl
  k_fill
  intro _
  constructor
  all_goals first | k_is | ks_is | exact ⟨_, by k_is, by k_is⟩
theorem attrs_root (P : Params) : NodeAttrs (hd.heap_39 P) 553 := by
  suffices h : PySem.Challenge.rw_vq0003_01.row.prog = PySem.Challenge.rw_vq0003_01.row.prog → NodeAttrs (hd.heap_39 P) 553 from h rfl
  k_fill
  intro _
  constructor
  all_goals first | k_is | ks_is | exact ⟨_, by k_is, by k_is⟩
theorem attrs_inner (P : Params) : NodeAttrs (hd.heap_39 P) 575 := by
  suffices h : PySem.Challenge.rw_vq0003_01.row.prog = PySem.Challenge.rw_vq0003_01.row.prog → NodeAttrs (hd.heap_39 P) 575 from h rfl
  k_fill
  intro _
  constructor
  all_goals first | k_is | ks_is | exact ⟨_, by k_is, by k_is⟩
end Mine
namespace Mine
section
variable {w : World} {A A₀ : Around} {base h₀ : Heap} {outer : List Env} {env : Env} {L : Addr} {m mg mb : Str → Option Value} {p : Program} {loose : List Str} {mean : ExcName → Option Value} {s : Shared} {R : Result → Shared → Prop}
  {news : List (Addr × Obj)} {el x dx conf cd ser : Addr} {no : Obj} {nt mx order : Int} {t1 t2 t3 t4 : Tok} {n : Nat} {pg : Int} {tp : Tok}
theorem convert_c (B : Below A₀ base outer h₀) (F : Fr h₀ L s.heap m) (X : (hd.heap_39 w.params).In h₀) (T : Top p loose mean mg mb h₀) (N : News h₀ L s.heap news)
    (hA : A.frames = some (env :: outer)) (hf : env.frame = some L) (hke : env.scope.kind = .function) (hroom : A.depth < 700)
    (hx : (x, instObj 553 dx) ∈ news) (hdx : (dx, no) ∈ news) (hno : IsNode w.params nt mx conf el (.int pg tp) no)
    (hcf : (conf, confObj cd order t1 t2 t3 t4 ser n) ∈ news) (hcd : (cd, dictOf [] 0) ∈ news) (ho : 3 ≤ order ∧ order ≤ 6)
    (k : ∀ h' tk y dy no', Fr h₀ L h' m → News h₀ L h' ((y, instObj 575 dy) :: (dy, no') :: news) → IsNode w.params 3 order conf el (.int pg tp) no' → (∀ p ∈ news, p.1 < dy) → dy < y → R (.ok (.ret (.ref y))) { s with heap := h', toks := tk }) :
    codeAny (model PySem.Challenge.rw_vq0003_01.row.prog w) A (.call (.ref 550) ⟨[.ref x], []⟩) R s := by
  obtain ⟨_, _, _, _, _, _, _, _, _, _, _, _, rfl⟩ := hno
  revert X; k_fill; intro X
  obtain ⟨hd', dp', fr', gd', un'⟩ := A
  dsimp only at hA hroom
  subst hA
  w_on
  k_enter
  k_steps
  rename News _ _ _ _ => NN
  refine' k _ _ _ _ _ ?F (News.sub NN ?N) ⟨_, _, _, _, _, _, _, _, _, _, _, _, rfl⟩ ?l ?g
  case F => with_reducible assumption
  case N => k_allIn
  case l => first | with_reducible assumption | exact allLt_lt (by with_reducible assumption) | exact allLt_lt (And.right (by with_reducible assumption))
  case g => (refine ltN ?_; omega)
end
end Mine
namespace Mine
theorem next_c {w : World} {A A₀ : Around} {base h₀ : Heap} {outer : List Env} {env : Env} {L : Addr} {m mg mb : Str → Option Value} {p : Program} {loose : List Str} {mean : ExcName → Option Value} {s : Shared} {R : Result → Shared → Prop}
    {st lst : Addr} {vs : List Value} {ns : List Int} {c lim : Int} {tc tl : Tok} {rest : List (Addr × Obj)} {n1 n2 : Nat}
    (B : Below A₀ base outer h₀) (F : Fr h₀ L s.heap m) (X : (hd.heap_39 w.params).In h₀) (T : Top p loose mean mg mb h₀)
    (N : News h₀ L s.heap ((st, listOf #[.ref lst, .int c tc] n1) :: (lst, listOf vs.toArray n2) :: rest))
    (hI : IntsAre vs ns) (hA : A.frames = some (env :: outer)) (hf : env.frame = some L) (hke : env.scope.kind = .function) (hroom : A.depth < 500)
    (d1 : lst ≠ st) (d2 : ∀ p ∈ rest, p.1 ≠ st) (hc : 0 ≤ c) (hc2 : c < 100) (hlen : ns.length ≤ 60) (hlim : 0 < lim)
    (k : ∀ h' tk r tc' tr, Fr h₀ L h' m → News h₀ L h' ((st, listOf #[.ref lst, .int (c+1) tc'] n1) :: (lst, listOf vs.toArray n2) :: rest) → 0 ≤ r → r < lim → R (.ok (.ret (.int r tr))) {s with heap := h', toks := tk}) :
    codeAny (model PySem.Challenge.rw_vq0003_01.row.prog w) A (.call (.ref 631) ⟨[.ref st, .int lim tl], []⟩) R s := by
  clear next_c
  revert X; k_fill; intro X
  w_on
  k_enter
  k_steps
  · refine' k _ _ _ _ _ ?F1 ?N1 (Int.le_refl 0) hlim
    case F1 => with_reducible assumption
    case N1 => assumption
  · refine' k _ _ _ _ _ ?F2 ?N2 (fmod_lo _ hlim) (fmod_hi _ hlim)
    case F2 => with_reducible assumption
    case N2 => assumption
end Mine
namespace Mine
section
variable {prog : Program} {w : World} {A : Around} {K : Frag} {C : Addr} {s : Shared} {E : Value → Shared → Prop} {Q : Value → Shared → Prop}
theorem tn_kind : builtinKind "tuple.__new__" = some .builtinFn := by decide +kernel
theorem tn_split : splitId "tuple.__new__" = some ("tuple", "__new__") := by decide +kernel
theorem tn_row : Manifest.signature? "tuple.__new__" = some ⟨.constructor, "tuple", "tuple", .cls, [⟨"iterable", .posOnly, false⟩]⟩ := by kernel_rfl
theorem tn_args (a b : Value) : Bind.checkArgs "tuple.__new__" ⟨.constructor, "tuple", "tuple", .cls, [⟨"iterable", .posOnly, false⟩]⟩ ⟨[a, b], []⟩ = pure () := by kernel_rfl
theorem tn_made : Bind.madeBy (.type "tuple") = pure (some "tuple.__new__") := PySem.F.called_tuple.made
theorem tup_new {tp : Addr} {o oC : Obj} {cd : ClassData} {xs : Array Value} {n : Nat} (X : s.heap.get? tp = some o) (hc : o.cls = .type "tuple") (hd : o.data = .seq xs n) (hsz : xs.size ≤ sizeLine)
    (Ly : Looks (model prog w) s.heap (isType (.ref C)) true) (Ls : Looks (model prog w) s.heap (isSubtype (.ref C) (.type "tuple")) true) (Lb : Looks (model prog w) s.heap (Bind.staticBase (.ref C)) (.type "tuple"))
    (Li : Looks (model prog w) s.heap (typeLookup (.ref C) "__init__") (some (.builtin "object.__init__"))) (hC : s.heap.get? C = some oC) (hCd : oC.data = .cls cd) (hdel : cd.hasDel = false)
    (h : ∀ h' : Heap, (∀ b o, s.heap.get? b = some o → h'.get? b = some o) → Q (.ref (h'.objs.size + 1)) { s with heap := (h'.push emptyDict).push { cls := .ref C, dict := some h'.objs.size, data := .seq xs } }) :
    wpAny (model prog w) A (call (.builtin "tuple.__new__") [.ref C, .ref tp]) Q E s := by
  obtain ⟨hh, g, d, t, os⟩ := s
  dsimp only at *
  refine wpAny_call (codeAny_call_builtin_code (Code.quiet_builtin _ (by decide +kernel)) ?_)
  simp only [checkBuiltinCall, tn_kind, tn_split, tn_row]
  rw [tn_args]
  have Lm : Looks (model prog w) hh (Bind.madeBy (.type "tuple")) (some "tuple.__new__") := Looks.of_pure tn_made
  repeat (first | simp only [bne_self_eq_false, Bool.false_eq_true, if_false, Bool.not_true] | lk)
  refine codeAny_builtin PySem.F.entry_tuple_new ?_
  have Lh : Looks (model prog w) hh (Bind.madeHere "tuple.__new__" (.ref C)) () := Lb.andThen (Lm.andThen (Looks.of_pure (by simp only [Option.map_some, bne_self_eq_false, Bool.false_eq_true, if_false])))
  unfold Builtin.«tuple.__new__»
  repeat (first | with_reducible refine wpAny_collect_seq tp (.inr rfl) X hc hd (fun h' kp => ?_) hsz | simp only [Bool.false_eq_true, if_false, Bool.not_true, beq_self_eq_true, if_true] | lk)
  have e : xs.toList.toArray = xs := by simp
  rw [e, if_neg (by omega)]
  have hC' := Heap.get?_push_of_some { cls := .ref C, dict := some h'.objs.size, data := .seq xs } (Heap.get?_push_of_some emptyDict (kp _ _ hC))
  unfold newObjAsIs classHasDel
  refine wpAny_bind (wpAny_alloc (wpAny_bind (wpAny_bind (wpAny_load hC' ?_))))
  rw [hCd]
  dsimp only
  rw [hdel]
  refine wpAny_pure ?_
  refine wpAny_pure (wpAny_pure ?_)
  show Q _ _
  rw [Heap.size_push]
  exact h h' kp

/-- a class whose own __new__ makes its objects, its __init__ being object's -/
def NewBack (M : Model) (A : Around) (C : Addr) (rest : List Value) (R : Result → Shared → Prop) (obj : Value) (s' : Shared) : Prop :=
  Looks M s'.heap (isInstance obj (.ref C)) true ∧ Looks M s'.heap (specialOf obj "__init__") (some (.builtin "object.__init__")) ∧ Looks M s'.heap (isInstance obj (.type "object")) true ∧ Looks M s'.heap (typeOf obj) (.ref C) ∧
    Looks M s'.heap (typeLookup (.ref C) "__init__") (some (.builtin "object.__init__")) ∧ Looks M s'.heap (Bind.madeBy (.ref C)) none ∧ R (.ok (.ret obj)) s'
theorem oi_args5 (a : Value) (rest : List Value) : argsOk "object.__init__" ⟨a :: rest, []⟩ := by unfold argsOk; kernel_rfl
theorem own_new {R : Result → Shared → Prop} {rest : List Value} {oc : Value} {od : Option Addr} {cd : ClassData} {sl : Array (Option Value)} (hne : rest.isEmpty = false) (hC : s.heap.get? C = some ⟨oc, od, .cls cd, sl⟩) (e4 : cd.mro.isEmpty = false)
    (made : Looks (model prog w) s.heap (Bind.madeBy (.ref C)) none) (call : Looks (model prog w) s.heap (specialOf (.ref C) "__call__") (some (.builtin "type.__call__"))) (typ : Looks (model prog w) s.heap (isInstance (.ref C) (.type "type")) true)
    (k : wpAny (model prog w) (A.under (.builtin "type.__call__" ⟨.ref C :: rest, []⟩)) (getAttr (.ref C) "__new__") (fun new s1 => wpAny (model prog w) (A.under (.builtin "type.__call__" ⟨.ref C :: rest, []⟩)) (PySem.call new (.ref C :: rest)) (NewBack (model prog w) A C rest R) (fun _ _ => False) s1) (fun _ _ => False) s) :
    codeAny (model prog w) A (.call (.ref C) ⟨rest, []⟩) R s := by
  obtain ⟨h, g, d, t, os⟩ := s
  refine codeAny_of_tree ?_
  show wpAny _ _ (callAny (.ref C) _) _ _ _
  refine nd_load hC ?_
  show wpAny _ _ (callAny.viaDunder (.ref C) _) _ _ _
  unfold callAny.viaDunder
  refine wpAny_bind (call.at ?_)
  dsimp only
  rw [tc_bind]
  refine wpAny_bind (wpAny_pure (wpAny_bind (wpAny_pure ?_)))
  refine wpAny_pure (a := Fin.again (.call (.builtin "type.__call__") ⟨.ref C :: rest, []⟩)) (And.intro rfl ?_)
  refine codeAny_call_builtin_at (id := "type.__call__") (args := ⟨.ref C :: rest, []⟩) (Code.quiet_builtin _ (by decide +kernel)) entry_typeCall ?_
  refine @check_slot (model prog w) _ _ _ "type.__call__" "type" "__call__" (.ref C) rest [] _ tc_kind tc_split typ (tc_args (.ref C) rest []) ?_
  unfold Builtin.«type.__call__»
  have hm : Looks (model prog w) h (mroOf (.ref C)) cd.mro := ((Looks.ld (part := none) hC).andThen .now).andThen .now
  repeat (first
    | (with_reducible refine wpAny_mono k (fun new s1 h1 => ?_) (fun _ _ z => z.elim)
       refine wpAny_bind (wpAny_holding (wpAny_mono h1 (fun obj s2 h2 => ?_) (fun _ _ z => z.elim)))
       obtain ⟨n1, n2, n3, n4, n5, n6, n7⟩ := h2
       obtain ⟨h2, g2, d2, t2, os2⟩ := s2
       dsimp only at n1 n2 n3 n4 n5 n6)
    | simp only [e4, Bool.false_eq_true, if_false, Bool.not_true]
    | with_reducible refine wpAny_call ?_
    | lk)
  refine codeAny_call_builtin oi_plain entry_oi (@check_slot (model prog w) _ _ _ "object.__init__" "object" "__init__" obj rest [] _ oi_kind oi_split n3 (oi_args5 obj rest) ?_)
  unfold Builtin.«object.__init__»
  simp only [List.cons_append, List.nil_append, hne, Bool.not_false, Bool.true_or, if_true]
  repeat (first | simp only [bne_self_eq_false, Bool.false_eq_true, if_false, Bool.false_or] | lk)
  exact n7
end
section
variable {w : World} {A A₀ : Around} {base h₀ : Heap} {outer : List Env} {env : Env} {L : Addr} {m mg mb : Str → Option Value} {p : Program} {loose : List Str} {mean : ExcName → Option Value} {s : Shared} {news : List (Addr × Obj)}
  {order : Int} {t1 t2 t3 t4 : Tok} {ser : Addr} {Q E : Value → Shared → Prop}
theorem conf_back {A : Around} {h : Heap} {g : Array GenState} {d : Drawn} {tk : Nat} {os : OsState} {x cd : Addr} {n : Nat} {rest : List Value} {R : Result → Shared → Prop} (X : (hd.heap_39 w.params).In h₀) (F : Fr h₀ L h m) (N : News h₀ L h news)
    (hm : (x, confObj cd order t1 t2 t3 t4 ser n) ∈ news) (q : R (.ok (.ret (.ref x))) ⟨h, g, d, tk, os⟩) : NewBack (model PySem.Challenge.rw_vq0003_01.row.prog w) A 177 rest R (.ref x) ⟨h, g, d, tk, os⟩ := by
  clear conf_back
  revert X; k_fill; intro X
  have X1 := Frag.In.keeps X (Fr.keep F)
  have L0 : Looks (model PySem.Challenge.rw_vq0003_01.row.prog w) h (typeOf (.ref x)) (.ref 177) := (Looks.ld (N _ hm).1).andThen .now
  have L1 : Looks (model PySem.Challenge.rw_vq0003_01.row.prog w) h (typeLookup (.ref 177) "__init__") (some (.builtin "object.__init__")) := looks_findIn X1 (by k_is)
  exact ⟨L0.andThen (looks_mroIn X1 (by k_is)), L0.andThen L1, L0.andThen (looks_mroIn X1 (by k_is)), L0, L1, Looks.of_peek X1 (by kernel_rfl), q⟩
theorem tup_newK {xs : Array Value} {tp : Addr} {n : Nat} (F : Fr h₀ L s.heap m) (X : (hd.heap_39 w.params).In h₀) (N : News h₀ L s.heap news) (hm : (tp, ({ cls := .type "tuple", data := .seq xs n } : Obj)) ∈ news) (hz : xs.size ≤ 1000)
    (k : ∀ x cd h', Fr h₀ L h' m → News h₀ L h' ((x, ({ cls := .ref 177, dict := some cd, data := .seq xs } : Obj)) :: (cd, emptyDict) :: news) → (∀ p ∈ news, p.1 < cd) → cd < x → Q (.ref x) { s with heap := h' }) :
    wpAny (model PySem.Challenge.rw_vq0003_01.row.prog w) A (call (.builtin "tuple.__new__") [.ref 177, .ref tp]) Q E s := by
  clear tup_newK
  revert X; k_fill; intro X
  have X1 := Frag.In.keeps X (Fr.keep F)
  have hC : s.heap.get? 177 = some _ := X1 177 _ (by k_is)
  have l1 : Looks (model PySem.Challenge.rw_vq0003_01.row.prog w) s.heap (isType (.ref 177)) true := looks_isType X1 (by show isClsIn _ _ = true; k_is)
  have l2 : Looks (model PySem.Challenge.rw_vq0003_01.row.prog w) s.heap (isSubtype (.ref 177) (.type "tuple")) true := looks_mroIn X1 (by k_is)
  have l3 : Looks (model PySem.Challenge.rw_vq0003_01.row.prog w) s.heap (Bind.staticBase (.ref 177)) (.type "tuple") := Looks.of_peek X1 (by kernel_rfl)
  have l4 : Looks (model PySem.Challenge.rw_vq0003_01.row.prog w) s.heap (typeLookup (.ref 177) "__init__") (some (.builtin "object.__init__")) := looks_findIn X1 (by k_is)
  refine tup_new (N _ hm).1 rfl rfl (by rw [sizeLine_eq]; omega) l1 l2 l3 l4 hC rfl rfl fun h' kp => ?_
  have F' := F.keeps kp
  have N' := ((N.grown kp).push F' emptyDict).push (F'.push _) { cls := .ref 177, dict := some h'.objs.size, data := .seq xs }
  rw [Heap.size_push] at N'
  exact k _ _ _ ((F'.push _).push _) N' (fun p hp => Heap.lt_size (N.grown kp p hp).1) (Nat.lt_succ_self _)
local macro_rules | `(tactic| walk_at "call builtin:tuple.__new__ cons") => `(tactic| (k_here; k_dflt (refine' Mine.tup_newK ?F ?X ?N ?m ?z ?_; (case F => k_asm); (case X => k_asm); (case N => k_asm); (case m => k_mem); (case z => exact (by decide : (5:Nat) ≤ 1000)); k_whole); intro x' cd' h' F' N' l1 l2; (try k_lt l1); (try k_sweep); walk_say "MINE tuple.__new__"))
local macro_rules | `(tactic| walk_at "getMethod type:tuple") => `(tactic| (k_here; k_dflt (refine' method_type ?F ?X ?t ?s ?c ?h ?_; (case F => k_asm); (case X => k_asm); (case t => rfl); (case s => decide +kernel); (case c => k_is); (case h => decide +kernel); walk_say "MINE getMethod")))
theorem conf_new (B : Below A₀ base outer h₀) (F : Fr h₀ L s.heap m) (X : (hd.heap_39 w.params).In h₀) (T : Top p loose mean mg mb h₀) (N : News h₀ L s.heap news)
    (hA : A.frames = some (env :: outer)) (hf : env.frame = some L) (hke : env.scope.kind = .function) (hroom : A.depth < 700)
    (k : ∀ h' tk x cd, Fr h₀ L h' m → News h₀ L h' ((x, confObj cd order t1 t2 t3 t4 ser 0) :: (cd, dictOf [] 0) :: news) → (∀ p ∈ news, p.1 < cd) → cd < x → Q (.ref x) { s with heap := h', toks := tk }) :
    wpAny (model PySem.Challenge.rw_vq0003_01.row.prog w) A (call (.ref 177) [.int 128 t1, .int order t2, .int 2 t3, .int 1 t4, .ref ser]) Q E s := by
  clear conf_new
  revert X; k_fill; intro X
  obtain ⟨hd', dp', fr', gd', un'⟩ := A
  dsimp only at hA hroom
  subst hA
  w_on
  have X1 := Frag.In.keeps X (Fr.keep F)
  have hC : s.heap.get? 177 = some _ := X1 177 _ (by k_is)
  refine wpAny_call (own_new rfl hC rfl ?made ?call ?typ ?k)
  case made => exact Looks.of_peek X1 (by kernel_rfl)
  case call => exact looks_specialIn X1 (by k_is)
  case typ => exact looks_instIn X1 (by k_is)
  case k =>
    refine' cls_sm F X ?k3 ?k4 ?k5 ?k6 ?k7 ?_
    case k3 => k_is
    case k4 => k_is
    case k5 => k_is
    case k6 => k_is
    case k7 => k_handed
    refine wpAny_call ?_
    k_enter
    k_steps
    rename Fr _ _ _ _ => FF
    rename News _ _ _ _ => NN
    rename (_ : Addr) < _ => g2
    exact conf_back X FF NN (.head _) (k _ _ _ _ FF (News.sub NN (by k_allIn)) (allLt_lt (And.right (by with_reducible assumption))) g2)
end
end Mine
local macro_rules | `(tactic| walk_at "call builtin:tuple.__new__ cons") => `(tactic| (k_here; k_dflt (refine' Mine.tup_newK ?F ?X ?N ?m ?z ?_; (case F => k_asm); (case X => k_asm); (case N => k_asm); (case m => k_mem); (case z => exact (by decide : (5:Nat) ≤ 1000)); k_whole); intro x' cd' h' F' N' l1 l2; (try k_lt l1); (try k_sweep); walk_say "MINE tuple.__new__"))
local macro_rules | `(tactic| walk_at "getMethod type:tuple") => `(tactic| (k_here; k_dflt (refine' method_type ?F ?X ?t ?s ?c ?h ?_; (case F => k_asm); (case X => k_asm); (case t => rfl); (case s => decide +kernel); (case c => k_is); (case h => decide +kernel); walk_say "MINE getMethod")))
namespace Mine
section
variable {prog : Program} {w : World} {A : Around} {s : Shared} {h₀ : Heap} {L el : Addr} {m : Str → Option Value} {env : Env} {elt : PySem.Expr} {x : Str} {scope : Scope} {cl : List (Str × Addr)} {E : List Ent} {news : List (Addr × Obj)} {c : Nat}
/-- a comprehension over a list of entries, of one number an entry -/
theorem comp_refs {Fin : List Value → List (Addr × Obj) → Prop} (f : Ent → Int) (hel : (el, listOf (refs E).toArray c) ∈ news)
    (step : ∀ e ∈ E, ∀ I oI C oC D ys m₂ h tk (E' : Value → Shared → Prop) (Q : Value → Shared → Prop), LCg.NsObj oC m₂ → m₂ x = some (.ref e.a) → Fr h₀ L h m → News h₀ L h ((I, oI) :: (C, oC) :: (D, LCg.lst ys) :: news) →
      (∀ t h' tk', Fr h₀ L h' m → News h₀ L h' ((I, oI) :: (C, oC) :: (D, LCg.lst ys) :: news) → Q (.int (f e) t) { s with heap := h', toks := tk' }) →
      wpAny (model prog w) A (eval elt (compEnvC scope cl C env)) Q E' { s with heap := h, toks := tk })
    (fin : ∀ ys, IntsAre ys (E.map f) → Fin ys news) :
    LCg.CompRest prog w A h₀ L m env elt x scope cl s (LCg.SrcAt h₀ el (refs E).toArray) (fun i v => (refs E).toArray[i]? = some v) Fin (refs E).toArray.size 0 [] news := by
  suffices aux : ∀ (E2 E1 : List Ent), E = E1 ++ E2 → ∀ ys, IntsAre ys (E1.map f) →
      LCg.CompRest prog w A h₀ L m env elt x scope cl s (LCg.SrcAt h₀ el (refs E).toArray) (fun i v => (refs E).toArray[i]? = some v) Fin E2.length E1.length ys news by
    have e : (refs E).toArray.size = E.length := by simp
    rw [e]
    exact aux E [] rfl [] .nil
  intro E2
  induction E2 with
  | nil =>
    intro E1 e ys hy
    rw [List.append_nil] at e
    subst e
    exact LCg.CompRest.zero (fin ys hy)
  | cons e2 E2 ih =>
    intro E1 e ys hy
    refine LCg.CompRest.succ fun v I oI C oC D m₂ h tk E' hv hC hx F N off ne => ?_
    have hv' : v = .ref e2.a := by
      have : (refs E).toArray[E1.length]? = some (.ref e2.a) := by subst e; simp [refs]
      rw [this] at hv
      exact (Option.some.inj hv).symm
    subst hv'
    refine step e2 (by subst e; simp) I oI C oC D ys m₂ h tk E' _ hC hx F N fun t h' tk' F' N' => ?_
    refine LCg.CompEnd.intro F' N' news (fun p hp => hp) off (.inr ⟨_, hel, rfl, _, rfl⟩) ?_
    have := ih (E1 ++ [e2]) (by rw [e]; simp) (ys ++ [.int (f e2) t]) (by rw [List.map_append]; exact hy.append (.cons _ _ .nil))
    rw [List.length_append] at this
    exact this
end
/-- the ledger holds the entries, each in its whole -/
def Holds (P : Params) (news : List (Addr × Obj)) (E : List Ent) : Prop := ∀ e ∈ E, (e.a, instObj 328 e.d) ∈ news ∧ (e.d, e.o) ∈ news ∧ IsRef P e.k e.b e.f e.o
local macro_rules | `(tactic| walk_at "eval ListComp") => `(tactic| (k_here; lcg_look; k_dflt (refine LCg.ListComp_U (F₀ := by k_asm) (by rfl) (by decide) (by rfl) (by decide) (by rfl) ?_); walk_say "MINE comp"))
local macro_rules | `(tactic| walk_at "CompSrc") => `(tactic| (k_here; k_dflt (refine LCg.CompSrc.ledger (by rfl) (by k_asm) (by k_asm) (by k_mem) (by rw [List.size_toArray, sizeLine_eq]; omega) ?_); intro g'; k_dflt (first
  | ((with_reducible show LCg.CompRest _ _ _ _ _ _ _ (PySem.Expr.Attribute _ (Str.ofString "key") _) _ _ _ _ _ _ _ _ _ _ _); refine' Mine.comp_refs Ent.k ?m (fun e' he' I' oI' C' oC' D' ys' m' h' tk' E' Q' hC' hx' F' N' hk' => ?_) (fun ys' hys' => ?_))
  | ((with_reducible show LCg.CompRest _ _ _ _ _ _ _ (PySem.Expr.Attribute _ (Str.ofString "before") _) _ _ _ _ _ _ _ _ _ _ _); refine' Mine.comp_refs Ent.b ?m (fun e' he' I' oI' C' oC' D' ys' m' h' tk' E' Q' hC' hx' F' N' hk' => ?_) (fun ys' hys' => ?_))
  | ((with_reducible show LCg.CompRest _ _ _ _ _ _ _ (PySem.Expr.Attribute _ (Str.ofString "after") _) _ _ _ _ _ _ _ _ _ _ _); refine' Mine.comp_refs Ent.f ?m (fun e' he' I' oI' C' oC' D' ys' m' h' tk' E' Q' hC' hx' F' N' hk' => ?_) (fun ys' hys' => ?_))); (case m => k_mem); (obtain ⟨hq1, hq2, hq3⟩ := (by with_reducible assumption : Mine.Holds _ _ _) _ (by with_reducible assumption); rename Mine.Ent => e'; obtain ⟨ea', ed', eo', ek', eb', ef'⟩ := e'; dsimp only at *; obtain ⟨_, _, _, _, _, _, _, _, _, _, hq4⟩ := hq3; subst hq4); walk_say "MINE rows"))
section
variable {w : World} {A A₀ : Around} {base h₀ : Heap} {outer : List Env} {env : Env} {L : Addr} {m mg mb : Str → Option Value} {p : Program} {loose : List Str} {mean : ExcName → Option Value} {s : Shared} {R : Result → Shared → Prop}
  {news : List (Addr × Obj)} {el x dx conf C : Addr} {no : Obj} {nt mx : Int} {page : Value} {c : Nat} {E : List Ent}
theorem rows_c (B : Below A₀ base outer h₀) (F : Fr h₀ L s.heap m) (X : (hd.heap_39 w.params).In h₀) (T : Top p loose mean mg mb h₀) (N : News h₀ L s.heap news)
    (hA : A.frames = some (env :: outer)) (hh : A.handled = none) (hf : env.frame = some L) (hke : env.scope.kind = .function) (hroom : A.depth < 800) (hC : NodeCls (hd.heap_39 w.params) C)
    (hx : (x, instObj C dx) ∈ news) (hdx : (dx, no) ∈ news) (hno : IsNode w.params nt mx conf el page no) (hel : (el, listOf (refs E).toArray c) ∈ news) (hE : Holds w.params news E) (hn : (refs E).length ≤ 1000)
    (k : ∀ h' tk o n l1 n1 l2 n2 l3 n3 ks bs fs, Fr h₀ L h' m → News h₀ L h' ((o, listOf #[.ref l1, .ref l2, .ref l3] n) :: (l1, listOf ks.toArray n1) :: (l2, listOf bs.toArray n2) :: (l3, listOf fs.toArray n3) :: news) →
      IntsAre ks (E.map Ent.k) → IntsAre bs (E.map Ent.b) → IntsAre fs (E.map Ent.f) → R (.ok (.ret (.ref o))) { s with heap := h', toks := tk }) :
    codeAny (model PySem.Challenge.rw_vq0003_01.row.prog w) A (.call (.ref 636) ⟨[.ref x], []⟩) R s := by
  clear rows_c
  obtain ⟨_, _, _, _, _, _, _, _, _, _, _, _, rfl⟩ := hno
  obtain ⟨c1, c2, c3, c4, c5⟩ := hC
  revert X; k_fill; intro X
  obtain ⟨hd', dp', fr', gd', un'⟩ := A
  dsimp only at hA hroom hh
  subst hA hh
  w_on
  k_enter
  k_steps
  all_goals try ((rename ∀ (_ : Tok) (_ : Heap) (_ : Nat), _ → _ → _ => hk9); refine' hk9 _ _ _ ?F9 ?N9; (case F9 => with_reducible assumption); (case N9 => assumption); done)
  rename News _ _ _ _ => NN
  refine' k _ _ _ _ _ _ _ _ _ _ _ _ _ ?F (News.sub NN ?N) ?i1 ?i2 ?i3
  case F => with_reducible assumption
  case i1 => with_reducible assumption
  case i2 => with_reducible assumption
  case i3 => with_reducible assumption
  case N => k_allIn
end
end Mine
local macro_rules | `(tactic| walk_at "eval ListComp") => `(tactic| (k_here; lcg_look; k_dflt (refine LCg.ListComp_U (F₀ := by k_asm) (by rfl) (by decide) (by rfl) (by decide) (by rfl) ?_); walk_say "MINE comp"))
local macro_rules | `(tactic| walk_at "CompSrc") => `(tactic| (k_here; k_dflt (refine LCg.CompSrc.ledger (by rfl) (by k_asm) (by k_asm) (by k_mem) (by rw [List.size_toArray, sizeLine_eq]; omega) ?_); intro g'; k_dflt (first
  | ((with_reducible show LCg.CompRest _ _ _ _ _ _ _ (PySem.Expr.Attribute _ (Str.ofString "key") _) _ _ _ _ _ _ _ _ _ _ _); refine' Mine.comp_refs Ent.k ?m (fun e' he' I' oI' C' oC' D' ys' m' h' tk' E' Q' hC' hx' F' N' hk' => ?_) (fun ys' hys' => ?_))
  | ((with_reducible show LCg.CompRest _ _ _ _ _ _ _ (PySem.Expr.Attribute _ (Str.ofString "before") _) _ _ _ _ _ _ _ _ _ _ _); refine' Mine.comp_refs Ent.b ?m (fun e' he' I' oI' C' oC' D' ys' m' h' tk' E' Q' hC' hx' F' N' hk' => ?_) (fun ys' hys' => ?_))
  | ((with_reducible show LCg.CompRest _ _ _ _ _ _ _ (PySem.Expr.Attribute _ (Str.ofString "after") _) _ _ _ _ _ _ _ _ _ _ _); refine' Mine.comp_refs Ent.f ?m (fun e' he' I' oI' C' oC' D' ys' m' h' tk' E' Q' hC' hx' F' N' hk' => ?_) (fun ys' hys' => ?_))); (case m => k_mem); (obtain ⟨hq1, hq2, hq3⟩ := (by with_reducible assumption : Mine.Holds _ _ _) _ (by with_reducible assumption); rename Mine.Ent => e'; obtain ⟨ea', ed', eo', ek', eb', ef'⟩ := e'; dsimp only at *; obtain ⟨_, _, _, _, _, _, _, _, _, _, hq4⟩ := hq3; subst hq4); walk_say "MINE rows"))
namespace Mine
section
variable {w : World} {A A₀ : Around} {base h₀ : Heap} {outer : List Env} {env : Env} {L : Addr} {m mg mb : Str → Option Value} {p : Program} {loose : List Str} {mean : ExcName → Option Value} {s : Shared} {R : Result → Shared → Prop}
  {news : List (Addr × Obj)} {el x dx : Addr} {ox : Obj} {kx : Int} {c : Nat} {E : List Ent} {pp : Nat} {Q E' : Value → Shared → Prop}
theorem bloop_left {prog : Program} {A : Around} {s : Shared} {R : Result → Shared → Prop} (k : ∀ t tk, R (.ok (.ret (.int pp t))) { s with toks := tk }) :
    codeAny (model prog w) A (.builtin "_bisect.bisect_right.loop" ⟨[.ref el, .ref x, rawInt pp, rawInt pp, .none, .bool false, .bool true, rawInt 0], []⟩) R s := by
  refine codeAny_builtin entry_bloop ?_
  rw [Around.under_plain (show (Code.builtin "_bisect.bisect_right.loop" ⟨[.ref el, .ref x, rawInt pp, rawInt pp, .none, .bool false, .bool true, rawInt 0], []⟩).weight = 0 from rfl) rfl]
  unfold Builtin.«_bisect.bisect_right.loop»
  show wpAny _ _ (if (pp : Int) < (pp : Int) then _ else _) _ _ _
  rw [if_neg (Int.lt_irrefl _)]
  exact wpAny_bind (wpAny_mkInt (wpAny_pure (k _ _)))
theorem bisl_c (B : Below A₀ base outer h₀) (F : Fr h₀ L s.heap m) (X : (hd.heap_39 w.params).In h₀) (T : Top p loose mean mg mb h₀) (N : News h₀ L s.heap news)
    (hA : A.frames = some (env :: outer)) (hf : env.frame = some L) (hke : env.scope.kind = .function) (hroom : A.depth < 800) (hun : A.units < 9000)
    (hel : (el, listOf (refs E).toArray c) ∈ news) (hE : Bears w.params news E) (hx : (x, instObj 328 dx) ∈ news) (hdx : (dx, ox) ∈ news) (hk : IsKey w.params kx ox) (hp : pp ≤ E.length) (hlen : E.length ≤ 1000)
    (hcmp : ∀ i e, E[i]? = some e → (decide (e.k < kx) = decide (i < pp)))
    (k : ∀ h' tk t, Fr h₀ L h' m → News h₀ L h' news → Q (.int pp t) { s with heap := h', toks := tk }) :
    wpAny (model PySem.Challenge.rw_vq0003_01.row.prog w) A (call (.builtin "_bisect.bisect_left") [.ref el, .ref x]) Q E' s := by
  refine call_fn_body kind_bisl plain_bisl entry_bisl (args_bisl _ _) ?_
  refine bisl_body (N _ hel).1 (by simp; omega) fun tk => ?_
  have hz : (refs E).toArray.size = E.length := by simp
  rw [hz]
  refine bloop (pp := pp) (right := false) B X T hA hf hke hroom hun hel hE hx hdx hk (by omega) (fun i e he => ?_) (fun h' tk' F' N' => ?_) (E.length - 0) 0 E.length s.heap tk (Nat.le_refl _) (Nat.zero_le _) hp (Nat.le_refl _) F N
  · have := hcmp i e he
    simp only [Bool.false_eq_true, if_false]
    rw [this]
    by_cases q : i < pp <;> simp [q] <;> omega
  · exact bloop_left fun t tk'' => k _ _ _ F' N'
end
section
variable {prog : Program} {w : World} {A₀ A : Around} {s : Shared} {base h₀ : Heap} {L : Addr} {m mg mb : Str → Option Value} {env : Env} {news : List (Addr × Obj)} {K : Frag} {p : Program} {loose : List Str} {mean : ExcName → Option Value}
  {R : Result → Shared → Prop} {name qual : Str} {params : Arguments} {body : List Stmt} {scope : Scope} {dV kV doc pm cdv ct oc : Value} {an od : Option Addr} {osl : Array (Option Value)} {f : Addr} {args : Args} {binds : List (Str × Value)}
/-- a def is entered above one frame of any kind; an exception may come and go in it -/
theorem enter_one (B : Below A₀ base [] h₀) (F : Fr h₀ L s.heap m) (X₀ : K.In h₀) (N : News h₀ L s.heap news) (T : Top p loose mean mg mb h₀) (hA : A.frames = some [env]) (hf : env.frame = some L) (hke : env.scope.kind = .function)
    (ho : K.lookup f = some ⟨oc, od, .func (fnOf name qual params body scope dV kV doc pm an cdv ct), osl⟩) (hcd : codeIn K cdv qual = true) (hroom : A.depth < recursionLimit)
    (hbind : BindsTo s (fnOf name qual params body scope dV kV doc pm an cdv ct) args binds) (hloc : ∀ y ∈ binds, scope.names.lookup y.1 = some .local)
    (h : ∀ g L' h₁, Fr h₀ L g m → Fr g L' h₁ (fun y => binds.reverse.lookup y) → News g L' h₁ news → Below A base [env] g → K.In g → Top p loose mean mg mb g → KtsDicts ([env].filterMap (·.frame)) g →
      wpAny (model prog w) (A.deeper (envOf qual scope L' f cdv)) (execs body (envOf qual scope L' f cdv))
        (fun fl s' => LeaveS0 ([env].filterMap (·.frame)) h₀ L m g R (match fl with | .ret v => v | _ => .none) s')
        (fun e s' => wpAny (model prog w) (A.deeper (envOf qual scope L' f cdv)) (leaving (envOf qual scope L' f cdv) e) (fun _ s'' => R (.error e) s'') (fun e' s'' => R (.error e') s'') s')
        { s with heap := h₁, toks := s.toks + binds.length })
    (hco : scope.isCoroutine = false) (hgen : scope.isGenerator = false) (hk : scope.kind = .function) (hcell : ∀ x ∈ scope.names, x.2 ≠ .cell) : codeAny (model prog w) A (.call (.ref f) args) R s := by
  have fm : [env].filterMap (·.frame) = [L] := by simp [hf]
  rw [fm] at h
  obtain ⟨FG, BG, st, _⟩ := groundX (R := R) B F N hA hf hke
  obtain ⟨oL, es, ep, hL, hLd, hLk, hLf⟩ := FG.ns
  have noL : h₀.get? L = none := by
    cases q : h₀.get? L with
    | none => rfl
    | some o => exact absurd (Heap.lt_size q) (Nat.not_lt.mpr F.above)
  refine codeAny_call_def (fd := fnOf name qual params body scope dV kV doc pm an cdv ct) (body := body) (binds := binds) hroom ((X₀.keeps F.keep) _ _ ho) rfl (T.nolimit.keeps F.keep) (codeRec_of (X₀.keeps F.keep) hcd) rfl hbind hcell hloc (fun h₁ hns hk₁ => ?_) hco hgen hk
  have W := h _ s.heap.objs.size h₁ FG ⟨hns, fun b o e => hk₁ b o (of_hideAll _ e), Nat.le_of_eq (hideAll_size _ _)⟩
    (fun p hp => ⟨hk₁ _ _ (N p hp).1, Nat.ne_of_lt (Heap.lt_size (N p hp).1), hideAll_none _ (List.mem_map_of_mem hp)⟩) BG (X₀.keeps st) (T.keeps st)
    (fun b hb => by rw [List.mem_singleton.mp hb]; exact ⟨oL, es, ep, hL, hLd⟩)
  refine wpAny_mono W (fun fl s' hl => ?_) fun _ _ y => y
  obtain ⟨g', L', m', news', T', F', N', k⟩ := hl
  obtain ⟨sl, hs⟩ := T'.up hL
  refine k ⟨⟨_, es, ep, F'.keep _ _ hs, hLd, hLk, hLf⟩, fun b o e => F'.keep b o (T'.other b o (st b o e) fun q => ?_), F.above⟩ fun q hq => ⟨(N' q hq).1, fun z => ?_, ?_⟩
  · rw [List.mem_singleton.mp q, noL] at e; cases e
  · have := (N' q hq).2.2; rw [z, hs] at this; cases this
  · cases z : h₀.get? q.1 with
    | none => rfl
    | some o =>
      obtain ⟨sl', hs'⟩ := T'.up (st _ _ z)
      have := (N' q hq).2.2
      rw [hs'] at this; cases this
end
end Mine
namespace Mine
/-- a method's form over an attribute of an object whose class holds no def under that name -/
theorem method_usual {prog : Program} {w : World} {A : Around} {E : Value → Shared → Prop} {s : Shared} {K : Frag} {h₀ : Heap} {L x C : Addr} {m : Str → Option Value} {ox : Obj} {od : Option Obj} {name : Str} {f tf : Value} {pl : Sem Bool} {Q : Value × List Value → Shared → Prop}
    (F : Fr h₀ L s.heap m) (X₀ : K.In h₀) (I : InstAt s.heap x ox C od) (hg : plainGet K C name = true) (hf : findIn K (.ref C) name = some (some f)) (ht : typeIn K f = some tf) (hb : (tf != .type "function" && tf != .type "method_descriptor" && tf != .type "wrapper_descriptor") = true)
    (h : wpAny (model prog w) A (getAttr (.ref x) name) (fun v => Q (v, [])) E s) : wpAny (model prog w) A (getMethod (.ref x) name pl) Q E s := by
  have X := X₀.keeps F.keep
  have g1 : Looks (model prog w) s.heap (specialOf (.ref x) "__getattribute__") (some (.builtin "object.__getattribute__")) := I.type.andThen (looks_findIn X (plainGet_of hg).1)
  have g2 : Looks (model prog w) s.heap (specialOf (.ref x) "__getattr__") none := I.type.andThen (looks_findIn X (plainGet_of hg).2)
  have g3 : Looks (model prog w) s.heap (specialOf (.ref x) name) (some f) := I.type.andThen (looks_findIn X hf)
  unfold getMethod
  refine wpAny_bind (g1.here ?_)
  dsimp only
  rw [if_neg (by decide +kernel)]
  refine wpAny_bind (g2.here ?_)
  dsimp only [Option.isSome_none]
  rw [if_neg (by decide)]
  refine wpAny_bind (g3.here (wpAny_bind ((looks_typeIn X ht).here ?_)))
  rw [if_pos hb]
  refine wpAny_bind (wpAny_mono h (fun v s' z => ?_) fun _ _ z => z)
  exact wpAny_pure z
local macro_rules | `(tactic| walk_at "getMethod ref") => `(tactic| (k_here; (with_reducible show wpAny _ _ (getMethod (Value.ref _) (Str.ofString "_entry_class") _) _ _ _); k_dflt (refine' Mine.method_usual ?k1 ?k2 ?k3 ?k4 ?k5 ?k6 ?k7 ?_; (case k1 => k_asm); (case k2 => k_asm); (case k3 => k_inst); (case k4 => k_is); (case k5 => k_is); (case k6 => rfl); (case k7 => decide +kernel); k_whole); walk_say "MINE usual"))
theorem Holds.up {P : Params} {news news' : List (Addr × Obj)} {E : List Ent} (h : Holds P news E) (s : ∀ p ∈ news, p ∈ news') : Bears P news' E := fun e he => ⟨s _ (h e he).1, s _ (h e he).2.1, (h e he).2.2.key⟩
theorem isKey_new {P : Params} {k : Int} {q : Tok} {u0 u1 u2 u3 u4 ul : Tok} {c : Addr} : IsKey P k (refDict P u0 u1 u2 u3 u4 ul c (.int k q) .none .none) := ⟨_, _, _, _, _, _, _, _, _, _, rfl⟩
/-- kx has pp keys of E below it -/
def Sought (E : List Ent) (kx : Int) (pp : Nat) : Prop := pp ≤ E.length ∧ E.length ≤ 1000 ∧ ∀ i e, E[i]? = some e → (decide (e.k < kx) = decide (i < pp))
local macro_rules | `(tactic| walk_at "call ref cons") => `(tactic| (k_here; (with_reducible show wpAny _ _ (call (Value.ref 328) [Value.ref _] _) _ _ _); k_dflt (show wpAny _ _ (call (Value.ref 328) [Value.ref _] [(Str.ofString "key", Value.int _ _)]) _ _ _); k_dflt (refine' Mine.ref_newK ?B ?F ?X ?T ?N ?A ?f ?k ?room ?hx ?hcd ?_; (case A => first | assumption | exact rfl); (case f => first | assumption | exact rfl); (case k => first | assumption | exact rfl); (case B => k_asm); (case F => k_asm); (case X => k_asm); (case T => k_asm); (case N => k_asm); (case hx => k_mem); (case hcd => k_mem); (case room => k_room); k_whole); intro x' dx' h' tk' u0' u1' u2' u3' u4' ul' F' N' l1 l2; (try k_lt l1); (try k_sweep); walk_say "MINE ref"))
local macro_rules | `(tactic| walk_at "call builtin:_bisect.bisect_left cons nil") => `(tactic| (k_here; k_dflt (refine' Mine.bisl_c ?B ?F ?X ?T ?N ?A ?f ?k ?room ?un ?hel ?hE ?hx ?hdx ?hk ?hp ?hlen ?hcmp ?_; (case hcmp => exact (by with_reducible assumption : Mine.Sought _ _ _).2.2); (case hp => exact (by with_reducible assumption : Mine.Sought _ _ _).1); (case hlen => exact (by with_reducible assumption : Mine.Sought _ _ _).2.1); (case A => first | assumption | exact rfl); (case f => first | assumption | exact rfl); (case k => first | assumption | exact rfl); (case B => k_asm); (case F => k_asm); (case X => k_asm); (case T => k_asm); (case N => k_asm); (case hE => exact Mine.Holds.up (by with_reducible assumption) (fun p hp => by k_ownIn)); (case hel => k_mem); (case hx => k_mem); (case hdx => k_mem); (case hk => exact Mine.isKey_new); (case room => k_room); (case un => k_units); k_whole); intro h' tk' t' F' N'; (try k_sweep); walk_say "MINE bisect_left"))
theorem item_idx {prog : Program} {w : World} {A : Around} {E : Value → Shared → Prop} {s : Shared} {h₀ : Heap} {L : Addr} {news : List (Addr × Obj)} {value slice : PySem.Expr} {l : Addr} {vs : List Value} {i c : Nat} {u : Tok} {v : Value} {Q : Value → Shared → Prop}
    (N : News h₀ L s.heap news) (hm : (l, listOf vs.toArray c) ∈ news) (hx : vs[i]? = some v) (hn : i ≤ 1000) (h : Q v s)
    (hs : subscripted slice false (.ref l) (.int (i : Int) u) = operate [.ref l, .int (i : Int) u] (getItem (.ref l) (.int (i : Int) u)) := by with_unfolding_all rfl) :
    wpAny (model prog w) A (subscriptTail value slice (.ref l) (.int (i : Int) u)) Q E s :=
  item_litK ⟨_, (N _ hm).1, rfl, _, rfl⟩ (by omega) (by omega) (by rw [Int.toNat_natCast]; exact hx) h hs
local macro_rules | `(tactic| walk_at "subscriptTail Name Name ref int") => `(tactic| (k_here; (with_reducible show wpAny _ _ (subscriptTail _ _ (Value.ref _) (Value.int (Nat.cast _) _)) _ _ _); k_dflt (refine' Mine.item_idx ?N ?m ?zx ?zn ?_ ?s; (case N => k_asm); (case m => k_mem); (case zx => with_reducible assumption); (case zn => omega); (case s => with_unfolding_all rfl); k_whole; walk_say "MINE idx")))
section
variable {w : World} {A A₀ : Around} {base h₀ : Heap} {outer : List Env} {env : Env} {L : Addr} {m mg mb : Str → Option Value} {p : Program} {loose : List Str} {mean : ExcName → Option Value} {s : Shared} {R : Result → Shared → Prop}
  {news : List (Addr × Obj)} {el x dx conf cd ser : Addr} {no : Obj} {nt mx order : Int} {t1 t2 t3 t4 tk0 : Tok} {n : Nat} {page : Value} {c : Nat} {E : List Ent} {e : Ent} {pp : Nat}
theorem find_1 (B : Below A₀ base outer h₀) (F : Fr h₀ L s.heap m) (X : (hd.heap_39 w.params).In h₀) (T : Top p loose mean mg mb h₀) (N : News h₀ L s.heap news)
    (hA : A.frames = some (env :: outer)) (hf : env.frame = some L) (hke : env.scope.kind = .function) (hroom : A.depth < 700) (hun : A.units < 8000)
    (hx : (x, instObj 575 dx) ∈ news) (hdx : (dx, no) ∈ news) (hno : IsNode w.params nt mx conf el page no) (hel : (el, listOf (refs E).toArray c) ∈ news) (hE : Holds w.params news E)
    (hcf : (conf, confObj cd order t1 t2 t3 t4 ser n) ∈ news) (hcd : (cd, dictOf [] 0) ∈ news) {kx : Int} (hkx : e.k = kx) (hS : Sought E kx pp) (he : E[pp]? = some e)
    (k : ∀ h' tk t, Fr h₀ L h' m → News h₀ L h' news → R (.ok (.ret (.int pp t))) { s with heap := h', toks := tk }) :
    codeAny (model PySem.Challenge.rw_vq0003_01.row.prog w) A (.call (.ref 449) ⟨[.ref x, .int kx tk0], []⟩) R s := by
  clear find_1
  subst hkx
  have hn : (refs E).length ≤ 1000 := by have := hS.2.1; simp; omega
  have hlt : (pp : Int) < ((refs E).length : Int) := by have := (List.getElem?_eq_some_iff.mp he).1; simp; omega
  have hie : (refs E)[pp]? = some (.ref e.a) := by simp [refs, he]
  obtain ⟨q1, q2, q3⟩ := hE e (List.mem_of_getElem? he)
  obtain ⟨ea, ed, eo, ek, eb, ef⟩ := e
  dsimp only at *
  obtain ⟨_, _, _, _, _, _, _, _, _, _, rfl⟩ := q3
  obtain ⟨_, _, _, _, _, _, _, _, _, _, _, _, rfl⟩ := hno
  revert X; k_fill; intro X
  obtain ⟨hd', dp', fr', gd', un'⟩ := A
  dsimp only at hA hroom hun
  subst hA
  w_on
  k_enter
  k_steps
  all_goals try (exfalso; omega)
  rename News _ _ _ _ => NN
  refine' k _ _ _ ?F (News.sub NN ?N)
  case F => with_reducible assumption
  case N => intro p hp; k_ownIn
end
end Mine
local macro_rules | `(tactic| walk_at "getMethod ref") => `(tactic| (k_here; (with_reducible show wpAny _ _ (getMethod (Value.ref _) (Str.ofString "_entry_class") _) _ _ _); k_dflt (refine' Mine.method_usual ?k1 ?k2 ?k3 ?k4 ?k5 ?k6 ?k7 ?_; (case k1 => k_asm); (case k2 => k_asm); (case k3 => k_inst); (case k4 => k_is); (case k5 => k_is); (case k6 => rfl); (case k7 => decide +kernel); k_whole); walk_say "MINE usual"))
local macro_rules | `(tactic| walk_at "call ref cons") => `(tactic| (k_here; (with_reducible show wpAny _ _ (call (Value.ref 328) [Value.ref _] _) _ _ _); k_dflt (show wpAny _ _ (call (Value.ref 328) [Value.ref _] [(Str.ofString "key", Value.int _ _)]) _ _ _); k_dflt (refine' Mine.ref_newK ?B ?F ?X ?T ?N ?A ?f ?k ?room ?hx ?hcd ?_; (case A => first | assumption | exact rfl); (case f => first | assumption | exact rfl); (case k => first | assumption | exact rfl); (case B => k_asm); (case F => k_asm); (case X => k_asm); (case T => k_asm); (case N => k_asm); (case hx => k_mem); (case hcd => k_mem); (case room => k_room); k_whole); intro x' dx' h' tk' u0' u1' u2' u3' u4' ul' F' N' l1 l2; (try k_lt l1); (try k_sweep); walk_say "MINE ref"))
local macro_rules | `(tactic| walk_at "call builtin:_bisect.bisect_left cons nil") => `(tactic| (k_here; k_dflt (refine' Mine.bisl_c ?B ?F ?X ?T ?N ?A ?f ?k ?room ?un ?hel ?hE ?hx ?hdx ?hk ?hp ?hlen ?hcmp ?_; (case hcmp => exact (by with_reducible assumption : Mine.Sought _ _ _).2.2); (case hp => exact (by with_reducible assumption : Mine.Sought _ _ _).1); (case hlen => exact (by with_reducible assumption : Mine.Sought _ _ _).2.1); (case A => first | assumption | exact rfl); (case f => first | assumption | exact rfl); (case k => first | assumption | exact rfl); (case B => k_asm); (case F => k_asm); (case X => k_asm); (case T => k_asm); (case N => k_asm); (case hE => exact Mine.Holds.up (by with_reducible assumption) (fun p hp => by k_ownIn)); (case hel => k_mem); (case hx => k_mem); (case hdx => k_mem); (case hk => exact Mine.isKey_new); (case room => k_room); (case un => k_units); k_whole); intro h' tk' t' F' N'; (try k_sweep); walk_say "MINE bisect_left"))
local macro_rules | `(tactic| walk_at "subscriptTail Name Name ref int") => `(tactic| (k_here; (with_reducible show wpAny _ _ (subscriptTail _ _ (Value.ref _) (Value.int (Nat.cast _) _)) _ _ _); k_dflt (refine' Mine.item_idx ?N ?m ?zx ?zn ?_ ?s; (case N => k_asm); (case m => k_mem); (case zx => with_reducible assumption); (case zn => omega); (case s => with_unfolding_all rfl); k_whole; walk_say "MINE idx")))
namespace Mine
local macro_rules | `(tactic| walk_at "subscriptTail Name Call ref int") => `(tactic| (k_here; (with_reducible show wpAny _ _ (subscriptTail _ _ (Value.ref _) (Value.int (Nat.cast _) _)) _ _ _); k_dflt (refine' Mine.item_idx ?N ?m ?zx ?zn ?_ ?s; (case N => k_asm); (case m => k_mem); (case zx => with_reducible assumption); (case zn => omega); (case s => with_unfolding_all rfl); k_whole; walk_say "MINE idx")))
local macro_rules | `(tactic| walk_at "call ref cons nil") => `(tactic| (k_here; (with_reducible show wpAny _ _ (call (Value.ref 449) [Value.ref _, Value.int _ _]) _ _ _); k_dflt (refine wpAny_call ?_; refine' Mine.find_1 ?B ?F ?X ?T ?N ?A ?f ?k ?room ?un ?hx ?hdx ?hno ?hel ?hE ?hcf ?hcd ?hkx ?hS ?he ?_; (case he => with_reducible assumption); (case hkx => rfl); (case hS => with_reducible assumption); (case A => first | assumption | exact rfl); (case f => first | assumption | exact rfl); (case k => first | assumption | exact rfl); (case B => k_asm); (case F => k_asm); (case X => k_asm); (case T => k_asm); (case N => k_asm); (case hE => with_reducible assumption); (case hx => k_mem); (case hdx => k_mem); (case hno => exact Mine.IsNode.mk); (case hel => k_mem); (case hcf => k_mem); (case hcd => k_mem); (case room => k_room); (case un => k_units); k_whole); intro h' tk' t' F' N'; (try k_sweep); walk_say "MINE find"))
section
variable {w : World} {A A₀ : Around} {base h₀ : Heap} {outer : List Env} {env : Env} {L : Addr} {m mg mb : Str → Option Value} {p : Program} {loose : List Str} {mean : ExcName → Option Value} {s : Shared} {R : Result → Shared → Prop}
  {news : List (Addr × Obj)} {el x dx conf cd ser : Addr} {no : Obj} {nt mx order : Int} {t1 t2 t3 t4 tk0 : Tok} {n : Nat} {page : Value} {c : Nat} {E : List Ent} {e : Ent} {pp : Nat}
theorem found_1 (B : Below A₀ base outer h₀) (F : Fr h₀ L s.heap m) (X : (hd.heap_39 w.params).In h₀) (T : Top p loose mean mg mb h₀) (N : News h₀ L s.heap news)
    (hA : A.frames = some (env :: outer)) (hf : env.frame = some L) (hke : env.scope.kind = .function) (hroom : A.depth < 600) (hun : A.units < 6000)
    (hx : (x, instObj 575 dx) ∈ news) (hdx : (dx, no) ∈ news) (hno : IsNode w.params nt mx conf el page no) (hel : (el, listOf (refs E).toArray c) ∈ news) (hE : Holds w.params news E)
    (hcf : (conf, confObj cd order t1 t2 t3 t4 ser n) ∈ news) (hcd : (cd, dictOf [] 0) ∈ news) {kx : Int} (hkx : e.k = kx) (hS : Sought E kx pp) (he : E[pp]? = some e)
    (k : ∀ h' tk o u1 u2 u3, Fr h₀ L h' m → News h₀ L h' ((o, ({ cls := .type "tuple", data := .seq #[.int e.k u1, .int e.b u2, .int e.f u3] } : Obj)) :: news) → (∀ p ∈ news, p.1 < o) → R (.ok (.ret (.ref o))) { s with heap := h', toks := tk }) :
    codeAny (model PySem.Challenge.rw_vq0003_01.row.prog w) A (.call (.ref 643) ⟨[.ref x, .int kx tk0], []⟩) R s := by
  clear found_1
  subst hkx
  have hn : (refs E).length ≤ 1000 := by have := hS.2.1; simp; omega
  have hlt : (pp : Int) < ((refs E).length : Int) := by have := (List.getElem?_eq_some_iff.mp he).1; simp; omega
  have hie : (refs E)[pp]? = some (.ref e.a) := by simp [refs, he]
  obtain ⟨q1, q2, q3⟩ := hE e (List.mem_of_getElem? he)
  obtain ⟨_, _, _, _, _, _, _, _, _, _, _, _, rfl⟩ := hno
  obtain ⟨_, _, _, _, _, _, _, _, _, _, q4⟩ := q3
  rw [q4] at q2
  revert X; k_fill; intro X
  obtain ⟨hd', dp', fr', gd', un'⟩ := A
  dsimp only at hA hroom hun
  subst hA
  w_on
  k_enter
  k_steps
  rename News _ _ _ _ => NN
  refine' k _ _ _ _ _ _ ?F (News.sub NN ?N) ?l
  case F => with_reducible assumption
  case N => refine List.forall_mem_cons.mpr ⟨by k_memK, fun p hp => by k_ownIn⟩
  case l => first | with_reducible assumption | exact allLt_lt (by with_reducible assumption)
end
theorem cut_at (vs ws : List Value) (v : Value) : kl_cut (vs ++ v :: ws) vs.length = some (vs, v, ws) := by
  induction vs with
  | nil => rfl
  | cons x vs ih => simp only [List.cons_append, List.length_cons, kl_cut, ih]
theorem pop_at {prog : Program} {w : World} {A : Around} {E : Value → Shared → Prop} {s : Shared} {h₀ : Heap} {L : Addr} {m : Str → Option Value} {news news' : List (Addr × Obj)} {l : Addr} {zs vs ws : List Value} {v : Value} {c pp : Nat} {u : Tok} {Q : Value → Shared → Prop}
    (F : Fr h₀ L s.heap m) (N : News h₀ L s.heap news) (hs : zs = vs ++ v :: ws) (hp : pp = vs.length) (U : Upd l (listOf zs.toArray c) (listOf (vs ++ ws).toArray (c + 1)) news news') (hn : zs.length ≤ 1000)
    (h : ∀ h', Fr h₀ L h' m → News h₀ L h' news' → Q v { s with heap := h' }) : wpAny (model prog w) A (call (.builtin "list.pop") [.ref l, .int (pp : Int) u]) Q E s := by
  subst hs hp
  refine kl_popAt (k := vs.length) (p := vs) (q := ws) (y := v) F N (by unfold Builtin.List.listFitsIndex; simp at hn; simp <;> omega) (by unfold seqIndex?; simp <;> omega) (cut_at vs ws v) U (by rw [sizeLine_eq]; simp at hn ⊢; omega) h
local macro_rules | `(tactic| walk_at "call builtin:list.pop cons nil") => `(tactic| (k_here; (with_reducible show wpAny _ _ (call _ [Value.ref _, Value.int (Nat.cast _) _]) _ _ _); k_dflt (refine' Mine.pop_at ?F ?N ?hs ?hp ?U ?zn ?_; (case hs => with_reducible assumption); (case hp => with_reducible assumption); (case F => k_asm); (case N => k_asm); (case U => k_upd); (case zn => with_reducible assumption); k_whole); intro h' F' N'; (try k_sweep); walk_say "MINE pop at"))
section
variable {w : World} {A A₀ : Around} {base h₀ : Heap} {outer : List Env} {env : Env} {L : Addr} {m mg mb : Str → Option Value} {p : Program} {loose : List Str} {mean : ExcName → Option Value} {s : Shared} {R : Result → Shared → Prop}
  {news : List (Addr × Obj)} {el x dx conf cd ser : Addr} {no : Obj} {nt mx order : Int} {t1 t2 t3 t4 tk0 : Tok} {n : Nat} {page : Value} {c : Nat} {E : List Ent} {e : Ent} {pp : Nat}
theorem taken_1 {rest : List (Addr × Obj)} (B : Below A₀ base outer h₀) (F : Fr h₀ L s.heap m) (X : (hd.heap_39 w.params).In h₀) (T : Top p loose mean mg mb h₀) (N : News h₀ L s.heap ((el, listOf (refs E).toArray c) :: rest))
    (hA : A.frames = some (env :: outer)) (hf : env.frame = some L) (hke : env.scope.kind = .function) (hroom : A.depth < 600) (hun : A.units < 6000) (hne : ∀ p ∈ rest, p.1 ≠ el)
    (hx : (x, instObj 575 dx) ∈ rest) (hdx : (dx, no) ∈ rest) (hno : IsNode w.params nt mx conf el page no) (hE : Holds w.params ((el, listOf (refs E).toArray c) :: rest) E)
    (hcf : (conf, confObj cd order t1 t2 t3 t4 ser n) ∈ rest) (hcd : (cd, dictOf [] 0) ∈ rest) {kx : Int} (hkx : e.k = kx) (hS : Sought E kx pp) (he : E[pp]? = some e) {vs ws : List Value} {v : Value} (hs : refs E = vs ++ v :: ws) (hp : pp = vs.length)
    (k : ∀ h' tk c', Fr h₀ L h' m → News h₀ L h' ((el, listOf (vs ++ ws).toArray c') :: rest) → R (.ok (.ret (.bool true))) { s with heap := h', toks := tk }) :
    codeAny (model PySem.Challenge.rw_vq0003_01.row.prog w) A (.call (.ref 650) ⟨[.ref x, .int kx tk0], []⟩) R s := by
  clear taken_1
  subst hkx
  have hn : (refs E).length ≤ 1000 := by have := hS.2.1; simp; omega
  obtain ⟨_, _, _, _, _, _, _, _, _, _, _, _, rfl⟩ := hno
  revert X; k_fill; intro X
  obtain ⟨hd', dp', fr', gd', un'⟩ := A
  dsimp only at hA hroom hun
  subst hA
  w_on
  k_enter
  k_steps
  rename News _ _ _ _ => NN
  refine' k _ _ _ ?F NN
  case F => with_reducible assumption
end
end Mine
local macro_rules | `(tactic| walk_at "subscriptTail Name Call ref int") => `(tactic| (k_here; (with_reducible show wpAny _ _ (subscriptTail _ _ (Value.ref _) (Value.int (Nat.cast _) _)) _ _ _); k_dflt (refine' Mine.item_idx ?N ?m ?zx ?zn ?_ ?s; (case N => k_asm); (case m => k_mem); (case zx => with_reducible assumption); (case zn => omega); (case s => with_unfolding_all rfl); k_whole; walk_say "MINE idx")))
local macro_rules | `(tactic| walk_at "call ref cons nil") => `(tactic| (k_here; (with_reducible show wpAny _ _ (call (Value.ref 449) [Value.ref _, Value.int _ _]) _ _ _); k_dflt (refine wpAny_call ?_; refine' Mine.find_1 ?B ?F ?X ?T ?N ?A ?f ?k ?room ?un ?hx ?hdx ?hno ?hel ?hE ?hcf ?hcd ?hkx ?hS ?he ?_; (case he => with_reducible assumption); (case hkx => rfl); (case hS => with_reducible assumption); (case A => first | assumption | exact rfl); (case f => first | assumption | exact rfl); (case k => first | assumption | exact rfl); (case B => k_asm); (case F => k_asm); (case X => k_asm); (case T => k_asm); (case N => k_asm); (case hE => with_reducible assumption); (case hx => k_mem); (case hdx => k_mem); (case hno => exact Mine.IsNode.mk); (case hel => k_mem); (case hcf => k_mem); (case hcd => k_mem); (case room => k_room); (case un => k_units); k_whole); intro h' tk' t' F' N'; (try k_sweep); walk_say "MINE find"))
local macro_rules | `(tactic| walk_at "call builtin:list.pop cons nil") => `(tactic| (k_here; (with_reducible show wpAny _ _ (call _ [Value.ref _, Value.int (Nat.cast _) _]) _ _ _); k_dflt (refine' Mine.pop_at ?F ?N ?hs ?hp ?U ?zn ?_; (case hs => with_reducible assumption); (case hp => with_reducible assumption); (case F => k_asm); (case N => k_asm); (case U => k_upd); (case zn => with_reducible assumption); k_whole); intro h' F' N'; (try k_sweep); walk_say "MINE pop at"))
namespace Mine
local macro_rules | `(tactic| walk_at "call builtin:str.format nil") => `(tactic| (k_here; (refine' KFm.call_k ?kfmF ?kfmg ?kfmm ?_; (case kfmF => kfm_eq); (case kfmg => kfm_args); (case kfmm => k_dflt kfm_run)); intro tf' tg'; walk_say "MINE format"))
section
variable {w : World} {A A₀ : Around} {base h₀ : Heap} {env : Env} {L : Addr} {m mg mb : Str → Option Value} {p : Program} {loose : List Str} {mean : ExcName → Option Value} {s : Shared} {R : Result → Shared → Prop}
  {news : List (Addr × Obj)} {el x dx conf cd ser : Addr} {no : Obj} {nt mx order : Int} {t1 t2 t3 t4 tk0 : Tok} {n : Nat} {page : Value} {c : Nat} {E : List Ent} {e : Ent} {pp : Nat} {kx : Int}
theorem found_0a (B : Below A₀ base [] h₀) (F : Fr h₀ L s.heap m) (X : (hd.heap_39 w.params).In h₀) (T : Top p loose mean mg mb h₀) (N : News h₀ L s.heap news) (XB : (hd.heap_39 w.params).In base) (TB : Top p loose mean mg mb base)
    (hA : A.frames = some [env]) (hh : A.handled = none) (hf : env.frame = some L) (hke : env.scope.kind = .function) (hroom : A.depth < 600) (hun : A.units < 6000)
    (hx : (x, instObj 575 dx) ∈ news) (hdx : (dx, no) ∈ news) (hno : IsNode w.params nt mx conf el page no) (hel : (el, listOf (refs E).toArray c) ∈ news) (hE : Holds w.params news E)
    (hcf : (conf, confObj cd order t1 t2 t3 t4 ser n) ∈ news) (hcd : (cd, dictOf [] 0) ∈ news) (hS : Sought E kx pp) (hk0 : 0 ≤ kx) (hk1 : kx ≤ 1024) (he : (refs E).length = pp)
    (k : ∀ h' tk, Fr h₀ L h' m → News h₀ L h' news → R (.ok (.ret .none)) { s with heap := h', toks := tk }) :
    codeAny (model PySem.Challenge.rw_vq0003_01.row.prog w) A (.call (.ref 643) ⟨[.ref x, .int kx tk0], []⟩) R s := by
  clear found_0a
  have hn : (refs E).length ≤ 1000 := by have := hS.2.1; simp; omega
  have hlt : (pp : Int) = ((refs E).length : Int) := by omega
  obtain ⟨_, _, _, _, _, _, _, _, _, _, _, _, rfl⟩ := hno
  revert X XB; k_fill; intro X XB
  obtain ⟨hd', dp', fr', gd', un'⟩ := A
  dsimp only at hA hroom hun hh
  subst hA hh
  w_on
  (refine' enter_one ?k1 ?k2 ?k3 ?k4 ?k5 ?kA ?kF ?kK ?k6 ?k7 ?k8 ?k9 ?kB ?_ ?c2 ?c3 ?c4 ?c5; (case kA => exact rfl); (case kF => assumption); (case kK => assumption); (case k2 => exact F); (case k1 => exact B); (case k3 => exact X); (case k4 => exact N); (case k5 => exact T); (case k6 => k_is); (case k7 => k_is); (case k8 => k_room); (case k9 => exact BindsTo.of_eq rfl); (case c5 => decide); (case kB => exact locs rfl); (case c2 => exact rfl); (case c3 => exact rfl); (case c4 => exact rfl); k_whole; intro g' L' h' FG' F' N' B' X' T' D'; (try dsimp only); (try k_lift B'); (try k_fold))
  k_steps
  all_goals try (exfalso; omega)
  rename News _ _ _ _ => NN
  refine' k _ _ ?F (News.sub NN ?N)
  case F => with_reducible assumption
  case N => intro p hp; k_ownIn
end
end Mine
local macro_rules | `(tactic| walk_at "call builtin:str.format nil") => `(tactic| (k_here; (refine' KFm.call_k ?kfmF ?kfmg ?kfmm ?_; (case kfmF => kfm_eq); (case kfmg => kfm_args); (case kfmm => k_dflt kfm_run)); intro tf' tg'; walk_say "MINE format"))
namespace Mine
section
variable {w : World} {A A₀ : Around} {base h₀ : Heap} {env : Env} {L : Addr} {m mg mb : Str → Option Value} {p : Program} {loose : List Str} {mean : ExcName → Option Value} {s : Shared} {R : Result → Shared → Prop}
  {news : List (Addr × Obj)} {el x dx conf cd ser : Addr} {no : Obj} {nt mx order : Int} {t1 t2 t3 t4 tk0 : Tok} {n : Nat} {page : Value} {c : Nat} {E : List Ent} {e : Ent} {pp : Nat} {kx : Int}
theorem found_0b (B : Below A₀ base [] h₀) (F : Fr h₀ L s.heap m) (X : (hd.heap_39 w.params).In h₀) (T : Top p loose mean mg mb h₀) (N : News h₀ L s.heap news) (XB : (hd.heap_39 w.params).In base) (TB : Top p loose mean mg mb base)
    (hA : A.frames = some [env]) (hh : A.handled = none) (hf : env.frame = some L) (hke : env.scope.kind = .function) (hroom : A.depth < 600) (hun : A.units < 6000)
    (hx : (x, instObj 575 dx) ∈ news) (hdx : (dx, no) ∈ news) (hno : IsNode w.params nt mx conf el page no) (hel : (el, listOf (refs E).toArray c) ∈ news) (hE : Holds w.params news E)
    (hcf : (conf, confObj cd order t1 t2 t3 t4 ser n) ∈ news) (hcd : (cd, dictOf [] 0) ∈ news) (hS : Sought E kx pp) (hk0 : 0 ≤ kx) (hk1 : kx ≤ 1024) (he : E[pp]? = some e) (hgt : kx < e.k)
    (k : ∀ h' tk, Fr h₀ L h' m → News h₀ L h' news → R (.ok (.ret .none)) { s with heap := h', toks := tk }) :
    codeAny (model PySem.Challenge.rw_vq0003_01.row.prog w) A (.call (.ref 643) ⟨[.ref x, .int kx tk0], []⟩) R s := by
  clear found_0b
  have hn : (refs E).length ≤ 1000 := by have := hS.2.1; simp; omega
  have hlt : (pp : Int) < ((refs E).length : Int) := by have := (List.getElem?_eq_some_iff.mp he).1; simp; omega
  have hie : (refs E)[pp]? = some (.ref e.a) := by simp [refs, he]
  obtain ⟨q1, q2, q3⟩ := hE e (List.mem_of_getElem? he)
  obtain ⟨_, _, _, _, _, _, _, _, _, _, q4⟩ := q3
  rw [q4] at q2
  obtain ⟨_, _, _, _, _, _, _, _, _, _, _, _, rfl⟩ := hno
  revert X XB; k_fill; intro X XB
  obtain ⟨hd', dp', fr', gd', un'⟩ := A
  dsimp only at hA hroom hun hh
  subst hA hh
  w_on
  (refine' enter_one ?k1 ?k2 ?k3 ?k4 ?k5 ?kA ?kF ?kK ?k6 ?k7 ?k8 ?k9 ?kB ?_ ?c2 ?c3 ?c4 ?c5; (case kA => exact rfl); (case kF => assumption); (case kK => assumption); (case k2 => exact F); (case k1 => exact B); (case k3 => exact X); (case k4 => exact N); (case k5 => exact T); (case k6 => k_is); (case k7 => k_is); (case k8 => k_room); (case k9 => exact BindsTo.of_eq rfl); (case c5 => decide); (case kB => exact locs rfl); (case c2 => exact rfl); (case c3 => exact rfl); (case c4 => exact rfl); k_whole; intro g' L' h' FG' F' N' B' X' T' D'; (try dsimp only); (try k_lift B'); (try k_fold))
  k_steps
  all_goals try (exfalso; omega)
  rename News _ _ _ _ => NN
  refine' k _ _ ?F (News.sub NN ?N)
  case F => with_reducible assumption
  case N => intro p hp; k_ownIn
end
end Mine
namespace Mine
section
variable {w : World} {A A₀ : Around} {base h₀ : Heap} {env : Env} {L : Addr} {m mg mb : Str → Option Value} {p : Program} {loose : List Str} {mean : ExcName → Option Value} {s : Shared} {R : Result → Shared → Prop}
  {news : List (Addr × Obj)} {el x dx conf cd ser : Addr} {no : Obj} {nt mx order : Int} {t1 t2 t3 t4 tk0 : Tok} {n : Nat} {page : Value} {c : Nat} {E : List Ent} {e : Ent} {pp : Nat} {kx : Int}
theorem taken_0a (B : Below A₀ base [] h₀) (F : Fr h₀ L s.heap m) (X : (hd.heap_39 w.params).In h₀) (T : Top p loose mean mg mb h₀) (N : News h₀ L s.heap news) (XB : (hd.heap_39 w.params).In base) (TB : Top p loose mean mg mb base)
    (hA : A.frames = some [env]) (hh : A.handled = none) (hf : env.frame = some L) (hke : env.scope.kind = .function) (hroom : A.depth < 600) (hun : A.units < 6000)
    (hx : (x, instObj 575 dx) ∈ news) (hdx : (dx, no) ∈ news) (hno : IsNode w.params nt mx conf el page no) (hel : (el, listOf (refs E).toArray c) ∈ news) (hE : Holds w.params news E)
    (hcf : (conf, confObj cd order t1 t2 t3 t4 ser n) ∈ news) (hcd : (cd, dictOf [] 0) ∈ news) (hS : Sought E kx pp) (hk0 : 0 ≤ kx) (hk1 : kx ≤ 1024) (he : (refs E).length = pp)
    (k : ∀ h' tk, Fr h₀ L h' m → News h₀ L h' news → R (.ok (.ret (.bool false))) { s with heap := h', toks := tk }) :
    codeAny (model PySem.Challenge.rw_vq0003_01.row.prog w) A (.call (.ref 650) ⟨[.ref x, .int kx tk0], []⟩) R s := by
  clear taken_0a
  have hn : (refs E).length ≤ 1000 := by have := hS.2.1; simp; omega
  have hlt : (pp : Int) = ((refs E).length : Int) := by omega
  obtain ⟨_, _, _, _, _, _, _, _, _, _, _, _, rfl⟩ := hno
  revert X XB; k_fill; intro X XB
  obtain ⟨hd', dp', fr', gd', un'⟩ := A
  dsimp only at hA hroom hun hh
  subst hA hh
  w_on
  (refine' enter_one ?k1 ?k2 ?k3 ?k4 ?k5 ?kA ?kF ?kK ?k6 ?k7 ?k8 ?k9 ?kB ?_ ?c2 ?c3 ?c4 ?c5; (case kA => exact rfl); (case kF => assumption); (case kK => assumption); (case k2 => exact F); (case k1 => exact B); (case k3 => exact X); (case k4 => exact N); (case k5 => exact T); (case k6 => k_is); (case k7 => k_is); (case k8 => k_room); (case k9 => exact BindsTo.of_eq rfl); (case c5 => decide); (case kB => exact locs rfl); (case c2 => exact rfl); (case c3 => exact rfl); (case c4 => exact rfl); k_whole; intro g' L' h' FG' F' N' B' X' T' D'; (try dsimp only); (try k_lift B'); (try k_fold))
  k_steps
  all_goals try (exfalso; omega)
  rename News _ _ _ _ => NN
  refine' k _ _ ?F (News.sub NN ?N)
  case F => with_reducible assumption
  case N => intro p hp; k_ownIn
end
end Mine
namespace Mine
section
variable {w : World} {A A₀ : Around} {base h₀ : Heap} {env : Env} {L : Addr} {m mg mb : Str → Option Value} {p : Program} {loose : List Str} {mean : ExcName → Option Value} {s : Shared} {R : Result → Shared → Prop}
  {news : List (Addr × Obj)} {el x dx conf cd ser : Addr} {no : Obj} {nt mx order : Int} {t1 t2 t3 t4 tk0 : Tok} {n : Nat} {page : Value} {c : Nat} {E : List Ent} {e : Ent} {pp : Nat} {kx : Int}
theorem taken_0b (B : Below A₀ base [] h₀) (F : Fr h₀ L s.heap m) (X : (hd.heap_39 w.params).In h₀) (T : Top p loose mean mg mb h₀) (N : News h₀ L s.heap news) (XB : (hd.heap_39 w.params).In base) (TB : Top p loose mean mg mb base)
    (hA : A.frames = some [env]) (hh : A.handled = none) (hf : env.frame = some L) (hke : env.scope.kind = .function) (hroom : A.depth < 600) (hun : A.units < 6000)
    (hx : (x, instObj 575 dx) ∈ news) (hdx : (dx, no) ∈ news) (hno : IsNode w.params nt mx conf el page no) (hel : (el, listOf (refs E).toArray c) ∈ news) (hE : Holds w.params news E)
    (hcf : (conf, confObj cd order t1 t2 t3 t4 ser n) ∈ news) (hcd : (cd, dictOf [] 0) ∈ news) (hS : Sought E kx pp) (hk0 : 0 ≤ kx) (hk1 : kx ≤ 1024) (he : E[pp]? = some e) (hgt : kx < e.k)
    (k : ∀ h' tk, Fr h₀ L h' m → News h₀ L h' news → R (.ok (.ret (.bool false))) { s with heap := h', toks := tk }) :
    codeAny (model PySem.Challenge.rw_vq0003_01.row.prog w) A (.call (.ref 650) ⟨[.ref x, .int kx tk0], []⟩) R s := by
  clear taken_0b
  have hn : (refs E).length ≤ 1000 := by have := hS.2.1; simp; omega
  have hlt : (pp : Int) < ((refs E).length : Int) := by have := (List.getElem?_eq_some_iff.mp he).1; simp; omega
  have hie : (refs E)[pp]? = some (.ref e.a) := by simp [refs, he]
  obtain ⟨q1, q2, q3⟩ := hE e (List.mem_of_getElem? he)
  obtain ⟨_, _, _, _, _, _, _, _, _, _, q4⟩ := q3
  rw [q4] at q2
  obtain ⟨_, _, _, _, _, _, _, _, _, _, _, _, rfl⟩ := hno
  revert X XB; k_fill; intro X XB
  obtain ⟨hd', dp', fr', gd', un'⟩ := A
  dsimp only at hA hroom hun hh
  subst hA hh
  w_on
  (refine' enter_one ?k1 ?k2 ?k3 ?k4 ?k5 ?kA ?kF ?kK ?k6 ?k7 ?k8 ?k9 ?kB ?_ ?c2 ?c3 ?c4 ?c5; (case kA => exact rfl); (case kF => assumption); (case kK => assumption); (case k2 => exact F); (case k1 => exact B); (case k3 => exact X); (case k4 => exact N); (case k5 => exact T); (case k6 => k_is); (case k7 => k_is); (case k8 => k_room); (case k9 => exact BindsTo.of_eq rfl); (case c5 => decide); (case kB => exact locs rfl); (case c2 => exact rfl); (case c3 => exact rfl); (case c4 => exact rfl); k_whole; intro g' L' h' FG' F' N' B' X' T' D'; (try dsimp only); (try k_lift B'); (try k_fold))
  k_steps
  all_goals try (exfalso; omega)
  rename News _ _ _ _ => NN
  refine' k _ _ ?F (News.sub NN ?N)
  case F => with_reducible assumption
  case N => intro p hp; k_ownIn
end
end Mine
namespace Mine
/-- what the law's walk asks of a node's class for its methods -/
structure MethAttrs (K : Frag) (C : Addr) : Prop where
  g_ins : plainGet K C (Str.ofString "insert_entry") = true
  f_ins : findIn K (.ref C) (Str.ofString "insert_entry") = some (some (.ref 521))
  g_split : plainGet K C (Str.ofString "split_entries") = true
  f_split : findIn K (.ref C) (Str.ofString "split_entries") = some (some (.ref 456))
theorem meth_root (P : Params) : MethAttrs (hd.heap_39 P) 553 := by
  suffices h : PySem.Challenge.rw_vq0003_01.row.prog = PySem.Challenge.rw_vq0003_01.row.prog → MethAttrs (hd.heap_39 P) 553 from h rfl
  k_fill
  intro _
  constructor
  all_goals first | k_is | ks_is
theorem meth_inner (P : Params) : MethAttrs (hd.heap_39 P) 575 := by
  suffices h : PySem.Challenge.rw_vq0003_01.row.prog = PySem.Challenge.rw_vq0003_01.row.prog → MethAttrs (hd.heap_39 P) 575 from h rfl
  k_fill
  intro _
  constructor
  all_goals first | k_is | ks_is
end Mine
namespace Mine
section
variable {prog : Program} {w : World} {A : Around} {E : Value → Shared → Prop} {s : Shared} {env : Env} {h₀ : Heap} {x : Str} {body : List Stmt} {Q : Flow → Shared → Prop}
/-- the end of a turn: what the turns keep holds of the ledger nx -/
def TurnS (h₀ : Heap) (L : Addr) (x : Str) (stored : List Str) (m : Str → Option Value) (own : List (Addr × Obj)) (I : Addr) (S : List (Addr × Obj) → Prop) (s₁ : Shared) (Q : Flow → Shared → Prop) (f : Flow) (s₂ : Shared) : Prop :=
  match f with
  | .ret v => Q (.ret v) s₂
  | .brk => Q .next s₂
  | _ => ∃ h' tk m' nx, s₂ = { s₁ with heap := h', toks := tk } ∧ Fr h₀ L h' m' ∧ News h₀ L h' (nx ++ own) ∧ S nx ∧ (∀ p ∈ nx, p.1 ≠ I) ∧ ∀ y, y ≠ x → stored.contains y = false → m' y = m y
theorem iter_rangeJ {r : Addr} {a₀ b₀ : Int} {t₀ u₀ v₀ : Tok} {n : Nat} {m₀ : Str → Option Value} {news : List (Addr × Obj)} (stored : List Str) (S : Nat → List (Addr × Obj) → Prop)
    (hh : A.handled = none) (hr : IsRange s.heap r a₀ b₀ 1 t₀ u₀ v₀) (hsmall : Builtin.Range.small a₀ b₀ 1 = true) (hn : Builtin.Range.rangeSize a₀ b₀ 1 = (n : Int)) (F : Fr h₀ env.locals s.heap m₀) (N : News h₀ env.locals s.heap news) (hS : S 0 news)
    (turn : ∀ i t (u : Str → Option Value) nx h tk own I, i < n → S i nx → (∀ p ∈ nx, p.1 ≠ I) → (∀ p ∈ own, p.1 = I) → (∃ o, (I, o) ∈ own) → Fr h₀ env.locals h (fun y => if y = x then some (.int (a₀ + (i : Int)) t) else if stored.contains y then u y else m₀ y) → News h₀ env.locals h (nx ++ own) →
      wpAny (model prog w) A (execs body env) (TurnS h₀ env.locals x stored m₀ own I (S (i + 1)) { s with heap := h, toks := tk } Q) E { s with heap := h, toks := tk })
    (done : ∀ (u : Str → Option Value) nx h tk, S n nx → Fr h₀ env.locals h (fun y => if y = x then u y else if stored.contains y then u y else m₀ y) → News h₀ env.locals h nx → Q .next { s with heap := h, toks := tk }) :
    wpAny (model prog w) A (pyIter (.ref r)) (fun it s₂ => LoopAtV prog w A h₀ env x body Q E it s₂) E s := by
  refine wpAny_pyIter_range hr hsmall ?_
  have W : Walks prog w A s.heap.objs.size [s.heap.objs.size] [s.heap.objs.size] n (fun i v => i < n ∧ ∃ t, v = .int (a₀ + i * 1) t)
      (fun i h => IsRangeIter h s.heap.objs.size (a₀ + (i : Nat) * 1) ((n : Int) - (i : Nat)) 1) := (Walks.range hh _ a₀ 1 n).bound
  let J : Nat → (Str → Option Value) → List (Addr × Obj) → Prop := fun i m₁ news₁ => S i news₁ ∧ ∀ y, y ≠ x → stored.contains y = false → m₁ y = m₀ y
  refine ⟨_, _, _, n, _, _, m₀, news, J, rfl, W, ?_, ?_, ?_, (by show IsRangeIter _ _ _ _ _; rw [hn]; simpa using Heap.get?_push_size _ rfl), (F.push _), (fun p hp => ⟨Heap.get?_push_of_some _ (N p hp).1, (N p hp).2⟩), ⟨hS, fun _ _ _ => rfl⟩, ?_, ?_⟩
  · intro hm
    exact absurd F.ns.lt ((List.mem_singleton.mp hm) ▸ Nat.lt_irrefl _)
  · intro b hb
    rw [List.mem_singleton.mp hb]
    exact next_is_new F
  · intro p hp hI
    exact absurd (Heap.lt_size (N p hp).1) ((List.mem_singleton.mp hI) ▸ Nat.lt_irrefl _)
  · rintro i v m₁ news₁ s₁ own ⟨hh', tk', rfl⟩ hin hP ⟨hS1, hm1⟩ hoff hown _ hfp hst F₁ N₁
    obtain ⟨hi, t, rfl⟩ := hP
    have e : (fun y => if y = x then some (Value.int (a₀ + (i : Int) * 1) t) else m₁ y) = fun y => if y = x then some (Value.int (a₀ + (i : Int)) t) else if stored.contains y then m₁ y else m₀ y := by
      funext y
      by_cases h1 : y = x
      · simp [h1]
      · simp only [if_neg h1]
        cases h2 : stored.contains y with
        | true => simp
        | false => simp only [Bool.false_eq_true, if_false]; exact hm1 y h1 h2
    rw [e] at F₁
    have off1 : ∀ p ∈ news₁, p.1 ≠ s.heap.objs.size := fun p hp q => hoff p hp (List.mem_singleton.mpr q)
    have own1 : ∀ p ∈ own, p.1 = s.heap.objs.size := fun p hp => List.mem_singleton.mp (hown p hp)
    refine wpAny_mono (turn i t m₁ news₁ hh' tk' own s.heap.objs.size hi hS1 off1 own1 ⟨_, hfp _ (List.mem_singleton.mpr rfl) (next_is_new F) _ hst⟩ F₁ (fun p hp => N₁ p ((List.mem_append.mp hp).elim (fun h => List.mem_append.mpr (.inr h)) fun h => List.mem_append.mpr (.inl h)))) (fun f s₂ p => ?_) fun _ _ e => e
    have fin : (∃ h' tk m' nx, s₂ = { ({ s with heap := hh', toks := tk' } : Shared) with heap := h', toks := tk } ∧ Fr h₀ env.locals h' m' ∧ News h₀ env.locals h' (nx ++ own) ∧ S (i + 1) nx ∧ (∀ p ∈ nx, p.1 ≠ s.heap.objs.size) ∧ ∀ y, y ≠ x → stored.contains y = false → m' y = m₀ y) →
        LoopStepU h₀ env.locals [s.heap.objs.size] own (J (i + 1)) { s with heap := hh', toks := tk' } .next s₂ := by
      rintro ⟨h', tk, m', nx, e, F', N', hs', hx', hm'⟩
      refine ⟨rfl, h', tk, m', nx, e, F', fun p hp => N' p ((List.mem_append.mp hp).elim (fun h => List.mem_append.mpr (.inr h)) fun h => List.mem_append.mpr (.inl h)), fun p hp hq => hx' p hp (List.mem_singleton.mp hq), hs', hm'⟩
    cases f with
    | ret v => exact .ret p
    | brk => exact .brk p
    | next => exact .next (fin p)
    | cont => exact .cont (fin p)
  · rintro h' tk m' news' F' N' _ ⟨hS1, hJ⟩
    refine done m' news' h' tk hS1 ?_ N'
    have e : (fun y => if y = x then m' y else if stored.contains y then m' y else m₀ y) = m' := by
      funext y
      by_cases h1 : y = x
      · simp [h1]
      · simp only [if_neg h1]
        cases h2 : stored.contains y with
        | true => simp
        | false => simp only [Bool.false_eq_true, if_false]; exact (hJ y h1 h2).symm
    rw [e]; exact F'
end
end Mine
namespace Mine
/-- a row of addresses that falls -/
def Desc : List Nat → Prop
  | a :: b :: r => b < a ∧ Desc (b :: r)
  | _ => True
theorem Desc.lt {a : Nat} : ∀ {r : List Nat}, Desc (a :: r) → ∀ z ∈ r, z < a
  | b :: r, h, z, hz => by
    rcases List.mem_cons.mp hz with rfl | hz
    · exact h.1
    · exact Nat.lt_trans (Desc.lt h.2 z hz) h.1
theorem Desc.tail {a : Nat} {r : List Nat} (h : Desc (a :: r)) : Desc r := by
  cases r with
  | nil => trivial
  | cons b r => exact h.2
theorem Desc.nodup : ∀ {l : List Nat}, Desc l → l.Nodup
  | [], _ => List.nodup_nil
  | a :: r, h => List.nodup_cons.mpr ⟨fun hz => Nat.lt_irrefl _ (h.lt a hz), h.tail.nodup⟩
/-- each number of the row stands at least g above the one ahead of it -/
def Gaps (g : Int) : List Int → Prop
  | a :: b :: r => a + g ≤ b ∧ Gaps g (b :: r)
  | _ => True
theorem Gaps.tail {g a : Int} {r : List Int} (h : Gaps g (a :: r)) : Gaps g r := by
  cases r with
  | nil => trivial
  | cons b r => exact h.2
theorem Gaps.mono {g g' : Int} (hg : g' ≤ g) : ∀ {l : List Int}, Gaps g l → Gaps g' l
  | [], _ => trivial
  | [_], _ => trivial
  | a :: b :: r, h => ⟨by have := h.1; omega, Gaps.mono hg (l := b :: r) h.2⟩
theorem Gaps.lt {g a : Int} (hg : 0 < g) : ∀ {r : List Int}, Gaps g (a :: r) → ∀ z ∈ r, a < z
  | b :: r, h, z, hz => by
    have h1 := h.1
    rcases List.mem_cons.mp hz with rfl | hz
    · omega
    · have := Gaps.lt hg h.2 z hz; omega
theorem Gaps.sorted {g : Int} (hg : 0 < g) : ∀ {l : List Int}, Gaps g l → l.Pairwise (· < ·)
  | [], _ => .nil
  | a :: r, h => .cons (fun z hz => h.lt hg z hz) (h.tail.sorted hg)
theorem Gaps.cut {g lo hi : Int} (hg : 0 ≤ g) : ∀ {X Y : List Int}, Gaps g (X ++ lo :: hi :: Y) → Gaps (g / 2) (X ++ lo :: ((lo + hi) / 2) :: hi :: Y)
  | [], Y, h => by
    obtain ⟨h1, h2⟩ := h
    refine ⟨by omega, by omega, h2.mono (by omega)⟩
  | [a], Y, h => by
    obtain ⟨h1, h2⟩ := h
    exact ⟨by omega, Gaps.cut hg (X := []) h2⟩
  | a :: b :: X, Y, h => by
    obtain ⟨h1, h2⟩ := h
    exact ⟨by omega, Gaps.cut hg (X := b :: X) h2⟩
/-- the plain rows that a node of i cuts answers to: keys ks, pages ps -/
structure Row (E : List Ent) (ks ps : List Int) (i : Nat) : Prop where
  len : E.length = i + 1
  keys : E.map Ent.k = ks
  b : E.map Ent.b = ps.dropLast
  f : E.map Ent.f = ps.tail
  plen : ps.length = i + 2
  gaps : Gaps (512 / 2 ^ i) (0 :: (ks ++ [1024]))
theorem Row.first {x dx : Addr} {o : Obj} : Row [⟨x, dx, o, 512, 1, 2⟩] [512] [1, 2] 0 := ⟨rfl, rfl, rfl, rfl, rfl, by simp [Gaps]⟩
theorem Row.klen {E : List Ent} {ks ps : List Int} {i : Nat} (h : Row E ks ps i) : ks.length = i + 1 := by rw [← h.keys, List.length_map, h.len]
theorem setHd_drop (pc new : Int) (P2 : List Int) : setHd ((pc :: P2).dropLast) new = (new :: P2).dropLast := by
  cases P2 with
  | nil => rfl
  | cons q r => rfl
theorem bounds_at (K1 K2 : List Int) : ∃ X Y lo hi, 0 :: (K1 ++ K2 ++ [1024]) = X ++ lo :: hi :: Y ∧ X.length = K1.length ∧ 0 :: K1 = X ++ [lo] ∧ K2 ++ [1024] = hi :: Y := by
  obtain ⟨X, lo, h1⟩ : ∃ X lo, 0 :: K1 = X ++ [lo] := ⟨(0 :: K1).dropLast, (0 :: K1).getLast (by simp), (List.dropLast_concat_getLast (by simp)).symm⟩
  obtain ⟨hi, Y, h2⟩ : ∃ hi Y, K2 ++ [1024] = hi :: Y := by
    cases K2 with
    | nil => exact ⟨_, _, rfl⟩
    | cons a r => exact ⟨_, _, rfl⟩
  refine ⟨X, Y, lo, hi, ?_, ?_, h1, h2⟩
  · rw [List.append_assoc, h2, ← List.cons_append, h1]; simp
  · have := congrArg List.length h1; simpa using this.symm
/-- a child is cut: the bounds' numbers about it, the key between them -/
theorem Row.mid {E : List Ent} {ks ps : List Int} {i ch : Nat} (h : Row E ks ps i) (hc : ch < i + 2) (hi6 : i < 6) :
    ∃ lo hi, (0 :: (ks ++ [1024]))[ch]? = some lo ∧ (0 :: (ks ++ [1024]))[ch + 1]? = some hi ∧ 0 ≤ lo ∧ lo < hi ∧ hi ≤ 1024 ∧ (∀ y ∈ E.take ch, y.k < (lo + hi) / 2) ∧ (∀ y ∈ E.drop ch, (lo + hi) / 2 < y.k) ∧
      Gaps (512 / 2 ^ (i + 1)) (0 :: (ks.insertIdx ch ((lo + hi) / 2) ++ [1024])) := by
  have hk := h.klen
  obtain ⟨X, Y, lo, hi, e1, e2, e3, e4⟩ := bounds_at (ks.take ch) (ks.drop ch)
  rw [List.take_append_drop] at e1
  have hX : X.length = ch := by rw [e2, List.length_take]; omega
  have hg : (16 : Int) ≤ 512 / 2 ^ i := by
    have : i = 0 ∨ i = 1 ∨ i = 2 ∨ i = 3 ∨ i = 4 ∨ i = 5 := by omega
    rcases this with rfl | rfl | rfl | rfl | rfl | rfl <;> decide
  have hg2 : (512 : Int) / 2 ^ (i + 1) = 512 / 2 ^ i / 2 := by
    have : i = 0 ∨ i = 1 ∨ i = 2 ∨ i = 3 ∨ i = 4 ∨ i = 5 := by omega
    rcases this with rfl | rfl | rfl | rfl | rfl | rfl <;> decide
  have G := h.gaps
  rw [e1] at G
  have S := G.sorted (by omega)
  have C := G.cut (by omega)
  have SC := C.sorted (by omega)
  rw [List.pairwise_append] at S SC
  have all0 : ∀ z ∈ 0 :: (ks ++ [1024]), 0 ≤ z ∧ z ≤ 1024 := by
    intro z hz
    have S0 := h.gaps.sorted (by omega)
    constructor
    · rcases List.mem_cons.mp hz with rfl | hz
      · exact Int.le_refl _
      · exact Int.le_of_lt ((List.pairwise_cons.mp S0).1 z hz)
    · rw [← List.cons_append, List.pairwise_append] at S0
      rw [← List.cons_append] at hz
      rcases List.mem_append.mp hz with hz | hz
      · exact Int.le_of_lt (S0.2.2 z hz 1024 (by simp))
      · simp at hz; omega
  have mlo : lo ∈ 0 :: (ks ++ [1024]) := by rw [e1]; simp
  have mhi : hi ∈ 0 :: (ks ++ [1024]) := by rw [e1]; simp
  refine ⟨lo, hi, ?_, ?_, (all0 lo mlo).1, ?_, (all0 hi mhi).2, ?_, ?_, ?_⟩
  · rw [e1, ← hX]; simp
  · rw [e1, ← hX]; simp [List.getElem?_append]
  · have := (List.pairwise_cons.mp S.2.1).1 hi (by simp); exact this
  · intro y hy
    have hm : y.k ∈ ks.take ch := by rw [← h.keys, ← List.map_take]; exact List.mem_map_of_mem hy
    have hm2 : y.k ∈ X ++ [lo] := by rw [← e3]; exact .tail _ hm
    rcases List.mem_append.mp hm2 with hm2 | hm2
    · exact SC.2.2 _ hm2 _ (by simp)
    · simp at hm2
      have := (List.pairwise_cons.mp SC.2.1).1 ((lo + hi) / 2) (by simp)
      omega
  · intro y hy
    have hm : y.k ∈ ks.drop ch := by rw [← h.keys, ← List.map_drop]; exact List.mem_map_of_mem hy
    have hm2 : y.k ∈ hi :: Y := by rw [← e4]; exact List.mem_append.mpr (.inl hm)
    exact (List.pairwise_cons.mp (List.pairwise_cons.mp SC.2.1).2).1 _ hm2
  · rw [hg2]
    have e5 : 0 :: (ks.insertIdx ch ((lo + hi) / 2) ++ [1024]) = X ++ lo :: ((lo + hi) / 2) :: hi :: Y := by
      have : ks.insertIdx ch ((lo + hi) / 2) = ks.take ch ++ ((lo + hi) / 2) :: ks.drop ch := by
        conv => lhs; rw [← List.take_append_drop ch ks]
        exact ins_mid _ _ _ _ (by rw [List.length_take]; omega)
      rw [this, List.append_assoc, ← List.cons_append, e3, List.cons_append, e4]
      simp
    rw [e5]
    exact C
theorem Row.cut {E E' : List Ent} {ks ps : List Int} {i ch : Nat} {lo hi new : Int} {e : Ent} (h : Row E ks ps i) (hc : ch < i + 2) (hek : e.k = (lo + hi) / 2) (heb : ps[ch]? = some e.b) (hef : e.f = new)
    (hG : Gaps (512 / 2 ^ (i + 1)) (0 :: (ks.insertIdx ch ((lo + hi) / 2) ++ [1024]))) (P : Put E' (E.take ch) (E.drop ch) e) : Row E' (ks.insertIdx ch ((lo + hi) / 2)) (ps.insertIdx (ch + 1) new) (i + 1) := by
  subst hef
  obtain ⟨P1, P2, rfl, hP1⟩ : ∃ P1 P2, ps = P1 ++ e.b :: P2 ∧ P1.length = ch := by
    have hlt := (List.getElem?_eq_some_iff.mp heb).1
    refine ⟨ps.take ch, ps.drop (ch + 1), ?_, by rw [List.length_take]; omega⟩
    have : ps[ch] = e.b := (List.getElem?_eq_some_iff.mp heb).2
    rw [← this, ← List.drop_eq_getElem_cons hlt, List.take_append_drop]
  have hk := h.klen
  have hb := h.b
  have hf := h.f
  have hpl := h.plen
  have hl := h.len
  rw [← List.take_append_drop ch E, List.map_append] at hb hf
  have l1 : (E.take ch).length = ch := by rw [List.length_take]; simp at hpl; omega
  have b1 : (E.take ch).map Ent.b = P1 ∧ (E.drop ch).map Ent.b = (e.b :: P2).dropLast := by
    rw [List.dropLast_append_of_ne_nil (by simp)] at hb
    exact List.append_inj hb (by rw [List.length_map, l1, hP1])
  have f1 : (E.drop ch).map Ent.f = P2 ∧ setLs ((E.take ch).map Ent.f) e.b = (P1 ++ [e.b]).tail := by
    cases P1 with
    | nil =>
      simp at hP1
      subst hP1
      simp at hf ⊢
      exact ⟨hf, rfl⟩
    | cons q P1 =>
      have e1 : (q :: P1 ++ e.b :: P2).tail = (P1 ++ [e.b]) ++ P2 := by simp
      rw [e1] at hf
      obtain ⟨z1, z2⟩ := List.append_inj hf (by rw [List.length_map, l1, ← hP1]; simp)
      exact ⟨z2, by rw [z1, setLs_snoc]; rfl⟩
  have ip : (P1 ++ e.b :: P2).insertIdx (ch + 1) e.f = P1 ++ e.b :: e.f :: P2 := by
    have : P1 ++ e.b :: P2 = (P1 ++ [e.b]) ++ P2 := by simp
    rw [this, ins_mid _ _ _ (ch + 1) (by simp [hP1])]; simp
  have ik : ks.insertIdx ch ((lo + hi) / 2) = ks.take ch ++ ((lo + hi) / 2) :: ks.drop ch := by
    conv => lhs; rw [← List.take_append_drop ch ks]
    exact ins_mid _ _ _ _ (by rw [List.length_take]; simp at hpl; omega)
  refine ⟨?_, ?_, ?_, ?_, ?_, hG⟩
  · have := congrArg List.length P.a
    simp at this
    simp at hpl
    omega
  · rw [P.k, ik, List.map_append, List.map_cons, hek, ← h.keys, List.map_take, List.map_drop]
  · rw [P.b, ip, b1.1, b1.2, setHd_drop, List.dropLast_append_of_ne_nil (by simp)]
    rfl
  · rw [P.f, ip, f1.1, f1.2]
    cases P1 <;> simp
  · rw [ip]; simp at hpl ⊢; omega
end Mine
namespace Mine
theorem adrs_ents : ∀ {E F : List Ent}, E.map (·.a) = F.map (·.a) → E.map (·.d) = F.map (·.d) → adrs (entObjs E) = adrs (entObjs F)
  | [], [], _, _ => rfl
  | [], _ :: _, h, _ => by simp at h
  | _ :: _, [], h, _ => by simp at h
  | e :: E, f :: F, h1, h2 => by
    simp only [List.map_cons, List.cons.injEq] at h1 h2
    have ih := adrs_ents h1.2 h2.2
    simp only [entObjs_cons, adrs, List.map_cons] at ih ⊢
    rw [ih, h1.1, h2.1]
/-- the addresses, when an entry newer than all is put in -/
theorem nodup_put {T D : List Ent} {e : Ent} {el : Nat} {core : List (Addr × Obj)} (hA : (el :: adrs core).Nodup) (hE : (adrs (entObjs (T ++ D))).Nodup) (hd : ∀ z ∈ adrs (entObjs (T ++ D)), z ∉ el :: adrs core)
    (l1 : ∀ z ∈ el :: adrs core, z < e.d) (l2 : ∀ z ∈ adrs (entObjs (T ++ D)), z < e.d) (l3 : @LT.lt Nat _ e.d e.a) : (el :: adrs (entObjs (T ++ e :: D) ++ core)).Nodup ∧ (adrs (entObjs (T ++ e :: D))).Nodup := by
  have h2 : (adrs (entObjs (T ++ D)) ++ (el :: adrs core)).Nodup := List.nodup_append.mpr ⟨hE, hA, fun a ha b hb q => hd a ha (q ▸ hb)⟩
  have h3 : ((e.a : Nat) :: (e.d : Nat) :: (adrs (entObjs (T ++ D)) ++ (el :: adrs core))).Nodup := by
    refine List.nodup_cons.mpr ⟨fun hm => ?_, List.nodup_cons.mpr ⟨fun hm => ?_, h2⟩⟩
    · rcases List.mem_cons.mp hm with q | hm
      · exact Nat.lt_irrefl _ (q ▸ l3)
      · rcases List.mem_append.mp hm with hm | hm
        · exact Nat.lt_irrefl _ (Nat.lt_trans (l2 _ hm) l3)
        · exact Nat.lt_irrefl _ (Nat.lt_trans (l1 _ hm) l3)
    · rcases List.mem_append.mp hm with hm | hm
      · exact Nat.lt_irrefl _ (l2 _ hm)
      · exact Nat.lt_irrefl _ (l1 _ hm)
  have h4 : (el :: adrs (entObjs (T ++ e :: D) ++ core)).Nodup := by
    refine (List.Perm.nodup_iff (List.perm_iff_count.mpr fun z => ?_)).mp h3
    simp only [entObjs_append, entObjs_cons, adrs, List.map_append, List.map_cons, List.count_append, List.count_cons]
    omega
  refine ⟨h4, ?_⟩
  have h5 := (List.nodup_cons.mp h4).2
  simp only [adrs, List.map_append] at h5 ⊢
  rw [List.nodup_append] at h5
  simpa using h5.1
section
variable {w : World} {A A₀ : Around} {base h₀ : Heap} {env : Env} {L : Addr} {m mg mb : Str → Option Value} {p : Program} {loose : List Str} {mean : ExcName → Option Value} {s : Shared} {Q E' : Value → Shared → Prop}
  {news own : List (Addr × Obj)} {kl pg el made dm conf cd ser serd st lst c1 c2 c3 x dx C I : Addr} {okl opg no oc ocd os osd ost ol o1 o2 o3 : Obj} {nt mx ky pc nw : Int} {page : Value} {c ch : Nat} {E : List Ent} {u0 u1 u2 u3 u4 ul a1 a2 a3 : Tok}
/-- insert_entry in a turn of the law's loop -/
theorem ins_turn (B : Below A₀ base [] h₀) (F : Fr h₀ L s.heap m) (X : (hd.heap_39 w.params).In h₀) (T : Top p loose mean mg mb h₀) (N : News h₀ L s.heap news)
    (hx : (x, instObj 328 dx) ∈ news) (hdx : (dx, refDict w.params u0 u1 u2 u3 u4 ul conf (.int ky a1) (.int pc a2) (.int nw a3)) ∈ news)
    (hcells : ∀ p ∈ (kl, okl) :: (pg, opg) :: (el, listOf (refs E).toArray c) :: (made, instObj C dm) :: (dm, no) :: (conf, oc) :: (cd, ocd) :: (ser, os) :: (serd, osd) :: (st, ost) :: (lst, ol) :: (c3, o3) :: (c2, o2) :: (c1, o1) :: (entObjs E ++ own), p ∈ news)
    (lt : ∀ p ∈ (kl, okl) :: (pg, opg) :: (el, listOf (refs E).toArray c) :: (made, instObj C dm) :: (dm, no) :: (conf, oc) :: (cd, ocd) :: (ser, os) :: (serd, osd) :: (st, ost) :: (lst, ol) :: (c3, o3) :: (c2, o2) :: (c1, o1) :: (entObjs E ++ own), @LT.lt Nat _ p.1 dx) (lt2 : @LT.lt Nat _ dx x)
    (hA : A.frames = some [env]) (hh : A.handled = none) (hf : env.frame = some L) (hke : env.scope.kind = .function) (hroom : A.depth < 700) (hun : A.units < 7000) (hC : NodeCls (hd.heap_39 w.params) C) (hno : IsNode w.params nt mx conf el page no)
    (hD : Desc [kl, pg, el, made, dm, conf, cd, ser, serd, st, lst, c3, c2, c1]) (hI : ∀ z ∈ ([kl, pg, el, made, dm, conf, cd, ser, serd, st, lst, c3, c2, c1] : List Nat), z ≠ I) (hIE : ∀ p ∈ entObjs E, p.1 ≠ I) (ho : ∀ p ∈ own, p.1 = I) (hIo : ∃ o, (I, o) ∈ own)
    (hnd : (adrs (entObjs E)).Nodup) (hab : ∀ p ∈ entObjs E, @LT.lt Nat _ el p.1 ∧ p.1 ≠ pg ∧ p.1 ≠ kl) (hG : Good w.params E)
    (hlt : ∀ y ∈ E.take ch, y.k < ky) (hgt : ∀ y ∈ E.drop ch, ky < y.k) (hlen : E.length ≤ 100)
    (k : ∀ h' tk c' F', Fr h₀ L h' m → News h₀ L h' ((kl, okl) :: (pg, opg) :: (el, listOf (refs F').toArray c') :: (made, instObj C dm) :: (dm, no) :: (conf, oc) :: (cd, ocd) :: (ser, os) :: (serd, osd) :: (st, ost) :: (lst, ol) :: (c3, o3) :: (c2, o2) :: (c1, o1) :: (entObjs F' ++ own)) →
      Good w.params F' → Put F' (E.take ch) (E.drop ch) ⟨x, dx, refDict w.params u0 u1 u2 u3 u4 ul conf (.int ky a1) (.int pc a2) (.int nw a3), ky, pc, nw⟩ → (adrs (entObjs F')).Nodup → (∀ p ∈ entObjs F', @LT.lt Nat _ el p.1 ∧ p.1 ≠ pg ∧ p.1 ≠ kl) → (∀ p ∈ entObjs F', p.1 ≠ I) →
      Q .none { s with heap := h', toks := tk }) :
    wpAny (model PySem.Challenge.rw_vq0003_01.row.prog w) A (call (.ref 521) [.ref made, .ref x]) Q E' s := by
  clear ins_turn
  generalize he : (⟨x, dx, refDict w.params u0 u1 u2 u3 u4 ul conf (.int ky a1) (.int pc a2) (.int nw a3), ky, pc, nw⟩ : Ent) = e at k
  have e1 : e.a = x := by rw [← he]
  have e2 : e.d = dx := by rw [← he]
  have e3 : e.o = refDict w.params u0 u1 u2 u3 u4 ul conf (.int ky a1) (.int pc a2) (.int nw a3) := by rw [← he]
  have e4 : e.k = ky := by rw [← he]
  have er : IsRef w.params e.k e.b e.f e.o := by rw [← he]; exact ⟨_, _, _, _, _, _, _, _, _, _, rfl⟩
  have hown : ∀ q ∈ own, q ∈ own.take 1 := by
    cases hq : own with
    | nil => intro q hq; cases hq
    | cons q0 r =>
      intro q hqm
      have m0 : q0 ∈ own := by rw [hq]; exact .head _
      have mq : q ∈ own := by rw [hq]; exact hqm
      have i0 := ho q0 m0
      have iq := ho q mq
      have g0 := (N q0 (hcells q0 (by simp [m0]))).1
      have gq := (N q (hcells q (by simp [mq]))).1
      rw [i0] at g0
      rw [iq, g0] at gq
      have : q = q0 := Prod.ext (iq.trans i0.symm) (Option.some.inj gq).symm
      rw [this]
      simp
  have hsubo : ∀ q ∈ own.take 1, q ∈ own := fun q hq => List.mem_of_mem_take hq
  generalize hcore : ((kl, okl) :: (pg, opg) :: (made, instObj C dm) :: (dm, no) :: (conf, oc) :: (cd, ocd) :: (ser, os) :: (serd, osd) :: (st, ost) :: (lst, ol) :: (c3, o3) :: (c2, o2) :: (c1, o1) :: own.take 1 : List (Addr × Obj)) = core
  have mc : ∀ q ∈ core, q ∈ (kl, okl) :: (pg, opg) :: (el, listOf (refs E).toArray c) :: (made, instObj C dm) :: (dm, no) :: (conf, oc) :: (cd, ocd) :: (ser, os) :: (serd, osd) :: (st, ost) :: (lst, ol) :: (c3, o3) :: (c2, o2) :: (c1, o1) :: (entObjs E ++ own) := by
    intro q hq
    rw [← hcore] at hq
    simp only [List.mem_cons, List.mem_append] at hq ⊢
    have := hsubo q
    grind
  have hDn := hD.nodup
  have hA1 : ((el : Nat) :: adrs core).Nodup := by
    rw [← hcore]
    have h0 : ([kl, pg, el, made, dm, conf, cd, ser, serd, st, lst, c3, c2, c1] ++ adrs (own.take 1)).Nodup := by
      refine List.nodup_append.mpr ⟨hDn, ?_, fun a ha b hb q => ?_⟩
      · cases own with
        | nil => exact List.nodup_nil
        | cons q r => simp [adrs]
      · obtain ⟨z, hz, rfl⟩ := List.mem_map.mp hb
        exact hI a ha (q.trans (ho z (hsubo z hz)))
    refine (List.Perm.nodup_iff (List.perm_iff_count.mpr fun z => ?_)).mp h0
    simp only [adrs, List.map_cons, List.count_append, List.count_cons, List.cons_append, List.nil_append]
    omega
  have hEeq : E.take ch ++ E.drop ch = E := List.take_append_drop ch E
  have hd' : ∀ z ∈ adrs (entObjs (E.take ch ++ E.drop ch)), z ∉ (el : Nat) :: adrs core := by
    rw [hEeq]
    intro z hz hm
    obtain ⟨q, hq, rfl⟩ := List.mem_map.mp hz
    obtain ⟨g1, g2, g3⟩ := hab q hq
    have g4 := hIE q hq
    have ch2 := hD
    simp only [Desc, and_true] at ch2
    rw [← hcore] at hm
    simp only [adrs, List.map_cons, List.mem_cons] at hm
    have own1 : q.1 ∉ List.map (fun p => p.1) (own.take 1) := fun hm => by
      obtain ⟨z, hz, e⟩ := List.mem_map.mp hm
      exact g4 (e.symm.trans (ho z (hsubo z hz)))
    rcases hm with hm | hm | hm | hm | hm | hm | hm | hm | hm | hm | hm | hm | hm | hm | hm
    · rw [hm] at g1; omega
    · exact g3 hm
    · exact g2 hm
    all_goals first | exact own1 hm | (rw [hm] at g1; omega)
  have l1 : ∀ z ∈ (el : Nat) :: adrs core, z < e.d := by
    rw [e2]
    intro z hz
    rcases List.mem_cons.mp hz with q0 | hz
    · rw [q0]; exact lt (el, listOf (refs E).toArray c) (by simp)
    · obtain ⟨q, hq, rfl⟩ := List.mem_map.mp hz
      exact lt q (mc q hq)
  have l2 : ∀ z ∈ adrs (entObjs (E.take ch ++ E.drop ch)), z < e.d := by
    rw [e2, hEeq]
    intro z hz
    obtain ⟨q, hq, rfl⟩ := List.mem_map.mp hz
    exact lt q (by simp [hq])
  obtain ⟨nd1, nd2⟩ := nodup_put (e := e) hA1 (by rw [hEeq]; exact hnd) hd' l1 l2 (by rw [e1, e2]; exact lt2)
  subst e1
  refine wpAny_call (insert_c (E1 := E.take ch) (E2 := E.drop ch) (e := e) (core := core) (c := c) (dx := dm) B F X T (News.sub N fun q hq => ?_) hA hh hf hke hroom hun hC nd1 ?_ (by rw [e4]; exact hlt) (by rw [e4]; exact hgt) (by rw [hEeq]; exact hlen) ?_ ?_ hno fun h' tk c' F' Fr' N' G' P' => ?_)
  · rw [hEeq] at hq
    simp only [List.mem_cons, List.mem_append] at hq
    rcases hq with rfl | hq | hq
    · exact hcells _ (by simp)
    · rw [entObjs_append, entObjs_cons] at hq
      simp only [List.mem_cons, List.mem_append] at hq
      have hEm : ∀ z, (z ∈ entObjs (E.take ch) ∨ z ∈ entObjs (E.drop ch)) → z ∈ entObjs E := fun z hz => by
        rw [← hEeq, entObjs_append]; exact List.mem_append.mpr hz
      rcases hq with hq | rfl | rfl | hq
      · exact hcells _ (by simp [hEm q (.inl hq)])
      · rw [e2]; exact hx
      · rw [e2, e3]; exact hdx
      · exact hcells _ (by simp [hEm q (.inr hq)])
    · exact hcells _ (mc _ hq)
  · intro y hy
    simp only [List.mem_append, List.mem_cons] at hy
    rcases hy with hy | rfl | hy
    · exact hG y (List.mem_of_mem_take hy)
    · exact er
    · exact hG y (List.mem_of_mem_drop hy)
  · rw [← hcore]; simp
  · rw [← hcore]; simp
  · have ea : adrs (entObjs F') = adrs (entObjs (E.take ch ++ e :: E.drop ch)) := adrs_ents P'.a P'.d
    have em : ∀ q ∈ entObjs F', q.1 = e.a ∨ q.1 = e.d ∨ q.1 ∈ adrs (entObjs E) := fun q hq => by
      have : q.1 ∈ adrs (entObjs F') := List.mem_map_of_mem hq
      rw [ea, entObjs_append, entObjs_cons] at this
      simp only [adrs, List.map_append, List.map_cons, List.mem_append, List.mem_cons] at this
      have hEm : ∀ z, (z ∈ List.map (fun p => p.1) (entObjs (E.take ch)) ∨ z ∈ List.map (fun p => p.1) (entObjs (E.drop ch))) → z ∈ adrs (entObjs E) := fun z hz => by
        rw [← hEeq, entObjs_append]; simp only [adrs, List.map_append]; exact List.mem_append.mpr hz
      rcases this with q1 | q1 | q1 | q1
      · exact .inr (.inr (hEm _ (.inl q1)))
      · exact .inl q1
      · exact .inr (.inl q1)
      · exact .inr (.inr (hEm _ (.inr q1)))
    have big : ∀ z ∈ ([kl, pg, el] : List Nat), z < dx := by
      intro z hz
      simp only [List.mem_cons, List.not_mem_nil, or_false] at hz
      rcases hz with rfl | rfl | rfl
      · exact lt (z, okl) (by simp)
      · exact lt (z, opg) (by simp)
      · exact lt (z, listOf (refs E).toArray c) (by simp)
    have bI : @LT.lt Nat _ I dx := by
      obtain ⟨o, ho'⟩ := hIo
      exact lt (I, o) (by simp [ho'])
    have lt3 : @LT.lt Nat _ dx e.a := lt2
    refine k h' tk c' F' Fr' (News.sub N' fun q hq => ?_) G' P' (by rw [ea]; exact nd2) (fun q hq => ?_) fun q hq => ?_
    · simp only [List.mem_cons, List.mem_append] at hq ⊢
      rw [← hcore]
      simp only [List.mem_cons]
      have := hown q
      grind
    · rcases em q hq with g | g | g
      · rw [g]
        have b1 := big el (by simp); have b2 := big pg (by simp); have b3 := big kl (by simp)
        exact ⟨Nat.lt_trans b1 lt3, Nat.ne_of_gt (Nat.lt_trans b2 lt3), Nat.ne_of_gt (Nat.lt_trans b3 lt3)⟩
      · rw [g, e2]
        exact ⟨big el (by simp), Nat.ne_of_gt (big pg (by simp)), Nat.ne_of_gt (big kl (by simp))⟩
      · obtain ⟨z, hz, e⟩ := List.mem_map.mp g
        rw [← e]
        exact hab z hz
    · rcases em q hq with g | g | g
      · rw [g]; exact Nat.ne_of_gt (Nat.lt_trans bI lt3)
      · rw [g, e2]; exact Nat.ne_of_gt bI
      · obtain ⟨z, hz, e⟩ := List.mem_map.mp g
        rw [← e]
        exact hIE z hz
end
end Mine
namespace Mine
theorem ints_dat {news : List (Addr × Obj)} : ∀ {vs : List Value} {ns : List Int}, IntsAre vs ns → DatAll news vs (ns.map Dat.int)
  | _, _, .nil => .nil
  | _, _, .cons _ _ r => .cons (.int _ _) (ints_dat r)
theorem ints_ok (n : Nat) (ns : List Int) : kqdOk (n + 1) (.list (ns.map Dat.int)) = true := by
  simp only [kqdOk, List.all_map, List.all_eq_true]
  intro z _
  cases n <;> rfl
section
variable {prog : Program} {w : World} {A : Around} {E : Value → Shared → Prop} {s : Shared} {h₀ : Heap} {L : Addr} {news : List (Addr × Obj)} {a a1 a2 a3 b b1 b2 b3 : Addr} {n n1 n2 n3 n' n1' n2' n3' : Nat} {x1 x2 x3 y1 y2 y3 : List Value} {k1 k2 k3 : List Int} {Q : Value → Shared → Prop}
theorem ne_rows (N : News h₀ L s.heap news) (m0 : (a, listOf #[.ref a1, .ref a2, .ref a3] n) ∈ news) (m1 : (a1, listOf x1.toArray n1) ∈ news) (m2 : (a2, listOf x2.toArray n2) ∈ news) (m3 : (a3, listOf x3.toArray n3) ∈ news)
    (p0 : (b, listOf #[.ref b1, .ref b2, .ref b3] n') ∈ news) (p1 : (b1, listOf y1.toArray n1') ∈ news) (p2 : (b2, listOf y2.toArray n2') ∈ news) (p3 : (b3, listOf y3.toArray n3') ∈ news)
    (i1 : IntsAre x1 k1) (i2 : IntsAre x2 k2) (i3 : IntsAre x3 k3) (j1 : IntsAre y1 k1) (j2 : IntsAre y2 k2) (j3 : IntsAre y3 k3) (hu : A.units + 64 < cLine) (h : Q (.bool false) s) :
    wpAny (model prog w) A (compareOp .NotEq (.ref a) (.ref b)) Q E s := by
  refine kqd_ne (xs := [.ref a1, .ref a2, .ref a3]) (ys := [.ref b1, .ref b2, .ref b3]) (ds := [.list (k1.map Dat.int), .list (k2.map Dat.int), .list (k3.map Dat.int)]) (es := [.list (k1.map Dat.int), .list (k2.map Dat.int), .list (k3.map Dat.int)]) (n₁ := news) (n₂ := news)
    N m0 rfl rfl ?_ (fun _ q => q) p0 rfl rfl ?_ (fun _ q => q) ?_ ?_ hu ?_
  · exact .cons (.list m1 (by simpa using ints_dat i1)) (.cons (.list m2 (by simpa using ints_dat i2)) (.cons (.list m3 (by simpa using ints_dat i3)) .nil))
  · exact .cons (.list p1 (by simpa using ints_dat j1)) (.cons (.list p2 (by simpa using ints_dat j2)) (.cons (.list p3 (by simpa using ints_dat j3)) .nil))
  · intro d hd
    simp only [List.mem_cons, List.not_mem_nil, or_false] at hd
    rcases hd with rfl | rfl | rfl <;> exact ints_ok _ _
  · intro d hd
    simp only [List.mem_cons, List.not_mem_nil, or_false] at hd
    rcases hd with rfl | rfl | rfl <;> exact ints_ok _ _
  · simpa using h
theorem eq_rows (N : News h₀ L s.heap news) (m0 : (a, listOf #[.ref a1, .ref a2, .ref a3] n) ∈ news) (m1 : (a1, listOf x1.toArray n1) ∈ news) (m2 : (a2, listOf x2.toArray n2) ∈ news) (m3 : (a3, listOf x3.toArray n3) ∈ news)
    (p0 : (b, listOf #[.ref b1, .ref b2, .ref b3] n') ∈ news) (p1 : (b1, listOf y1.toArray n1') ∈ news) (p2 : (b2, listOf y2.toArray n2') ∈ news) (p3 : (b3, listOf y3.toArray n3') ∈ news)
    (i1 : IntsAre x1 k1) (i2 : IntsAre x2 k2) (i3 : IntsAre x3 k3) (j1 : IntsAre y1 k1) (j2 : IntsAre y2 k2) (j3 : IntsAre y3 k3) (hu : A.units + 64 < cLine) (h : Q (.bool true) s) :
    wpAny (model prog w) A (compareOp .Eq (.ref a) (.ref b)) Q E s := by
  refine kqd_eq (xs := [.ref a1, .ref a2, .ref a3]) (ys := [.ref b1, .ref b2, .ref b3]) (ds := [.list (k1.map Dat.int), .list (k2.map Dat.int), .list (k3.map Dat.int)]) (es := [.list (k1.map Dat.int), .list (k2.map Dat.int), .list (k3.map Dat.int)]) (n₁ := news) (n₂ := news)
    N m0 rfl rfl ?_ (fun _ q => q) p0 rfl rfl ?_ (fun _ q => q) ?_ ?_ hu ?_
  · exact .cons (.list m1 (by simpa using ints_dat i1)) (.cons (.list m2 (by simpa using ints_dat i2)) (.cons (.list m3 (by simpa using ints_dat i3)) .nil))
  · exact .cons (.list p1 (by simpa using ints_dat j1)) (.cons (.list p2 (by simpa using ints_dat j2)) (.cons (.list p3 (by simpa using ints_dat j3)) .nil))
  · intro d hd
    simp only [List.mem_cons, List.not_mem_nil, or_false] at hd
    rcases hd with rfl | rfl | rfl <;> exact ints_ok _ _
  · intro d hd
    simp only [List.mem_cons, List.not_mem_nil, or_false] at hd
    rcases hd with rfl | rfl | rfl <;> exact ints_ok _ _
  · simpa using h
/-- two lists of the same numbers -/
theorem ne_same (N : News h₀ L s.heap news) (m0 : (a, listOf x1.toArray n) ∈ news) (p0 : (b, listOf y1.toArray n') ∈ news) (i1 : IntsAre x1 k1) (j1 : IntsAre y1 k1) (hu : A.units + 64 < cLine) (h : Q (.bool false) s) :
    wpAny (model prog w) A (compareOp .NotEq (.ref a) (.ref b)) Q E s :=
  ke_ne_ints ⟨_, (N _ m0).1, rfl, _, rfl⟩ ⟨_, (N _ p0).1, rfl, _, rfl⟩ i1 j1 hu (by simpa using h)
/-- a number and a truth value, the same twice -/
theorem ne_ib (N : News h₀ L s.heap news) {i i' : Int} {t t' : Tok} {v v' : Bool} (m0 : (a, listOf #[.int i t, .bool v] n) ∈ news) (p0 : (b, listOf #[.int i' t', .bool v'] n') ∈ news) (e1 : i = i') (e2 : v = v') (hu : A.units + 64 < cLine) (h : Q (.bool false) s) :
    wpAny (model prog w) A (compareOp .NotEq (.ref a) (.ref b)) Q E s := by
  subst e1 e2
  refine ne_dataH (reads_list_at (N.get m0) rfl rfl (.cons (.int _ _) (.cons (.bool _) .nil))) (reads_list_at (N.get p0) rfl rfl (.cons (.int _ _) (.cons (.bool _) .nil))) (by cases v <;> rfl) (by cases v <;> rfl) hu ?_
  have e : PyData.eqv (.list [.int i, .bool v]) (.list [.int i, .bool v]) = true := by simp [PyData.eqv, PyData.eqvAll]
  rw [e]
  exact h
end
theorem pick_but (vs : List Value) (h : 0 < vs.length) : (slicePick vs.toArray none (some (-1)) none).toList = vs.take (vs.length - 1) := by
  have e : sliceBounds none (some (-1)) none vs.toArray.size = (((0 : Nat) : Int), ((vs.length - 1 : Nat) : Int), 1) := by
    simp only [sliceBounds, Option.getD_none, show (1 : Int) > 0 by decide, if_true, List.size_toArray]
    congr 1
    congr 1
    simp
    omega
  rw [kmk_pick_nat _ e]
  show (vs.drop 0).take (vs.length - 1 - 0) = _
  rw [List.drop_zero, Nat.sub_zero]
theorem sl_but {prog : Program} {w : World} {A : Around} {E : Value → Shared → Prop} {s : Shared} {h₀ : Heap} {L : Addr} {m : Str → Option Value} {news : List (Addr × Obj)} {value slice : PySem.Expr} {l : Addr} {vs : List Value} {c : Nat} {t : Tok} {Q : Value → Shared → Prop}
    (F : Fr h₀ L s.heap m) (N : News h₀ L s.heap news) (hm : (l, listOf vs.toArray c) ∈ news) (hn : vs.length ≤ 1000) (h0 : 0 < vs.length)
    (h : ∀ D h', Fr h₀ L h' m → News h₀ L h' ((D, listOf (vs.take (vs.length - 1)).toArray 0) :: news) → (∀ p ∈ news, p.1 < D) → Q (.ref D) { s with heap := h' })
    (hs : subscripted slice false (.ref l) (.ref s.heap.objs.size) = operate [.ref s.heap.objs.size, .ref l] (getItem (.ref l) (.ref s.heap.objs.size))) (ht : ∀ r, letTemporaryGo value (.ref l) r = pure ()) :
    wpAny (model prog w) A (subscriptTail value slice (.ref l) (.ref s.heap.objs.size)) Q E { s with heap := s.heap.push { cls := .type "slice", data := .fields #[.none, .int (-1) t, .none] } } :=
  kmk_slice_lit F N ⟨_, (N _ hm).1, rfl, _, rfl⟩ IsPart.none (IsPart.int _ _) (pick_but vs h0) h hs ht (by rw [sizeLine_eq]; simp; omega)
end Mine
namespace Mine
section
variable {w : World} {A A₀ : Around} {base h₀ : Heap} {outer : List Env} {env : Env} {L : Addr} {m mg mb : Str → Option Value} {p : Program} {loose : List Str} {mean : ExcName → Option Value} {s : Shared} {Q E' : Value → Shared → Prop}
  {R : List (Addr × Obj)} {kl pg el made dm conf C : Addr} {okl opg no : Obj} {nt mx : Int} {page : Value} {c : Nat} {vs : List Value}
theorem split_L (B : Below A₀ base outer h₀) (F : Fr h₀ L s.heap m) (X : (hd.heap_39 w.params).In h₀) (T : Top p loose mean mg mb h₀)
    (N : News h₀ L s.heap ((kl, okl) :: (pg, opg) :: (el, listOf vs.toArray c) :: (made, instObj C dm) :: (dm, no) :: R))
    (hA : A.frames = some (env :: outer)) (hf : env.frame = some L) (hke : env.scope.kind = .function) (hroom : A.depth < 800) (hC : NodeCls (hd.heap_39 w.params) C) (hC2 : NodeAttrs (hd.heap_39 w.params) C)
    (n1 : kl ≠ dm) (n2 : pg ≠ dm) (n3 : el ≠ dm) (n4 : made ≠ dm) (hR : ∀ p ∈ R, p.1 ≠ dm) (hno : IsNode w.params nt mx conf el page no) (hn : vs.length ≤ 1000)
    (k : ∀ h' tk up el2 no', Fr h₀ L h' m → News h₀ L h' ((el2, listOf (vs.take (vs.length / 2)).toArray 0) :: (up, listOf (vs.drop (vs.length / 2)).toArray 0) :: (kl, okl) :: (pg, opg) :: (el, listOf vs.toArray c) :: (made, instObj C dm) :: (dm, no') :: R) → IsNode w.params nt mx conf el2 page no' →
      (∀ p ∈ (kl, okl) :: (pg, opg) :: (el, listOf vs.toArray c) :: (made, instObj C dm) :: (dm, no) :: R, p.1 < up) → up < el2 → Q (.ref up) { s with heap := h', toks := tk }) :
    wpAny (model PySem.Challenge.rw_vq0003_01.row.prog w) A (call (.ref 456) [.ref made]) Q E' s := by
  clear split_L
  refine wpAny_call (split_c (rest := (kl, okl) :: (pg, opg) :: (el, listOf vs.toArray c) :: (made, instObj C dm) :: R) (no := no) (c := c) (x := made) (dx := dm) (el := el) B F X T (News.sub N fun q hq => ?_) hA hf hke hroom hC hC2 ?_ (by simp) (by simp) hno hn fun h' tk up el2 no' F' N' hno' l1 l2 => ?_)
  · simp only [List.mem_cons] at hq ⊢
    grind
  · intro q hq
    simp only [List.mem_cons] at hq
    rcases hq with rfl | rfl | rfl | rfl | hq
    · exact n1
    · exact n2
    · exact n3
    · exact n4
    · exact hR q hq
  · refine k h' tk up el2 no' F' (News.sub N' fun q hq => ?_) hno' (fun q hq => l1 q ?_) l2
    · simp only [List.mem_cons] at hq ⊢
      grind
    · simp only [List.mem_cons] at hq ⊢
      grind
end
end Mine
namespace Mine
section
variable {prog : Program} {w : World} {A : Around} {E : Value → Shared → Prop} {s : Shared} {env : Env} {h₀ : Heap} {x : Str} {body : List Stmt} {Q : Flow → Shared → Prop}
/-- a loop over a list of the ledger -/
theorem iter_listJ {l : Addr} {vs : List Value} {kk : Nat} {m₀ : Str → Option Value} {news : List (Addr × Obj)} (stored : List Str) (S : Nat → List (Addr × Obj) → Prop)
    (hh : A.handled = none) (F : Fr h₀ env.locals s.heap m₀) (N : News h₀ env.locals s.heap ((l, listOf vs.toArray kk) :: news)) (hS : S 0 news)
    (turn : ∀ i v (u : Str → Option Value) nx h tk own I, vs[i]? = some v → S i nx → (∀ p ∈ nx, p.1 ≠ I) → (∀ p ∈ own, p.1 = I ∨ p.1 = l) → Fr h₀ env.locals h (fun y => if y = x then some v else if stored.contains y then u y else m₀ y) → News h₀ env.locals h (nx ++ own) →
      wpAny (model prog w) A (execs body env) (TurnS h₀ env.locals x stored m₀ own I (S (i + 1)) { s with heap := h, toks := tk } Q) E { s with heap := h, toks := tk })
    (done : ∀ (u : Str → Option Value) nx h tk, S vs.length nx → Fr h₀ env.locals h (fun y => if y = x then u y else if stored.contains y then u y else m₀ y) → News h₀ env.locals h nx → Q .next { s with heap := h, toks := tk }) :
    wpAny (model prog w) A (pyIter (.ref l)) (fun it s₂ => LoopAtV prog w A h₀ env x body Q E it s₂) E s := by
  have Nl := N _ (.head _)
  have hls : s.heap.IsList l vs.toArray := ⟨_, Nl.1, rfl, _, rfl⟩
  have hlt : l < s.heap.objs.size := Heap.lt_size Nl.1
  have hne : l ≠ s.heap.objs.size := Nat.ne_of_lt hlt
  refine wpAny_pyIter_list hls ?_
  have W := Walks.list (prog := prog) (w := w) hh s.heap.objs.size l hne vs.toArray
  have hlen : vs.toArray.size = vs.length := by simp
  rw [hlen] at W
  let J : Nat → (Str → Option Value) → List (Addr × Obj) → Prop := fun i m₁ news₁ => S i news₁ ∧ ∀ y, y ≠ x → stored.contains y = false → m₁ y = m₀ y
  refine ⟨_, _, _, vs.length, _, _, m₀, news, J, rfl, W, ?_, ?_, ?_, ⟨⟨_, Heap.get?_push_size _ rfl, rfl, rfl⟩, hls.at fun o e => Heap.get?_push_of_some _ e⟩, F.push _, (fun p hp => ⟨Heap.get?_push_of_some _ (N p (.tail _ hp)).1, (N p (.tail _ hp)).2⟩), ⟨hS, fun _ _ _ => rfl⟩, ?_, ?_⟩
  · intro hm
    rcases List.mem_cons.mp hm with e | hm
    · exact absurd F.ns.lt (e ▸ Nat.lt_irrefl _)
    · exact Nl.2.1 (List.mem_singleton.mp hm).symm
  · intro b hb
    rw [List.mem_singleton.mp hb]
    exact next_is_new F
  · intro p hp hI
    exact absurd (Heap.lt_size (N p (.tail _ hp)).1) ((List.mem_singleton.mp hI) ▸ Nat.lt_irrefl _)
  · rintro i v m₁ news₁ s₁ own ⟨hh', tk', rfl⟩ hin hP ⟨hS1, hm1⟩ hoff hown _ hfp hst F₁ N₁
    have e : (fun y => if y = x then some v else m₁ y) = fun y => if y = x then some v else if stored.contains y then m₁ y else m₀ y := by
      funext y
      by_cases h1 : y = x
      · simp [h1]
      · simp only [if_neg h1]
        cases h2 : stored.contains y with
        | true => simp
        | false => simp only [Bool.false_eq_true, if_false]; exact hm1 y h1 h2
    rw [e] at F₁
    have off1 : ∀ p ∈ news₁, p.1 ≠ s.heap.objs.size := fun p hp q => hoff p hp (List.mem_singleton.mpr q)
    refine wpAny_mono (turn i v m₁ news₁ hh' tk' own s.heap.objs.size (by simpa using hP) hS1 off1 (fun p hp => (List.mem_cons.mp (hown p hp)).imp id fun z => List.mem_singleton.mp z) F₁ (fun p hp => N₁ p ((List.mem_append.mp hp).elim (fun h => List.mem_append.mpr (.inr h)) fun h => List.mem_append.mpr (.inl h)))) (fun f s₂ p => ?_) fun _ _ e => e
    have fin : (∃ h' tk m' nx, s₂ = { ({ s with heap := hh', toks := tk' } : Shared) with heap := h', toks := tk } ∧ Fr h₀ env.locals h' m' ∧ News h₀ env.locals h' (nx ++ own) ∧ S (i + 1) nx ∧ (∀ p ∈ nx, p.1 ≠ s.heap.objs.size) ∧ ∀ y, y ≠ x → stored.contains y = false → m' y = m₀ y) →
        LoopStepU h₀ env.locals [s.heap.objs.size] own (J (i + 1)) { s with heap := hh', toks := tk' } .next s₂ := by
      rintro ⟨h', tk, m', nx, e, F', N', hs', hx', hm'⟩
      refine ⟨rfl, h', tk, m', nx, e, F', fun p hp => N' p ((List.mem_append.mp hp).elim (fun h => List.mem_append.mpr (.inr h)) fun h => List.mem_append.mpr (.inl h)), fun p hp hq => hx' p hp (List.mem_singleton.mp hq), hs', hm'⟩
    cases f with
    | ret v => exact .ret p
    | brk => exact .brk p
    | next => exact .next (fin p)
    | cont => exact .cont (fin p)
  · rintro h' tk m' news' F' N' _ ⟨hS1, hJ⟩
    refine done m' news' h' tk hS1 ?_ N'
    have e : (fun y => if y = x then m' y else if stored.contains y then m' y else m₀ y) = m' := by
      funext y
      by_cases h1 : y = x
      · simp [h1]
      · simp only [if_neg h1]
        cases h2 : stored.contains y with
        | true => simp
        | false => simp only [Bool.false_eq_true, if_false]; exact (hJ y h1 h2).symm
    rw [e]; exact F'
/-- what the second loop keeps: so many of the row stand in the new list -/
def LoopS2 (fe : Addr) (rest : List (Addr × Obj)) (vs : List Value) (i : Nat) (nx : List (Addr × Obj)) : Prop := ∃ c', nx = (fe, listOf (vs.take i).toArray c') :: rest
theorem loop2_rule {fe fx fdx el2 up : Addr} {ofx ofdx oel2 : Obj} {vs : List Value} {c n0 : Nat} {R : List (Addr × Obj)} {m₀ : Str → Option Value} (hh : A.handled = none) (F : Fr h₀ env.locals s.heap m₀)
    (N : News h₀ env.locals s.heap ((fe, listOf #[] c) :: (fx, ofx) :: (fdx, ofdx) :: (el2, oel2) :: (up, listOf vs.toArray n0) :: R)) (nf : ∀ p ∈ (fx, ofx) :: (fdx, ofdx) :: (el2, oel2) :: (up, listOf vs.toArray n0) :: R, p.1 ≠ fe)
    (turn : ∀ (i : Nat) v (u : Str → Option Value) h tk own I c', vs[i]? = some v → (∀ p ∈ (fx, ofx) :: (fdx, ofdx) :: (el2, oel2) :: (R ++ own), p.1 ≠ fe) → fe ≠ I → (∀ p ∈ (fx, ofx) :: (fdx, ofdx) :: (el2, oel2) :: R, p.1 ≠ I) →
      Fr h₀ env.locals h (fun y => if y = x then some v else if ([] : List Str).contains y then u y else m₀ y) → News h₀ env.locals h ((fe, listOf (vs.take i).toArray c') :: (fx, ofx) :: (fdx, ofdx) :: (el2, oel2) :: (R ++ own)) →
      wpAny (model prog w) A (execs body env) (TurnS h₀ env.locals x [] m₀ own I (LoopS2 fe ((fx, ofx) :: (fdx, ofdx) :: (el2, oel2) :: R) vs (i + 1)) { s with heap := h, toks := tk } Q) E { s with heap := h, toks := tk })
    (done : ∀ (u : Str → Option Value) h tk c', Fr h₀ env.locals h (fun y => if y = x then u y else m₀ y) → News h₀ env.locals h ((fe, listOf vs.toArray c') :: (fx, ofx) :: (fdx, ofdx) :: (el2, oel2) :: R) → Q .next { s with heap := h, toks := tk }) :
    wpAny (model prog w) A (pyIter (.ref up)) (fun it s₂ => LoopAtV prog w A h₀ env x body Q E it s₂) E s := by
  refine iter_listJ (l := up) (vs := vs) (kk := n0) (news := (fe, listOf #[] c) :: (fx, ofx) :: (fdx, ofdx) :: (el2, oel2) :: R) [] (LoopS2 fe ((fx, ofx) :: (fdx, ofdx) :: (el2, oel2) :: R) vs) hh F (News.sub N fun q hq => ?_) ⟨c, rfl⟩ (fun i v u nx h tk own I hv hS hI ho F' N' => ?_) (fun u nx h tk hS F' N' => ?_)
  · simp only [List.mem_cons] at hq ⊢
    grind
  · obtain ⟨c', rfl⟩ := hS
    refine turn i v u h tk own I c' hv (fun p hp => ?_) (hI _ (.head _)) (fun p hp => hI p (.tail _ hp)) F' N'
    simp only [List.mem_cons, List.mem_append] at hp
    have n1 := nf p
    simp only [List.mem_cons] at n1
    have nu := nf (up, listOf vs.toArray n0) (by simp)
    have fI := hI _ (.head _)
    rcases hp with rfl | rfl | rfl | hp | hp
    · exact n1 (.inl rfl)
    · exact n1 (.inr (.inl rfl))
    · exact n1 (.inr (.inr (.inl rfl)))
    · exact n1 (.inr (.inr (.inr (.inr hp))))
    · rcases ho p hp with e | e
      · rw [e]; exact Ne.symm fI
      · rw [e]; exact nu
  · obtain ⟨c', rfl⟩ := hS
    rw [List.take_length] at N'
    refine done u h tk c' ?_ N'
    have e : (fun y => if y = x then u y else if ([] : List Str).contains y then u y else m₀ y) = fun y => if y = x then u y else m₀ y := by
      funext y; simp
    rw [e] at F'
    exact F'
end
end Mine
namespace Mine
theorem cut_min (vs : List Value) (x y : Nat) : (vs.drop (min x vs.length)).take (min y vs.length - min x vs.length) = (vs.drop x).take (y - x) := by
  by_cases hx : x ≤ vs.length
  · have e0 : min x vs.length = x := Nat.min_eq_left hx
    rw [e0]
    by_cases hy : y ≤ vs.length
    · have e1 : min y vs.length = y := Nat.min_eq_left hy
      rw [e1]
    · have e1 : min y vs.length = vs.length := Nat.min_eq_right (by omega)
      rw [e1, List.take_of_length_le (l := vs.drop x) (i := vs.length - x) (by rw [List.length_drop]; exact Nat.le_refl _), List.take_of_length_le (l := vs.drop x) (i := y - x) (by rw [List.length_drop]; omega)]
  · have e0 : min x vs.length = vs.length := Nat.min_eq_right (by omega)
    have d1 : vs.drop vs.length = [] := List.drop_of_length_le (Nat.le_refl _)
    have d2 : vs.drop x = [] := List.drop_of_length_le (by omega)
    rw [e0, d1, d2]
    simp
theorem pick_mid (vs : List Value) (x y : Int) (h : 0 ≤ x) (h' : 0 ≤ y) : (slicePick vs.toArray (some x) (some y) none).toList = (vs.drop x.toNat).take (y.toNat - x.toNat) := by
  have e : sliceBounds (some x) (some y) none vs.toArray.size = (((min x.toNat vs.toArray.size : Nat) : Int), ((min y.toNat vs.toArray.size : Nat) : Int), 1) := by
    simp only [sliceBounds, Option.getD_none, show (1 : Int) > 0 by decide, if_true, if_neg (show ¬ (x < 0) by omega), if_neg (show ¬ (y < 0) by omega)]
    congr 1
    · omega
    · congr 1; omega
  rw [kmk_pick_nat _ e, List.size_toArray]
  exact cut_min vs x.toNat y.toNat
theorem pick_mbut (vs : List Value) (x : Int) (h : 0 ≤ x) (hv : 0 < vs.length) : (slicePick vs.toArray (some x) (some (-1)) none).toList = (vs.drop x.toNat).take (vs.length - 1 - x.toNat) := by
  have e : sliceBounds (some x) (some (-1)) none vs.toArray.size = (((min x.toNat vs.toArray.size : Nat) : Int), ((min (vs.length - 1) vs.toArray.size : Nat) : Int), 1) := by
    simp only [sliceBounds, Option.getD_none, show (1 : Int) > 0 by decide, if_true, if_neg (show ¬ (x < 0) by omega), List.size_toArray]
    congr 1
    · omega
    · congr 1; simp; omega
  rw [kmk_pick_nat _ e, List.size_toArray]
  exact cut_min vs x.toNat (vs.length - 1)
section
variable {prog : Program} {w : World} {A : Around} {E : Value → Shared → Prop} {s : Shared} {h₀ : Heap} {L : Addr} {m : Str → Option Value} {news : List (Addr × Obj)} {value slice : PySem.Expr} {l : Addr} {vs : List Value} {c : Nat} {x y : Int} {t t' : Tok} {Q : Value → Shared → Prop}
theorem sl_mid (F : Fr h₀ L s.heap m) (N : News h₀ L s.heap news) (hm : (l, listOf vs.toArray c) ∈ news) (hn : vs.length ≤ 1000) (h0 : 0 ≤ x) (h1 : 0 ≤ y)
    (h : ∀ D h', Fr h₀ L h' m → News h₀ L h' ((D, listOf ((vs.drop x.toNat).take (y.toNat - x.toNat)).toArray 0) :: news) → (∀ p ∈ news, p.1 < D) → Q (.ref D) { s with heap := h' })
    (hs : subscripted slice false (.ref l) (.ref s.heap.objs.size) = operate [.ref s.heap.objs.size, .ref l] (getItem (.ref l) (.ref s.heap.objs.size))) (ht : ∀ r, letTemporaryGo value (.ref l) r = pure ()) :
    wpAny (model prog w) A (subscriptTail value slice (.ref l) (.ref s.heap.objs.size)) Q E { s with heap := s.heap.push { cls := .type "slice", data := .fields #[.int x t, .int y t', .none] } } :=
  kmk_slice_lit F N ⟨_, (N _ hm).1, rfl, _, rfl⟩ (IsPart.int _ _) (IsPart.int _ _) (pick_mid vs x y h0 h1) h hs ht (by rw [sizeLine_eq]; simp; omega)
theorem sl_mbut (F : Fr h₀ L s.heap m) (N : News h₀ L s.heap news) (hm : (l, listOf vs.toArray c) ∈ news) (hn : vs.length ≤ 1000) (h0 : 0 ≤ x) (h1 : 0 < vs.length)
    (h : ∀ D h', Fr h₀ L h' m → News h₀ L h' ((D, listOf ((vs.drop x.toNat).take (vs.length - 1 - x.toNat)).toArray 0) :: news) → (∀ p ∈ news, p.1 < D) → Q (.ref D) { s with heap := h' })
    (hs : subscripted slice false (.ref l) (.ref s.heap.objs.size) = operate [.ref s.heap.objs.size, .ref l] (getItem (.ref l) (.ref s.heap.objs.size))) (ht : ∀ r, letTemporaryGo value (.ref l) r = pure ()) :
    wpAny (model prog w) A (subscriptTail value slice (.ref l) (.ref s.heap.objs.size)) Q E { s with heap := s.heap.push { cls := .type "slice", data := .fields #[.int x t, .int (-1) t', .none] } } :=
  kmk_slice_lit F N ⟨_, (N _ hm).1, rfl, _, rfl⟩ (IsPart.int _ _) (IsPart.int _ _) (pick_mbut vs x h0 h1) h hs ht (by rw [sizeLine_eq]; simp; omega)
end
end Mine
namespace Mine
theorem drop_mid (f : Ent → Int) (eu : Ent) (E2 : List Ent) : ∀ E1 : List Ent, ((E1 ++ eu :: E2).map f).drop (E1.length + 1) = E2.map f
  | [] => rfl
  | a :: E1 => by
    have ih := drop_mid f eu E2 E1
    simp only [List.cons_append, List.map_cons, List.length_cons, List.drop_succ_cons]
    exact ih
theorem Row.lower {E E1 E2 : List Ent} {eu : Ent} {ks ps : List Int} {i : Nat} (hR : Row E ks ps i) (h : E = E1 ++ eu :: E2) : ks.take E1.length = E1.map Ent.k ∧ ps.take E1.length = E1.map Ent.b ∧ (ps.drop 1).take E1.length = E1.map Ent.f := by
  have hl := hR.len
  have hpl := hR.plen
  have hlt : E1.length ≤ ps.length - 1 := by rw [h] at hl; simp at hl; omega
  have hk := hR.keys
  have hb := hR.b
  have hf := hR.f
  rw [List.dropLast_eq_take] at hb
  rw [← List.drop_one] at hf
  refine ⟨?_, ?_, ?_⟩
  · rw [← hk, h]; simp
  · have : (E.map Ent.b).take E1.length = ps.take E1.length := by rw [hb, List.take_take, Nat.min_eq_left hlt]
    rw [← this, h]; simp
  · rw [← hf, h]; simp
theorem Row.upper {E E1 E2 : List Ent} {eu : Ent} {ks ps : List Int} {i : Nat} (hR : Row E ks ps i) (h : E = E1 ++ eu :: E2) : ks.drop (E1.length + 1) = E2.map Ent.k ∧ (ps.drop (E1.length + 1)).take (ps.length - 1 - (E1.length + 1)) = E2.map Ent.b ∧ ps.drop (E1.length + 2) = E2.map Ent.f := by
  have hk := hR.keys
  have hb := hR.b
  have hf := hR.f
  rw [List.dropLast_eq_take] at hb
  rw [← List.drop_one] at hf
  refine ⟨?_, ?_, ?_⟩
  · rw [← hk, h]; exact drop_mid _ _ _ _
  · rw [← List.drop_take, ← hb, h]; exact drop_mid _ _ _ _
  · have : (ps.drop 1).drop (E1.length + 1) = ps.drop (E1.length + 2) := by rw [List.drop_drop]; congr 1; omega
    rw [← this, ← hf, h]; exact drop_mid _ _ _ _
end Mine
namespace Mine
section
variable {prog : Program} {w : World} {A : Around} {s : Shared} {h₀ : Heap} {L el : Addr} {m : Str → Option Value} {env : Env} {ct elt : PySem.Expr} {x : Str} {scope : Scope} {cl : List (Str × Addr)} {news : List (Addr × Obj)} {c : Nat}
/-- a comprehension over a list of numbers, of one number a number -/
theorem comp_ints {Fin : List Value → List (Addr × Obj) → Prop} {zs : List Value} {ns : List Int} (hz : IntsAre zs ns) (f : Int → Int) (hel : (el, listOf zs.toArray c) ∈ news)
    (step : ∀ z ∈ ns, ∀ t I oI C oC D ys m₂ h tk (E' : Value → Shared → Prop) (Q : Value → Shared → Prop), LCg.NsObj oC m₂ → m₂ x = some (.int z t) → Fr h₀ L h m → News h₀ L h ((I, oI) :: (C, oC) :: (D, LCg.lst ys) :: news) →
      (∀ t h' tk', Fr h₀ L h' m → News h₀ L h' ((I, oI) :: (C, oC) :: (D, LCg.lst ys) :: news) → Q (.int (f z) t) { s with heap := h', toks := tk' }) →
      wpAny (model prog w) A (eval elt (compEnvC scope cl C env)) Q E' { s with heap := h, toks := tk })
    (fin : ∀ ys, IntsAre ys (ns.map f) → Fin ys news) :
    LCg.CompRest prog w A h₀ L m env elt x scope cl s (LCg.SrcAt h₀ el zs.toArray) (fun i v => zs.toArray[i]? = some v) Fin zs.toArray.size 0 [] news := by
  suffices aux : ∀ (z2 : List Value) (n2 : List Int), IntsAre z2 n2 → ∀ (z1 : List Value) (n1 : List Int), zs = z1 ++ z2 → ns = n1 ++ n2 → ∀ ys, IntsAre ys (n1.map f) →
      LCg.CompRest prog w A h₀ L m env elt x scope cl s (LCg.SrcAt h₀ el zs.toArray) (fun i v => zs.toArray[i]? = some v) Fin z2.length z1.length ys news by
    have e : zs.toArray.size = zs.length := by simp
    rw [e]
    exact aux zs ns hz [] [] rfl rfl [] .nil
  intro z2 n2 h2
  induction h2 with
  | nil =>
    intro z1 n1 e en ys hy
    rw [List.append_nil] at en
    subst en
    exact LCg.CompRest.zero (fin ys hy)
  | @cons k t v2 n2 r ih =>
    intro z1 n1 e en ys hy
    refine LCg.CompRest.succ fun v I oI C oC D m₂ h tk E' hv hC hx F N off ne => ?_
    have hv' : v = .int k t := by
      have : zs.toArray[z1.length]? = some (.int k t) := by subst e; simp
      rw [this] at hv
      exact (Option.some.inj hv).symm
    subst hv'
    refine step k (by subst en; simp) t I oI C oC D ys m₂ h tk E' _ hC hx F N fun t' h' tk' F' N' => ?_
    refine LCg.CompEnd.intro F' N' news (fun p hp => hp) off (.inr ⟨_, hel, rfl, _, rfl⟩) ?_
    have := ih (z1 ++ [.int k t]) (n1 ++ [k]) (by rw [e]; simp) (by rw [en]; simp) (ys ++ [.int (f k) t']) (by rw [List.map_append]; exact hy.append (.cons _ _ .nil))
    rw [List.length_append] at this
    exact this
/-- the numbers from a on, n of them -/
def upFrom (a : Int) : Nat → List Int
  | 0 => []
  | n + 1 => a :: upFrom (a + 1) n
/-- a comprehension over a range by ones, with a test, of the range's own numbers -/
theorem comp_test {Fin : List Value → List (Addr × Obj) → Prop} {a : Int} {n : Nat} (f : Int → Bool)
    (step : ∀ z, a ≤ z → z < a + (n : Int) → ∀ t I oI C oC D ys m₂ h tk (E' : Value → Shared → Prop) (Q : Bool → Shared → Prop), LCg.NsObj oC m₂ → m₂ x = some (.int z t) → Fr h₀ L h m → News h₀ L h ((I, oI) :: (C, oC) :: (D, LCg.lst ys) :: news) →
      (∀ h' tk', Fr h₀ L h' m → News h₀ L h' ((I, oI) :: (C, oC) :: (D, LCg.lst ys) :: news) → Q (f z) { s with heap := h', toks := tk' }) →
      wpAny (model prog w) A (isTrue ct (compEnvC scope cl C env) (eval ct (compEnvC scope cl C env))) Q E' { s with heap := h, toks := tk })
    (stepv : ∀ z, a ≤ z → z < a + (n : Int) → ∀ t I oI C oC D ys m₂ h tk (E' : Value → Shared → Prop) (Q : Value → Shared → Prop), LCg.NsObj oC m₂ → m₂ x = some (.int z t) → Fr h₀ L h m → News h₀ L h ((I, oI) :: (C, oC) :: (D, LCg.lst ys) :: news) →
      (∀ t h' tk', Fr h₀ L h' m → News h₀ L h' ((I, oI) :: (C, oC) :: (D, LCg.lst ys) :: news) → Q (.int z t) { s with heap := h', toks := tk' }) →
      wpAny (model prog w) A (eval elt (compEnvC scope cl C env)) Q E' { s with heap := h, toks := tk })
    (fin : ∀ ys, IntsAre ys ((upFrom a n).filter f) → Fin ys news) :
    LCt.CompRestT prog w A h₀ L m env ct elt x scope cl s (fun _ => True) (fun i v => ∃ t, v = .int (a + (i : Int)) t) Fin n 0 [] news := by
  suffices aux : ∀ (k i : Nat), i + k = n → ∀ ys (ns : List Int), ns ++ (upFrom (a + (i : Int)) k).filter f = (upFrom a n).filter f → IntsAre ys ns →
      LCt.CompRestT prog w A h₀ L m env ct elt x scope cl s (fun _ => True) (fun i v => ∃ t, v = .int (a + (i : Int)) t) Fin k i ys news from
    aux n 0 (Nat.zero_add _) [] [] (by simp) .nil
  intro k
  induction k with
  | zero =>
    intro i hi ys ns e hy
    simp only [upFrom, List.filter_nil, List.append_nil] at e
    rw [e] at hy
    exact LCt.CompRestT.zero (fin ys hy)
  | succ k ih =>
    intro i hi ys ns e hy
    refine LCt.CompRestT.succ fun v I oI C oC D m₂ h tk E' hv hC hx F N off ne => ?_
    obtain ⟨t, rfl⟩ := hv
    have e3 : a + (i : Int) + 1 = a + ((i + 1 : Nat) : Int) := by omega
    refine step (a + (i : Int)) (by omega) (by omega) t I oI C oC D ys m₂ h tk E' _ hC hx F N fun h' tk' F' N' => ?_
    cases hf : f (a + (i : Int)) with
    | true =>
      simp only [if_true]
      refine stepv (a + (i : Int)) (by omega) (by omega) t I oI C oC D ys m₂ h' tk' E' _ hC hx F' N' fun t' h' tk' F' N' => ?_
      refine LCg.CompEnd.intro F' N' news (fun p hp => hp) off trivial ?_
      refine ih (i + 1) (by omega) _ (ns ++ [a + (i : Int)]) ?_ (hy.append (.cons _ _ .nil))
      rw [← e, ← e3]
      simp [upFrom, hf]
    | false =>
      simp only [Bool.false_eq_true, if_false]
      refine LCg.CompEnd.intro F' N' news (fun p hp => hp) off trivial ?_
      refine ih (i + 1) (by omega) _ ns ?_ hy
      rw [← e, ← e3]
      simp [upFrom, hf]
end
theorem upFrom_clear (p : Int) : ∀ (n : Nat) (a : Int), p < a → (upFrom a n).filter (fun z => z != p) = upFrom a n
  | 0, _, _ => rfl
  | n + 1, a, h => by
    have h1 : (a != p) = true := by simp; omega
    simp only [upFrom, List.filter_cons, h1, if_true]
    rw [upFrom_clear p n (a + 1) (by omega)]
theorem mem_upFrom {z : Int} : ∀ {n : Nat} {a : Int}, z ∈ upFrom a n → a ≤ z ∧ z < a + (n : Int)
  | n + 1, a, h => by
    rcases List.mem_cons.mp h with rfl | h
    · omega
    · have := mem_upFrom h; omega
theorem upFrom_rows (xs : List Int) (d : Nat) : ∀ (W : List Int) (b : Nat), xs.drop (b + d) = W → (upFrom (b : Int) W.length).map (fun z => xs.getD (z.toNat + d) 0) = W
  | [], _, _ => rfl
  | y :: W, b, h => by
    have h1 : xs[b + d]? = some y := by
      have := congrArg (·[0]?) h
      simpa using this
    have h2 : xs.drop (b + 1 + d) = W := by
      have := congrArg (List.drop 1) h
      simpa [Nat.add_right_comm] using this
    have ih := upFrom_rows xs d W (b + 1) h2
    simp only [List.length_cons, upFrom, List.map_cons]
    rw [show ((b : Int) + 1) = ((b + 1 : Nat) : Int) by omega, ih]
    congr 1
    simp [List.getD_eq_getElem?_getD, h1]
/-- the numbers of a row, that at one place left out -/
theorem upFrom_but (xs : List Int) (d : Nat) (y : Int) (V : List Int) : ∀ (U : List Int) (b : Nat), xs.drop (b + d) = U ++ y :: V →
    (((upFrom (b : Int) (U.length + 1 + V.length)).filter (fun z => z != (b : Int) + (U.length : Int))).map (fun z => xs.getD (z.toNat + d) 0)) = U ++ V
  | [], b, h => by
    have h2 : xs.drop (b + 1 + d) = V := by
      have := congrArg (List.drop 1) h
      simpa [Nat.add_right_comm] using this
    have ih := upFrom_rows xs d V (b + 1) h2
    rw [show ([] : List Int).length + 1 + V.length = V.length + 1 by simp; omega]
    simp only [upFrom, List.length_nil, Int.natCast_zero, Int.add_zero, List.filter_cons, bne_self_eq_false, Bool.false_eq_true, if_false, List.nil_append]
    rw [upFrom_clear _ _ _ (by omega), show ((b : Int) + 1) = ((b + 1 : Nat) : Int) by omega]
    exact ih
  | u :: U, b, h => by
    have h1 : xs[b + d]? = some u := by
      have := congrArg (·[0]?) h
      simpa using this
    have h2 : xs.drop (b + 1 + d) = U ++ y :: V := by
      have := congrArg (List.drop 1) h
      simpa [Nat.add_right_comm] using this
    have ih := upFrom_but xs d y V U (b + 1) h2
    rw [show (u :: U).length + 1 + V.length = (U.length + 1 + V.length) + 1 by simp; omega]
    have hb : ((b : Int) != (b : Int) + (((u :: U).length : Nat) : Int)) = true := by simp; omega
    have e1 : (b : Int) + (((u :: U).length : Nat) : Int) = ((b + 1 : Nat) : Int) + (U.length : Int) := by simp; omega
    simp only [upFrom, List.filter_cons, hb, if_true, List.map_cons]
    rw [e1, show ((b : Int) + 1) = ((b + 1 : Nat) : Int) by omega, ih]
    simp [List.getD_eq_getElem?_getD, h1]
end Mine
namespace Mine
section
variable {w : World} {A A₀ : Around} {base h₀ : Heap} {env : Env} {L : Addr} {m mg mb : Str → Option Value} {p : Program} {loose : List Str} {mean : ExcName → Option Value} {s : Shared} {Q Ex : Value → Shared → Prop}
  {news : List (Addr × Obj)} {el x dx conf cd ser : Addr} {no : Obj} {nt mx order : Int} {t1 t2 t3 t4 tk0 : Tok} {n : Nat} {page : Value} {c : Nat} {E : List Ent} {pp : Nat} {kx : Int}
theorem found_0 (B : Below A₀ base [] h₀) (F : Fr h₀ L s.heap m) (X : (hd.heap_39 w.params).In h₀) (T : Top p loose mean mg mb h₀) (N : News h₀ L s.heap news) (XB : (hd.heap_39 w.params).In base) (TB : Top p loose mean mg mb base)
    (hA : A.frames = some [env]) (hh : A.handled = none) (hf : env.frame = some L) (hke : env.scope.kind = .function) (hroom : A.depth < 500) (hun : A.units < 5000)
    (hx : (x, instObj 575 dx) ∈ news) (hdx : (dx, no) ∈ news) (hno : IsNode w.params nt mx conf el page no) (hel : (el, listOf (refs E).toArray c) ∈ news) (hE : Holds w.params news E)
    (hcf : (conf, confObj cd order t1 t2 t3 t4 ser n) ∈ news) (hcd : (cd, dictOf [] 0) ∈ news) (hS : Sought E kx pp) (hk0 : 0 ≤ kx) (hk1 : kx ≤ 1024) (hgt : ∀ e, E[pp]? = some e → kx < e.k)
    (k : ∀ h' tk, Fr h₀ L h' m → News h₀ L h' news → Q .none { s with heap := h', toks := tk }) :
    wpAny (model PySem.Challenge.rw_vq0003_01.row.prog w) A (call (.ref 643) [.ref x, .int kx tk0]) Q Ex s := by
  refine wpAny_call ?_
  cases he : E[pp]? with
  | none =>
    have := List.getElem?_eq_none_iff.mp he
    have := hS.1
    exact found_0a B F X T N XB TB hA hh hf hke (by omega) (by omega) hx hdx hno hel hE hcf hcd hS hk0 hk1 (by simp [refs]; omega) k
  | some e => exact found_0b B F X T N XB TB hA hh hf hke (by omega) (by omega) hx hdx hno hel hE hcf hcd hS hk0 hk1 he (hgt e he) k
theorem taken_0 (B : Below A₀ base [] h₀) (F : Fr h₀ L s.heap m) (X : (hd.heap_39 w.params).In h₀) (T : Top p loose mean mg mb h₀) (N : News h₀ L s.heap news) (XB : (hd.heap_39 w.params).In base) (TB : Top p loose mean mg mb base)
    (hA : A.frames = some [env]) (hh : A.handled = none) (hf : env.frame = some L) (hke : env.scope.kind = .function) (hroom : A.depth < 500) (hun : A.units < 5000)
    (hx : (x, instObj 575 dx) ∈ news) (hdx : (dx, no) ∈ news) (hno : IsNode w.params nt mx conf el page no) (hel : (el, listOf (refs E).toArray c) ∈ news) (hE : Holds w.params news E)
    (hcf : (conf, confObj cd order t1 t2 t3 t4 ser n) ∈ news) (hcd : (cd, dictOf [] 0) ∈ news) (hS : Sought E kx pp) (hk0 : 0 ≤ kx) (hk1 : kx ≤ 1024) (hgt : ∀ e, E[pp]? = some e → kx < e.k)
    (k : ∀ h' tk, Fr h₀ L h' m → News h₀ L h' news → Q (.bool false) { s with heap := h', toks := tk }) :
    wpAny (model PySem.Challenge.rw_vq0003_01.row.prog w) A (call (.ref 650) [.ref x, .int kx tk0]) Q Ex s := by
  refine wpAny_call ?_
  cases he : E[pp]? with
  | none =>
    have := List.getElem?_eq_none_iff.mp he
    have := hS.1
    exact taken_0a B F X T N XB TB hA hh hf hke (by omega) (by omega) hx hdx hno hel hE hcf hcd hS hk0 hk1 (by simp [refs]; omega) k
  | some e => exact taken_0b B F X T N XB TB hA hh hf hke (by omega) (by omega) hx hdx hno hel hE hcf hcd hS hk0 hk1 he (hgt e he) k
end
theorem Row.ends {E : List Ent} {ks ps : List Int} {i : Nat} (h : Row E ks ps i) (hi : i ≤ 6) : ks.Pairwise (· < ·) ∧ ∀ z ∈ ks, 0 ≤ z ∧ z ≤ 1024 := by
  have hg : (0 : Int) < 512 / 2 ^ i := by
    have : i = 0 ∨ i = 1 ∨ i = 2 ∨ i = 3 ∨ i = 4 ∨ i = 5 ∨ i = 6 := by omega
    rcases this with rfl | rfl | rfl | rfl | rfl | rfl | rfl <;> decide
  have S := h.gaps.sorted hg
  obtain ⟨S1, S2⟩ := List.pairwise_cons.mp S
  rw [List.pairwise_append] at S2
  exact ⟨S2.1, fun z hz => ⟨Int.le_of_lt (S1 z (List.mem_append_left _ hz)), Int.le_of_lt (S2.2.2 z hz 1024 (by simp))⟩⟩
theorem sought_nil {kx : Int} : Sought [] kx 0 := ⟨Nat.le_refl _, Nat.zero_le _, fun i e h => by simp at h⟩
theorem sought_at {A B : List Ent} {e : Ent} (S : ((A ++ e :: B).map Ent.k).Pairwise (· < ·)) (hn : (A ++ e :: B).length ≤ 1000) : Sought (A ++ e :: B) e.k A.length := by
  refine ⟨by simp, hn, fun i y hy => ?_⟩
  rw [List.map_append, List.map_cons, List.pairwise_append, List.pairwise_cons] at S
  obtain ⟨_, ⟨SB, _⟩, SX⟩ := S
  rcases Nat.lt_trichotomy i A.length with q | q | q
  · rw [List.getElem?_append_left q] at hy
    have := SX y.k (List.mem_map_of_mem (List.mem_of_getElem? hy)) e.k (by simp)
    simp [q, this]
  · subst q
    have : y = e := by simpa using hy.symm
    subst this
    simp
  · rw [List.getElem?_append_right (by omega)] at hy
    obtain ⟨j, hj⟩ : ∃ j, i - A.length = j + 1 := ⟨i - A.length - 1, by omega⟩
    rw [hj, List.getElem?_cons_succ] at hy
    have := SB y.k (List.mem_map_of_mem (List.mem_of_getElem? hy))
    have h1 : ¬ y.k < e.k := by omega
    have h2 : ¬ i < A.length := by omega
    simp [h1, h2]
theorem sought_but {A B : List Ent} {e : Ent} (S : ((A ++ e :: B).map Ent.k).Pairwise (· < ·)) (hn : (A ++ e :: B).length ≤ 1000) : Sought (A ++ B) e.k A.length ∧ ∀ y, (A ++ B)[A.length]? = some y → e.k < y.k := by
  rw [List.map_append, List.map_cons, List.pairwise_append, List.pairwise_cons] at S
  obtain ⟨_, ⟨SB, _⟩, SX⟩ := S
  refine ⟨⟨by simp, by simp at hn ⊢; omega, fun i y hy => ?_⟩, fun y hy => ?_⟩
  · by_cases q : i < A.length
    · rw [List.getElem?_append_left q] at hy
      have := SX y.k (List.mem_map_of_mem (List.mem_of_getElem? hy)) e.k (by simp)
      simp [q, this]
    · rw [List.getElem?_append_right (by omega)] at hy
      have := SB y.k (List.mem_map_of_mem (List.mem_of_getElem? hy))
      have h1 : ¬ y.k < e.k := by omega
      simp [h1, q]
  · rw [List.getElem?_append_right (Nat.le_refl _), Nat.sub_self] at hy
    exact SB y.k (List.mem_map_of_mem (List.mem_of_getElem? hy))
/-- one of a list's items, and what stands ahead of it and behind -/
theorem cut_row {E : List Ent} {r : Nat} (h : r < E.length) : ∃ U e V, E = U ++ e :: V ∧ U.length = r :=
  ⟨E.take r, E[r], E.drop (r + 1), by rw [← List.drop_eq_getElem_cons h, List.take_append_drop], by rw [List.length_take]; omega⟩
theorem refs_cut {U V : List Ent} {e : Ent} : refs (U ++ e :: V) = refs U ++ .ref e.a :: refs V := by simp [refs]
theorem refs_but {U V : List Ent} : refs (U ++ V) = refs U ++ refs V := by simp [refs]
section
variable {prog : Program} {w : World} {A : Around} {E : Value → Shared → Prop} {s : Shared} {h₀ : Heap} {L : Addr} {news : List (Addr × Obj)} {Q : Value → Shared → Prop}
theorem item_z {value slice : PySem.Expr} {l : Addr} {vs : List Value} {c : Nat} {z : Int} {u : Tok} {v : Value}
    (N : News h₀ L s.heap news) (hm : (l, listOf vs.toArray c) ∈ news) (h0 : 0 ≤ z) (hx : vs[z.toNat]? = some v) (hn : z ≤ 1000) (h : Q v s)
    (hs : subscripted slice false (.ref l) (.int z u) = operate [.ref l, .int z u] (getItem (.ref l) (.int z u)) := by with_unfolding_all rfl) :
    wpAny (model prog w) A (subscriptTail value slice (.ref l) (.int z u)) Q E s :=
  item_litK ⟨_, (N _ hm).1, rfl, _, rfl⟩ (by omega) (by omega) hx h hs
theorem ne_trip {a b : Addr} {x1 x2 x3 y1 y2 y3 : Int} {t1 t2 t3 u1 u2 u3 : Tok} (N : News h₀ L s.heap news)
    (m0 : (a, ({ cls := .type "tuple", data := .seq #[.int x1 t1, .int x2 t2, .int x3 t3] } : Obj)) ∈ news) (p0 : (b, ({ cls := .type "tuple", data := .seq #[.int y1 u1, .int y2 u2, .int y3 u3] } : Obj)) ∈ news)
    (e1 : x1 = y1) (e2 : x2 = y2) (e3 : x3 = y3) (hu : A.units + 64 < cLine) (h : Q (.bool false) s) : wpAny (model prog w) A (compareOp .NotEq (.ref a) (.ref b)) Q E s := by
  subst e1 e2 e3
  refine ne_dataH (reads_tuple_at (N.get m0) rfl rfl (.cons (.int _ _) (.cons (.int _ _) (.cons (.int _ _) .nil)))) (reads_tuple_at (N.get p0) rfl rfl (.cons (.int _ _) (.cons (.int _ _) (.cons (.int _ _) .nil)))) rfl rfl hu ?_
  have e : PyData.eqv (.tuple [.int x1, .int x2, .int x3]) (.tuple [.int x1, .int x2, .int x3]) = true := by simp [PyData.eqv, PyData.eqvAll]
  rw [e]
  exact h
end
end Mine
namespace Mine
theorem next_K {w : World} {A A₀ : Around} {base h₀ : Heap} {outer : List Env} {env : Env} {L : Addr} {m mg mb : Str → Option Value} {p : Program} {loose : List Str} {mean : ExcName → Option Value} {s : Shared} {Q E : Value → Shared → Prop}
    {st lst : Addr} {vs : List Value} {ns : List Int} {c lim : Int} {tc tl : Tok} {news : List (Addr × Obj)} {g : Obj → List (Addr × Obj)} {n1 n2 : Nat}
    (hI : IntsAre vs ns) (hlen : ns.length ≤ 60) (B : Below A₀ base outer h₀) (F : Fr h₀ L s.heap m) (X : (hd.heap_39 w.params).In h₀) (T : Top p loose mean mg mb h₀)
    (N : News h₀ L s.heap news) (hl : (lst, listOf vs.toArray n2) ∈ news) (U : UpdF st (listOf #[.ref lst, .int c tc] n1) news g)
    (hA : A.frames = some (env :: outer)) (hf : env.frame = some L) (hke : env.scope.kind = .function) (hroom : A.depth < 500) (d1 : lst ≠ st) (hc : 0 ≤ c) (hc2 : c < 100) (hlim : 0 < lim)
    (k : ∀ h' tk (r : Nat) tc' tr, Fr h₀ L h' m → News h₀ L h' (g (listOf #[.ref lst, .int (c+1) tc'] n1)) → (r : Int) < lim → Q (.int (r : Int) tr) {s with heap := h', toks := tk}) :
    wpAny (model PySem.Challenge.rw_vq0003_01.row.prog w) A (call (.ref 631) [.ref st, .int lim tl]) Q E s := by
  clear next_K
  obtain ⟨pre, post, e1, e2, a, b⟩ := U.split
  subst e1
  refine wpAny_call (next_c (rest := pre ++ post) (n1 := n1) (n2 := n2) (tc := tc) (c := c) B F X T (News.sub N fun q hq => ?_) hI hA hf hke hroom d1 (fun q hq => ?_) hc hc2 hlen hlim fun h' tk r tc' tr F' N' r0 r1 => ?_)
  · rcases List.mem_cons.mp hq with rfl | hq
    · simp
    · rcases List.mem_cons.mp hq with rfl | hq
      · exact hl
      · simp only [List.mem_append, List.mem_cons] at hq ⊢
        rcases hq with hq | hq
        · exact .inl hq
        · exact .inr (.inr hq)
  · rcases List.mem_append.mp hq with hq | hq
    · exact a q hq
    · exact b q hq
  · obtain ⟨r, rfl⟩ := Int.eq_ofNat_of_zero_le r0
    refine k _ _ r tc' tr F' ?_ r1
    rw [e2]
    refine News.sub N' fun q hq => ?_
    simp only [List.mem_append, List.mem_cons] at hq ⊢
    rcases hq with hq | rfl | hq
    · exact .inr (.inr (.inl hq))
    · exact .inl rfl
    · exact .inr (.inr (.inr hq))
theorem belowAs {A : Around} {K : Frag} {h h' : Heap} (B : Below A h' [] h') (_X : K.In h) (e : h' = h) : Below A h [] h := e ▸ B
/-- the node made, a root or an inner one -/
def MadePost (P : Params) (K : Frag) (h₀ : Heap) (L : Addr) (m : Str → Option Value) (conf : Addr) (order : Int) (root : Bool) (news : List (Addr × Obj)) (s : Shared) (v : Value) (s' : Shared) : Prop :=
  ∃ C nt x dx el c no h' tk tp, v = .ref x ∧ s' = { s with heap := h', toks := tk } ∧ NodeCls K C ∧ NodeAttrs K C ∧ MethAttrs K C ∧ ((root = true ∧ C = 553 ∧ nt = 2) ∨ (root = false ∧ C = 575 ∧ nt = 3)) ∧ Fr h₀ L h' m ∧ News h₀ L h' ((el, listOf #[] c) :: (x, instObj C dx) :: (dx, no) :: news) ∧
    IsNode P nt order conf el (.int 9 tp) no ∧ (∀ p ∈ news, p.1 < dx) ∧ dx < x ∧ x < el
theorem made_cut {prog : Program} {w : World} {A : Around} {t : Sem Value} {Q E : Value → Shared → Prop} {s : Shared} {K : Frag} {h₀ : Heap} {L : Addr} {m : Str → Option Value} {conf cd ser : Addr} {order : Int} {t1 t2 t3 t4 : Tok} {n : Nat} {root : Bool} {news : List (Addr × Obj)}
    (_X : K.In h₀) (_F : Fr h₀ L s.heap m) (_N : News h₀ L s.heap news) (_hcf : (conf, confObj cd order t1 t2 t3 t4 ser n) ∈ news) (_hr : m (Str.ofString "root") = some (.bool root))
    (h1 : wpAny (model prog w) A t (MadePost w.params K h₀ L m conf order root news s) E s)
    (h2 : ∀ C nt x dx el c no h' tk tp, NodeCls K C → NodeAttrs K C → MethAttrs K C → ((root = true ∧ C = 553 ∧ nt = 2) ∨ (root = false ∧ C = 575 ∧ nt = 3)) → Fr h₀ L h' m → News h₀ L h' ((el, listOf #[] c) :: (x, instObj C dx) :: (dx, no) :: news) → IsNode w.params nt order conf el (.int 9 tp) no →
      (∀ p ∈ news, p.1 < dx) → dx < x → x < el → Q (.ref x) { s with heap := h', toks := tk }) : wpAny (model prog w) A t Q E s := by
  refine wpAny_mono h1 (fun v s' hp => ?_) fun _ _ z => z
  obtain ⟨C, nt, x, dx, el, c, no, h', tk, tp, rfl, rfl, a1, a2, a0, a3, a4, a5, a6, a7, a8, a9⟩ := hp
  exact h2 C nt x dx el c no h' tk tp a1 a2 a0 a3 a4 a5 a6 a7 a8 a9
/-- a halt of the walk -/
def Halt (p : Prop) : Prop := p
theorem Halt.of {p : Prop} (h : Halt p) : p := h
section
variable {w : World} {A A₀ : Around} {base h₀ : Heap} {env : Env} {L : Addr} {m mg mb : Str → Option Value} {p : Program} {loose : List Str} {mean : ExcName → Option Value} {s : Shared} {Q E : Value → Shared → Prop}
  {rest : List (Addr × Obj)} {el x dx made dm conf C : Addr} {no : Obj} {nt mx ky b f : Int} {page : Value} {c : Nat} {u0 u1 u2 u3 u4 ul a1 a2 a3 : Tok}
theorem ins_first (B : Below A₀ base [] h₀) (F : Fr h₀ L s.heap m) (X : (hd.heap_39 w.params).In h₀) (T : Top p loose mean mg mb h₀)
    (N : News h₀ L s.heap ((x, instObj 328 dx) :: (dx, refDict w.params u0 u1 u2 u3 u4 ul conf (.int ky a1) (.int b a2) (.int f a3)) :: (el, listOf #[] c) :: (made, instObj C dm) :: (dm, no) :: rest))
    (hA : A.frames = some [env]) (hh : A.handled = none) (hf : env.frame = some L) (hke : env.scope.kind = .function) (hroom : A.depth < 700) (hun : A.units < 7000) (hC : NodeCls (hd.heap_39 w.params) C) (hno : IsNode w.params nt mx conf el page no)
    (nd : (adrs ((el, listOf #[] c) :: (made, instObj C dm) :: (dm, no) :: rest)).Nodup) (lt : AllLt dx ((el, listOf #[] c) :: (made, instObj C dm) :: (dm, no) :: rest)) (lt2 : dx < x)
    (k : ∀ h' tk c' o, Fr h₀ L h' m → News h₀ L h' ((el, listOf (refs [⟨x, dx, o, ky, b, f⟩]).toArray c') :: (made, instObj C dm) :: (dm, no) :: (rest ++ entObjs [⟨x, dx, o, ky, b, f⟩])) → IsRef w.params ky b f o → Q .none { s with heap := h', toks := tk }) :
    wpAny (model PySem.Challenge.rw_vq0003_01.row.prog w) A (call (.ref 521) [.ref made, .ref x]) Q E s := by
  clear ins_first
  have hlt := allLt_lt lt
  have lt2' : @LT.lt Nat _ dx x := lt2
  refine wpAny_call (insert_c (E1 := []) (E2 := []) (c := c) (e := ⟨x, dx, refDict w.params u0 u1 u2 u3 u4 ul conf (.int ky a1) (.int b a2) (.int f a3), ky, b, f⟩) (core := (made, instObj C dm) :: (dm, no) :: rest) B F X T (News.sub N fun q hq => ?_) hA hh hf hke hroom hun hC ?_ ?_ (by simp) (by simp) (by simp) (.head _) (.tail _ (.head _)) hno fun h' tk c' E' F' N' G' P' => ?_)
  · simp only [List.nil_append, entObjs_cons, entObjs_nil, List.cons_append, List.mem_cons, refs, List.map_nil] at hq ⊢
    grind
  · have e1 : ∀ z ∈ adrs ((el, listOf #[] c) :: (made, instObj C dm) :: (dm, no) :: rest), @LT.lt Nat _ z dx := fun z hz => by
      obtain ⟨q, hq, rfl⟩ := List.mem_map.mp hz
      exact hlt q hq
    simp only [List.nil_append, entObjs_cons, entObjs_nil, List.cons_append, adrs, List.map_cons, List.nodup_cons, List.mem_cons, not_or, forall_eq_or_imp] at nd e1 ⊢
    refine ⟨⟨?_, ?_, nd.1⟩, ⟨?_, ?_, ?_, ?_⟩, ⟨?_, ?_, ?_⟩, nd.2⟩
    · exact Nat.ne_of_lt (Nat.lt_trans e1.1 lt2')
    · exact Nat.ne_of_lt e1.1
    · exact Nat.ne_of_gt lt2'
    · exact Nat.ne_of_gt (Nat.lt_trans e1.2.1 lt2')
    · exact Nat.ne_of_gt (Nat.lt_trans e1.2.2.1 lt2')
    · exact fun hz => Nat.lt_irrefl _ (Nat.lt_trans (e1.2.2.2 _ hz) lt2')
    · exact Nat.ne_of_gt e1.2.1
    · exact Nat.ne_of_gt e1.2.2.1
    · exact fun hz => Nat.lt_irrefl _ (e1.2.2.2 _ hz)
  · intro y hy
    simp only [List.nil_append, List.mem_singleton] at hy
    subst hy
    exact ⟨_, _, _, _, _, _, _, _, _, _, rfl⟩
  · obtain ⟨p1, p2, p3, p4, p5⟩ := P'
    obtain ⟨y, rfl⟩ : ∃ y, E' = [y] := by
      cases E' with
      | nil => simp at p1
      | cons y r => cases r with
        | nil => exact ⟨y, rfl⟩
        | cons _ _ => simp at p1
    obtain ⟨ya, yd, yo, yk, yb, yf⟩ := y
    simp [setHd, setLs] at p1 p2 p3 p4 p5
    subst p1 p2 p3 p4 p5
    refine k h' tk c' yo F' (News.sub N' fun q hq => ?_) (G' _ (.head _))
    simp only [entObjs_cons, entObjs_nil, List.mem_cons, List.mem_append, List.cons_append, List.nil_append, List.not_mem_nil, or_false] at hq ⊢
    grind
end
/-- what the turns keep: the ledger's form, the plain rows, the entries -/
def LoopS (P : Params) (kl pg el st lst : Addr) (n1 : Nat) (mid low : List (Addr × Obj)) (i : Nat) (nx : List (Addr × Obj)) : Prop :=
  ∃ E kv nk pv np c tc ks ps, nx = (kl, listOf kv.toArray nk) :: (pg, listOf pv.toArray np) :: (el, listOf (refs E).toArray c) :: (mid ++ (st, listOf #[.ref lst, .int (3 + (i : Int)) tc] n1) :: (low ++ entObjs E)) ∧
    Row E ks ps i ∧ IntsAre kv ks ∧ IntsAre pv ps ∧ Good P E ∧ (adrs (entObjs E)).Nodup ∧ (∀ p ∈ entObjs E, @LT.lt Nat _ el p.1 ∧ p.1 ≠ pg ∧ p.1 ≠ kl)
section
variable {prog : Program} {w : World} {A : Around} {E : Value → Shared → Prop} {s : Shared} {env : Env} {h₀ : Heap} {x : Str} {body : List Stmt} {Q : Flow → Shared → Prop}
theorem loop_rule {r : Addr} {b₀ : Int} {t₀ u₀ v₀ : Tok} {m₀ : Str → Option Value} {kl pg el st lst made dm conf cd ser serd c1 c2 c3 e0 d0 : Addr} {om on oc ocd os osd ol o1 o2 o3 oe : Obj} {n1 nk np c : Nat} {tc a1 a2 a3 : Tok} (stored : List Str)
    (hh : A.handled = none) (hr : IsRange s.heap r 0 b₀ 1 t₀ u₀ v₀) (hb0 : 0 ≤ b₀) (hb7 : b₀ < 7) (F : Fr h₀ env.locals s.heap m₀)
    (N : News h₀ env.locals s.heap ((kl, listOf #[.int 512 a1] nk) :: (pg, listOf #[.int 1 a2, .int 2 a3] np) :: (el, listOf (refs [⟨e0, d0, oe, 512, 1, 2⟩]).toArray c) :: (made, om) :: (dm, on) :: (conf, oc) :: (cd, ocd) :: (ser, os) :: (serd, osd) ::
      (st, listOf #[.ref lst, .int (0 + 1 + 1 + 1) tc] n1) :: (lst, ol) :: (c3, o3) :: (c2, o2) :: (c1, o1) :: entObjs [⟨e0, d0, oe, 512, 1, 2⟩]))
    (hoe : IsRef w.params 512 1 2 oe) (ch : Desc [kl, pg, e0, d0, el, made, dm, conf, cd, ser, serd, st, lst, c3, c2, c1])
    (turn : ∀ (i : Nat) t (u : Str → Option Value) h tk own I E' kv nk pv np c tc ks ps, i < 6 → (∀ p ∈ own, p.1 = I) → (∃ o, (I, o) ∈ own) → (∀ p ∈ [(kl, om), (pg, om), (el, om), (made, om), (dm, om), (conf, om), (cd, om), (ser, om), (serd, om), (st, om), (lst, om), (c3, om), (c2, om), (c1, om)], p.1 ≠ I) → (∀ p ∈ entObjs E', p.1 ≠ I) →
      Row E' ks ps i → IntsAre kv ks → IntsAre pv ps → Good w.params E' → (adrs (entObjs E')).Nodup → (∀ p ∈ entObjs E', @LT.lt Nat _ el p.1 ∧ p.1 ≠ pg ∧ p.1 ≠ kl) → Desc [kl, pg, el, made, dm, conf, cd, ser, serd, st, lst, c3, c2, c1] →
      (∀ p ∈ entObjs E' ++ own, p.1 ≠ st) → (∀ p ∈ entObjs E' ++ own, p.1 ≠ pg) → (∀ p ∈ entObjs E' ++ own, p.1 ≠ kl) → (∀ p ∈ entObjs E' ++ own, p.1 ≠ el) →
      Fr h₀ env.locals h (fun y => if y = x then some (.int (0 + (i : Int)) t) else if stored.contains y then u y else m₀ y) →
      News h₀ env.locals h ((kl, listOf kv.toArray nk) :: (pg, listOf pv.toArray np) :: (el, listOf (refs E').toArray c) :: (made, om) :: (dm, on) :: (conf, oc) :: (cd, ocd) :: (ser, os) :: (serd, osd) ::
        (st, listOf #[.ref lst, .int (3 + (i : Int)) tc] n1) :: (lst, ol) :: (c3, o3) :: (c2, o2) :: (c1, o1) :: (entObjs E' ++ own)) →
      wpAny (model prog w) A (execs body env) (TurnS h₀ env.locals x stored m₀ own I (LoopS w.params kl pg el st lst n1 [(made, om), (dm, on), (conf, oc), (cd, ocd), (ser, os), (serd, osd)] [(lst, ol), (c3, o3), (c2, o2), (c1, o1)] (i + 1)) { s with heap := h, toks := tk } Q) E { s with heap := h, toks := tk })
    (done : ∀ (i : Nat) (u : Str → Option Value) h tk E' kv nk pv np c tc ks ps, i ≤ 6 → Row E' ks ps i → IntsAre kv ks → IntsAre pv ps → Good w.params E' → (adrs (entObjs E')).Nodup → (∀ p ∈ entObjs E', @LT.lt Nat _ el p.1 ∧ p.1 ≠ pg ∧ p.1 ≠ kl) → Desc [kl, pg, el, made, dm, conf, cd, ser, serd, st, lst, c3, c2, c1] → (∀ p ∈ entObjs E', p.1 ≠ st) →
      Fr h₀ env.locals h (fun y => if y = x then u y else if stored.contains y then u y else m₀ y) →
      News h₀ env.locals h ((kl, listOf kv.toArray nk) :: (pg, listOf pv.toArray np) :: (el, listOf (refs E').toArray c) :: (made, om) :: (dm, on) :: (conf, oc) :: (cd, ocd) :: (ser, os) :: (serd, osd) ::
        (st, listOf #[.ref lst, .int (3 + (i : Int)) tc] n1) :: (lst, ol) :: (c3, o3) :: (c2, o2) :: (c1, o1) :: entObjs E') → Q .next { s with heap := h, toks := tk }) :
    wpAny (model prog w) A (pyIter (.ref r)) (fun it s₂ => LoopAtV prog w A h₀ env x body Q E it s₂) E s := by
  have ch' : Desc [kl, pg, el, made, dm, conf, cd, ser, serd, st, lst, c3, c2, c1] := by
    simp only [Desc, and_true] at ch ⊢
    omega
  have hsm : Builtin.Range.small 0 b₀ 1 = true := by
    have : b₀ = 0 ∨ b₀ = 1 ∨ b₀ = 2 ∨ b₀ = 3 ∨ b₀ = 4 ∨ b₀ = 5 ∨ b₀ = 6 := by omega
    rcases this with rfl | rfl | rfl | rfl | rfl | rfl | rfl <;> rfl
  refine iter_rangeJ stored (LoopS w.params kl pg el st lst n1 [(made, om), (dm, on), (conf, oc), (cd, ocd), (ser, os), (serd, osd)] [(lst, ol), (c3, o3), (c2, o2), (c1, o1)]) hh hr hsm (rangeSize_nat 0 b₀) F N ?_ (fun i t u nx h tk own I hi hS hx ho hIo F' N' => ?_) (fun u nx h tk hS F' N' => ?_)
  · refine ⟨[⟨e0, d0, oe, 512, 1, 2⟩], _, nk, _, np, c, tc, _, _, rfl, Row.first, .cons _ _ .nil, .cons _ _ (.cons _ _ .nil), ?_, ?_, ?_⟩
    · intro e he
      rw [List.mem_singleton.mp he]
      exact hoe
    · simp only [Desc, and_true] at ch
      refine Desc.nodup ?_
      simp only [entObjs_cons, entObjs_nil, adrs, List.map_cons, List.map_nil, Desc, and_true]
      omega
    · simp only [Desc, and_true] at ch
      intro p hp
      simp only [entObjs_cons, entObjs_nil, List.mem_cons, List.not_mem_nil, or_false] at hp
      rcases hp with rfl | rfl
      · exact ⟨by dsimp only; omega, Nat.ne_of_lt (by omega), Nat.ne_of_lt (by omega)⟩
      · exact ⟨by dsimp only; omega, Nat.ne_of_lt (by omega), Nat.ne_of_lt (by omega)⟩
  · obtain ⟨E', kv, nk', pv, np', c', tc', ks, ps, rfl, hR, hk, hp, hG, hn, hab⟩ := hS
    simp only [List.cons_append, List.nil_append, List.append_assoc] at N' hx
    have hcells : (∀ p ∈ [(kl, om), (pg, om), (el, om), (made, om), (dm, om), (conf, om), (cd, om), (ser, om), (serd, om), (st, om), (lst, om), (c3, om), (c2, om), (c1, om)], p.1 ≠ I) := by
      intro p hp'
      simp only [List.mem_cons, List.not_mem_nil, or_false] at hp'
      have z := fun q hq => hx q hq
      simp only [List.mem_cons, forall_eq_or_imp] at z
      obtain ⟨z1, z2, z3, z4, z5, z6, z7, z8, z9, z10, z11, z12, z13, z14, -⟩ := z
      rcases hp' with rfl | rfl | rfl | rfl | rfl | rfl | rfl | rfl | rfl | rfl | rfl | rfl | rfl | rfl <;> assumption
    have hents : ∀ p ∈ entObjs E', p.1 ≠ I := by
      intro p hp'
      refine hx p ?_
      simp only [List.mem_cons]
      simp only [hp', or_true]
    have hc2 := hcells
    simp only [List.mem_cons, List.not_mem_nil, or_false, forall_eq_or_imp, forall_eq] at hc2
    obtain ⟨z1, z2, z3, -, -, -, -, -, -, z10, -⟩ := hc2
    have ch2 := ch'
    simp only [Desc, and_true] at ch2
    have tst : ∀ p ∈ entObjs E' ++ own, p.1 ≠ st := fun p hp' => (List.mem_append.mp hp').elim (fun q => Nat.ne_of_gt (by have := (hab p q).1; omega)) fun q => by rw [ho p q]; exact Ne.symm z10
    have tpg : ∀ p ∈ entObjs E' ++ own, p.1 ≠ pg := fun p hp' => (List.mem_append.mp hp').elim (fun q => (hab p q).2.1) fun q => by rw [ho p q]; exact Ne.symm z2
    have tkl : ∀ p ∈ entObjs E' ++ own, p.1 ≠ kl := fun p hp' => (List.mem_append.mp hp').elim (fun q => (hab p q).2.2) fun q => by rw [ho p q]; exact Ne.symm z1
    have tel : ∀ p ∈ entObjs E' ++ own, p.1 ≠ el := fun p hp' => (List.mem_append.mp hp').elim (fun q => Nat.ne_of_gt (hab p q).1) fun q => by rw [ho p q]; exact Ne.symm z3
    exact turn i t u h tk own I E' kv nk' pv np' c' tc' ks ps (by omega) ho hIo hcells hents hR hk hp hG hn hab ch' tst tpg tkl tel F' N'
  · obtain ⟨E', kv, nk', pv, np', c', tc', ks, ps, rfl, hR, hk, hp, hG, hn, hab⟩ := hS
    simp only [List.cons_append, List.nil_append, List.append_assoc] at N'
    exact done _ u h tk E' kv nk' pv np' c' tc' ks ps (by omega) hR hk hp hG hn hab ch' (fun p q => Nat.ne_of_gt (by have z := (hab p q).1; have ch2 := ch'; simp only [Desc, and_true] at ch2; omega)) F' N'
end
theorem turn_facts {E : List Ent} {ks ps : List Int} {pv bv : List Value} {i ch : Nat} (hR : Row E ks ps i) (hp : IntsAre pv ps) (hB : IntsAre bv ([0] ++ ks ++ [1024])) (hch : (ch : Int) < (pv.length : Int)) (hi : i < 6) :
    ∃ lo hi t1 t2 pc t3, bv[ch]? = some (.int lo t1) ∧ bv[ch + 1]? = some (.int hi t2) ∧ pv[ch]? = some (.int pc t3) ∧ ps[ch]? = some pc ∧ 0 ≤ lo ∧ lo < hi ∧ hi ≤ 1024 ∧ (∀ y ∈ E.take ch, y.k < (lo + hi) / 2) ∧ (∀ y ∈ E.drop ch, (lo + hi) / 2 < y.k) ∧
      Gaps (512 / 2 ^ (i + 1)) (0 :: (ks.insertIdx ch ((lo + hi) / 2) ++ [1024])) ∧ ch < i + 2 := by
  have hl := hp.length
  have hpl := hR.plen
  have hc : ch < i + 2 := by omega
  obtain ⟨lo, hi', e1, e2, l1, l2, l3, m1, m2, G⟩ := hR.mid hc hi
  obtain ⟨t1, q1⟩ := hB.get ch lo (by simpa using e1)
  obtain ⟨t2, q2⟩ := hB.get (ch + 1) hi' (by simpa using e2)
  have hlt : ch < ps.length := by omega
  obtain ⟨t3, q3⟩ := hp.get ch ps[ch] (List.getElem?_eq_getElem hlt)
  exact ⟨lo, hi', t1, t2, ps[ch], t3, q1, q2, q3, List.getElem?_eq_getElem hlt, l1, l2, l3, m1, m2, G, hc⟩
section
variable {prog : Program} {w : World} {A : Around} {E : Value → Shared → Prop} {s : Shared} {h₀ : Heap} {L : Addr} {m : Str → Option Value} {news news' : List (Addr × Obj)} {l : Addr} {vs : List Value} {v : Value} {c n : Nat} {u : Tok} {Q : Value → Shared → Prop}
theorem kl_ins_at (hn : n ≤ vs.length) : kl_ins vs (n : Int) v = vs.insertIdx n v := by
  unfold kl_ins
  rw [if_neg (by omega), Int.toNat_natCast, Nat.min_eq_left hn]
  conv => rhs; rw [← List.take_append_drop n vs]
  exact (ins_mid _ _ _ _ (by rw [List.length_take]; omega)).symm
theorem ins_l (F : Fr h₀ L s.heap m) (N : News h₀ L s.heap news) (hn : n ≤ vs.length) (hz : vs.length ≤ 1000) (U : Upd l (listOf vs.toArray c) (listOf (vs.insertIdx n v).toArray (c + 1)) news news') (h : ∀ h', Fr h₀ L h' m → News h₀ L h' news' → Q .none { s with heap := h' }) :
    wpAny (model prog w) A (call (.builtin "list.insert") [.ref l, .int (n : Int) u, v]) Q E s :=
  kl_insert F N (by unfold Builtin.List.listFitsIndex; simp <;> omega) (kl_ins_at hn) U (by rw [sizeLine_eq]; simp; omega) h
theorem ins_l1 (F : Fr h₀ L s.heap m) (N : News h₀ L s.heap news) (hn : n + 1 ≤ vs.length) (hz : vs.length ≤ 1000) (U : Upd l (listOf vs.toArray c) (listOf (vs.insertIdx (n + 1) v).toArray (c + 1)) news news') (h : ∀ h', Fr h₀ L h' m → News h₀ L h' news' → Q .none { s with heap := h' }) :
    wpAny (model prog w) A (call (.builtin "list.insert") [.ref l, .int ((n : Int) + 1) u, v]) Q E s := by
  have e : ((n : Int) + 1) = ((n + 1 : Nat) : Int) := by omega
  rw [e]
  exact ins_l F N hn hz U h
end
theorem ints_ins {vs : List Value} {ns : List Int} (h : IntsAre vs ns) {n : Nat} (hn : n ≤ vs.length) (x : Int) (t : Tok) : IntsAre (vs.insertIdx n (.int x t)) (ns.insertIdx n x) := by
  have hl := h.length
  have e1 : vs.insertIdx n (.int x t) = vs.take n ++ (.int x t) :: vs.drop n := by
    conv => lhs; rw [← List.take_append_drop n vs]
    exact ins_mid _ _ _ _ (by rw [List.length_take]; omega)
  have e2 : ns.insertIdx n x = ns.take n ++ x :: ns.drop n := by
    conv => lhs; rw [← List.take_append_drop n ns]
    exact ins_mid _ _ _ _ (by rw [List.length_take]; omega)
  rw [e1, e2]
  exact (h.take n).append (.cons _ _ (h.drop n))
section
variable {prog : Program} {w : World} {A : Around} {E : Value → Shared → Prop} {s : Shared} {h₀ : Heap} {L : Addr} {m : Str → Option Value} {news : List (Addr × Obj)} {g : Obj → List (Addr × Obj)} {l : Addr} {vs : List Value} {ns : List Int} {x : Int} {c n : Nat} {u t : Tok} {Q : Value → Shared → Prop}
theorem ins_li (F : Fr h₀ L s.heap m) (N : News h₀ L s.heap news) (U : UpdF l (listOf vs.toArray c) news g) (hI : IntsAre vs ns) (hn : n ≤ vs.length) (hz : vs.length ≤ 1000)
    (h : ∀ h' vs', IntsAre vs' (ns.insertIdx n x) → Fr h₀ L h' m → News h₀ L h' (g (listOf vs'.toArray (c + 1))) → Q .none { s with heap := h' }) :
    wpAny (model prog w) A (call (.builtin "list.insert") [.ref l, .int (n : Int) u, .int x t]) Q E s := by
  obtain ⟨pre, post, e1, e2, a, b⟩ := U.split
  subst e1
  refine ins_l (c := c) (news' := pre ++ (l, listOf (vs.insertIdx n (.int x t)).toArray (c + 1)) :: post) F N hn hz ?_ fun h' F' N' => h h' _ (ints_ins hI hn x t) F' (by rw [e2]; exact N')
  clear N U e2
  induction pre with
  | nil => exact .head b
  | cons q r ih => exact .tail (a q (.head _)) (ih fun p hp => a p (.tail _ hp))
theorem ins_li1 (F : Fr h₀ L s.heap m) (N : News h₀ L s.heap news) (U : UpdF l (listOf vs.toArray c) news g) (hI : IntsAre vs ns) (hn : n + 1 ≤ vs.length) (hz : vs.length ≤ 1000)
    (h : ∀ h' vs', IntsAre vs' (ns.insertIdx (n + 1) x) → Fr h₀ L h' m → News h₀ L h' (g (listOf vs'.toArray (c + 1))) → Q .none { s with heap := h' }) :
    wpAny (model prog w) A (call (.builtin "list.insert") [.ref l, .int ((n : Int) + 1) u, .int x t]) Q E s := by
  have e : ((n : Int) + 1) = ((n + 1 : Nat) : Int) := by omega
  rw [e]
  exact ins_li F N U hI hn hz h
end
theorem Holds.of {P : Params} {news : List (Addr × Obj)} {E : List Ent} (hG : Good P E) (h : ∀ p ∈ entObjs E, p ∈ news) : Holds P news E := fun e he => ⟨h _ (entObjs_inst he), h _ (entObjs_dict he), hG e he⟩
theorem tail_ne {E : List Ent} {own : List (Addr × Obj)} {I d : Addr} (h : ∀ p ∈ entObjs E, p.1 ≠ d) (ho : ∀ p ∈ own, p.1 = I) (hd : d ≠ I) : ∀ p ∈ entObjs E ++ own, p.1 ≠ d :=
  fun p hp => (List.mem_append.mp hp).elim (h p) fun q => by rw [ho p q]; exact Ne.symm hd
theorem ints_but {vs : List Value} {ns : List Int} (h : IntsAre vs ns) : IntsAre (vs.take (vs.length - 1)) ns.dropLast := by
  rw [List.dropLast_eq_take, ← h.length]
  exact h.take _
/-- the law's `if root`: behind it the name `other` may be set, and the ledger is the same -/
def IfPost (h₀ : Heap) (L : Addr) (m : Str → Option Value) (news : List (Addr × Obj)) (s : Shared) (f : Flow) (s' : Shared) : Prop :=
  ∃ h' tk, ∃ u : Str → Option Value, f = .next ∧ s' = { s with heap := h', toks := tk } ∧ Fr h₀ L h' (fun z => if z = Str.ofString "other" then u z else m z) ∧ News h₀ L h' news
theorem if_cut {M : Model} {A : Around} {t : Sem Flow} {Q : Flow → Shared → Prop} {E : Value → Shared → Prop} {s : Shared} {h₀ : Heap} {L : Addr} {m : Str → Option Value} {news : List (Addr × Obj)} (_F : Fr h₀ L s.heap m) (_N : News h₀ L s.heap news)
    (h1 : wpAny M A t (IfPost h₀ L m news s) E s) (h2 : ∀ (u : Str → Option Value) h' tk, Fr h₀ L h' (fun z => if z = Str.ofString "other" then u z else m z) → News h₀ L h' news → Q .next { s with heap := h', toks := tk }) : wpAny M A t Q E s := by
  refine wpAny_mono h1 (fun f s' hp => ?_) fun _ _ z => z
  obtain ⟨h', tk, u, rfl, rfl, F', N'⟩ := hp
  exact h2 u h' tk F' N'
theorem if_same {h₀ h : Heap} {L : Addr} {m : Str → Option Value} (F : Fr h₀ L h m) : Fr h₀ L h (fun z => if z = Str.ofString "other" then m z else m z) := by
  have e : (fun z => if z = Str.ofString "other" then m z else m z) = m := by funext z; split <;> rfl
  rw [e]; exact F
theorem allLt_top {a : Addr × Obj} {l : List (Addr × Obj)} {d : Addr} (h : ∀ p ∈ a :: l, p.1 < d) : @LT.lt Nat _ a.1 d := h a (.head _)
theorem take_snoc {vs : List Value} {i : Nat} {v : Value} (h : vs[i]? = some v) : vs.take (i + 1) = vs.take i ++ [v] := by rw [List.take_add_one, h]; rfl
theorem half_parts {E : List Ent} {n : Nat} (hn : n < E.length) : ∃ E1 eu E2, E = E1 ++ eu :: E2 ∧ E1.length = n ∧ List.take n (refs E) = refs E1 ∧ List.drop n (refs E) = .ref eu.a :: refs E2 := by
  refine ⟨E.take n, E[n], E.drop (n + 1), ?_, by rw [List.length_take]; omega, by simp [refs, List.map_take], ?_⟩
  · rw [← List.drop_eq_getElem_cons hn, List.take_append_drop]
  · have : E.drop n = E[n] :: E.drop (n + 1) := List.drop_eq_getElem_cons hn
    simp only [refs]
    rw [← List.map_drop, this]
    rfl
theorem Row.at {E : List Ent} {ks ps : List Int} {kv pv : List Value} {i n : Nat} {e : Ent} (hR : Row E ks ps i) (hk : IntsAre kv ks) (hp : IntsAre pv ps) (he : E[n]? = some e) :
    ∃ t1 t2 t3, kv[n]? = some (.int e.k t1) ∧ pv[n]? = some (.int e.b t2) ∧ pv[n + 1]? = some (.int e.f t3) := by
  have hlt := (List.getElem?_eq_some_iff.mp he).1
  have hl := hR.len
  have hpl := hR.plen
  obtain ⟨t1, h1⟩ := hk.get n e.k (by rw [← hR.keys]; simp [he])
  have hb : ps[n]? = some e.b := by
    have : (E.map Ent.b)[n]? = some e.b := by simp [he]
    rw [hR.b, List.getElem?_dropLast] at this
    split at this
    · exact this
    · cases this
  have hf : ps[n + 1]? = some e.f := by
    have : (E.map Ent.f)[n]? = some e.f := by simp [he]
    rw [hR.f, List.getElem?_tail] at this
    exact this
  obtain ⟨t2, h2⟩ := hp.get n e.b hb
  obtain ⟨t3, h3⟩ := hp.get (n + 1) e.f hf
  exact ⟨t1, t2, t3, h1, h2, h3⟩
theorem News.narrow {h₀ h : Heap} {L : Addr} {a1 a2 a3 a4 a5 a6 a7 a8 a9 a10 a11 a12 a13 a14 a15 a16 a17 a18 fe fx fdx a22 kl pg a25 a26 a27 cf cd a30 a31 st lst c3 c2 c1 : Addr × Obj} {R R' : List (Addr × Obj)}
    (N : News h₀ L h (a1 :: a2 :: a3 :: a4 :: a5 :: a6 :: a7 :: a8 :: a9 :: a10 :: a11 :: a12 :: a13 :: a14 :: a15 :: a16 :: a17 :: a18 :: fe :: fx :: fdx :: a22 :: kl :: pg :: a25 :: a26 :: a27 :: cf :: cd :: a30 :: a31 :: st :: lst :: c3 :: c2 :: c1 :: R)) (hR : ∀ p ∈ R', p ∈ R) :
    News h₀ L h (fe :: fx :: fdx :: kl :: pg :: cf :: cd :: st :: lst :: c3 :: c2 :: c1 :: R') := by
  refine News.sub N fun q hq => ?_
  have hR := hR q
  simp only [List.mem_cons] at hq ⊢
  grind
theorem cell_ne {h₀ h : Heap} {L x1 x2 x3 x4 x5 x6 x7 x8 x9 c3 c2 c1 : Addr} {o1 o2 o3 o4 o5 o6 o7 o8 o9 p1 p2 p3 : Obj} {R : List (Addr × Obj)}
    (_N : News h₀ L h ((x1, o1) :: (x2, o2) :: (x3, o3) :: (x4, o4) :: (x5, o5) :: (x6, o6) :: (x7, o7) :: (x8, o8) :: (x9, o9) :: (c3, p3) :: (c2, p2) :: (c1, p1) :: R)) (hR : ∀ p ∈ R, @LT.lt Nat _ c3 p.1) : ∀ p ∈ R, p.1 ≠ c3 := fun p hp => Nat.ne_of_gt (hR p hp)
theorem News.drop1 {h₀ h : Heap} {L : Addr} {a : Addr × Obj} {R : List (Addr × Obj)} (N : News h₀ L h (a :: R)) : News h₀ L h R := News.sub N fun _ hp => .tail _ hp
theorem left_row (f : Ent → Int) {E E1 U V : List Ent} {eu ex : Ent} {r : Nat} (hE : E = E1 ++ eu :: (U ++ ex :: V)) (hU : U.length = r) :
    ((upFrom ((E1.length : Int) + 1) (U.length + 1 + V.length)).filter (fun z => z != (E1.length : Int) + 1 + (r : Int))).map (fun z => (E.map f).getD z.toNat 0) = (U ++ V).map f := by
  have h : (E.map f).drop (E1.length + 1 + 0) = U.map f ++ f ex :: V.map f := by
    rw [hE, Nat.add_zero, drop_mid]; simp
  have z := upFrom_but (E.map f) 0 (f ex) (V.map f) (U.map f) (E1.length + 1) h
  subst hU
  simp only [List.length_map, Nat.add_zero] at z
  rw [List.map_append, ← z]
  rfl
theorem left_mem {a p z : Int} {n : Nat} (h : z ∈ (upFrom a n).filter (fun z => z != p)) : a ≤ z ∧ z < a + (n : Int) := mem_upFrom (List.mem_filter.mp h).1
theorem Row.at_z {E : List Ent} {ks ps : List Int} {kv pv : List Value} {i : Nat} {z : Int} (hR : Row E ks ps i) (hk : IntsAre kv ks) (hp : IntsAre pv ps) (h0 : 0 ≤ z) (h1 : z < (E.length : Int)) :
    ∃ t1 t2 t3, kv[z.toNat]? = some (.int ((E.map Ent.k).getD z.toNat 0) t1) ∧ pv[z.toNat]? = some (.int ((E.map Ent.b).getD z.toNat 0) t2) ∧ pv[(z + 1).toNat]? = some (.int ((E.map Ent.f).getD z.toNat 0) t3) := by
  have hl : z.toNat < E.length := by omega
  have he : E[z.toNat]? = some E[z.toNat] := List.getElem?_eq_getElem hl
  obtain ⟨t1, t2, t3, e1, e2, e3⟩ := hR.at hk hp he
  have hz : (z + 1).toNat = z.toNat + 1 := by omega
  refine ⟨t1, t2, t3, ?_, ?_, ?_⟩
  · rw [e1]; simp [List.getD_eq_getElem?_getD, he]
  · rw [e2]; simp [List.getD_eq_getElem?_getD, he]
  · rw [hz, e3]; simp [List.getD_eq_getElem?_getD, he]
def Stage (_ : Nat) : Prop := True
theorem Stage.mk (n : Nat) : Stage n := True.intro
end Mine
open Mine
local macro_rules | `(tactic| k_mem) => `(tactic| ((fail_if_success (fail_if_success (have : Mine.Stage 1 := by with_reducible assumption))); ((repeat (first | (with_reducible exact List.mem_cons_self) | (with_reducible assumption) | (with_reducible refine List.mem_cons_of_mem _ ?_))); done)))
local macro_rules | `(tactic| walk_at "call ref cons nil") => `(tactic| ((fail_if_success (fail_if_success (have : Mine.Stage 1 := by with_reducible assumption))); (k_here; (with_reducible show wpAny _ _ (call (Value.ref 631) [Value.ref _, Value.int _ _]) _ _ _); k_dflt (refine' Mine.next_K ?hI ?hlen ?B ?F ?X ?T ?N ?hl ?U ?A ?f ?k ?room ?d1 ?hc ?hc2 ?hlim ?_; (case A => first | assumption | exact rfl); (case f => first | assumption | exact rfl); (case k => first | assumption | exact rfl); (case B => k_asm); (case F => k_asm); (case X => k_asm); (case T => k_asm); (case N => k_asm); (case U => k_updF); (case hl => k_mem); (case hI => with_reducible assumption); (case hlen => with_reducible assumption); (case d1 => k_ne); (case hc => omega); (case hc2 => omega); (case hlim => omega); (case room => k_room); k_whole); intro h' tk' r' tc' tr' F' N' hr1'; (try k_sweep); walk_say "MINE next")))
local macro_rules | `(tactic| walk_at "call ref cons nil") => `(tactic| ((fail_if_success (fail_if_success (have : Mine.Stage 1 := by with_reducible assumption))); (k_here; (with_reducible show wpAny _ _ (call (Value.ref 177) [Value.int _ _, Value.int _ _, Value.int _ _, Value.int _ _, Value.ref _]) _ _ _); k_dflt (refine' Mine.conf_new ?B ?F ?X ?T ?N ?A ?f ?k ?room ?_; (case A => first | assumption | exact rfl); (case f => first | assumption | exact rfl); (case k => first | assumption | exact rfl); (case F => k_asm); (case X => k_asm); (case T => k_asm); (case N => k_asm); (case B => k_asm); (case room => k_room); k_whole); intro h' tk' x' cd' F' N' l1 l2; (try k_lt l1); (try k_lt2 l2); (try k_sweep); walk_say "MINE TreeConf")))
local macro_rules | `(tactic| walk_at "call ref cons nil") => `(tactic| ((fail_if_success (fail_if_success (have : Mine.Stage 1 := by with_reducible assumption))); (k_here; (with_reducible show wpAny _ _ (call (Value.ref 328) [Value.ref _, _, _, _]) _ _ _); k_dflt (refine' Mine.ref_new ?B ?F ?X ?T ?N ?A ?f ?k ?room ?hx ?hcd ?_; (case A => first | assumption | exact rfl); (case f => first | assumption | exact rfl); (case k => first | assumption | exact rfl); (case F => k_asm); (case X => k_asm); (case T => k_asm); (case N => k_asm); (case B => k_asm); (case hx => k_mem); (case hcd => k_mem); (case room => k_room); k_whole); intro x' dx' h' tk' u0' u1' u2' u3' u4' ul' F' N' l1 l2; (try k_lt l1); (try k_lt2 l2); (try k_sweep); walk_say "MINE Reference")))
local macro_rules | `(tactic| walk_at "call ref cons") => `(tactic| ((fail_if_success (fail_if_success (have : Mine.Stage 1 := by with_reducible assumption))); (k_here; (with_reducible show wpAny _ _ (call (Value.ref 553) [Value.ref _] _) _ _ _); k_dflt (show wpAny _ _ (call (Value.ref 553) [Value.ref _] [(Str.ofString "page", Value.int 9 _)]) _ _ _); k_dflt (refine' Mine.root_new ?B ?F ?X ?T ?N ?A ?f ?k ?room ?hx ?hcd ?_; (case A => first | assumption | exact rfl); (case f => first | assumption | exact rfl); (case k => first | assumption | exact rfl); (case F => k_asm); (case X => k_asm); (case T => k_asm); (case N => k_asm); (case B => k_asm); (case hx => k_mem); (case hcd => k_mem); (case room => k_room); k_whole); intro x' dx' el' c' no' h' tk' F' N' hno' l1 l2 l3; (try k_lt l1); (try k_lt2 l2); (try k_lt2 l3); (try k_sweep); walk_say "MINE RootNode")))
local macro_rules | `(tactic| walk_at "call ref cons") => `(tactic| ((fail_if_success (fail_if_success (have : Mine.Stage 1 := by with_reducible assumption))); (k_here; (with_reducible show wpAny _ _ (call (Value.ref 575) [Value.ref _] _) _ _ _); k_dflt (show wpAny _ _ (call (Value.ref 575) [Value.ref _] [(Str.ofString "page", Value.int _ _)]) _ _ _); k_dflt (refine' Mine.inner_new ?B ?F ?X ?T ?N ?A ?f ?k ?room ?hx ?hcd ?ho ?_; (case A => first | assumption | exact rfl); (case f => first | assumption | exact rfl); (case k => first | assumption | exact rfl); (case F => k_asm); (case X => k_asm); (case T => k_asm); (case N => k_asm); (case B => k_asm); (case hx => k_mem); (case hcd => k_mem); (case ho => omega); (case room => k_room); k_whole); intro x' dx' el' c' no' h' tk' F' N' hno' l1 l2 l3; (try k_lt l1); (try k_lt2 l2); (try k_lt2 l3); (try k_sweep); walk_say "MINE InternalNode")))
local macro_rules | `(tactic| walk_at "getAttr ref true") => `(tactic| ((fail_if_success (fail_if_success (have : Mine.Stage 1 := by with_reducible assumption))); (k_here; (with_reducible show wpAny _ _ (getAttr (Value.ref _) (Str.ofString "num_children") _) _ _ _); k_dflt (refine' Mine.num_0 ?B ?F ?X ?T ?N ?A ?f ?k ?room ?hC ?hC2 ?hx ?hdx ?hno ?hel ?_; (case A => first | assumption | exact rfl); (case f => first | assumption | exact rfl); (case k => first | assumption | exact rfl); (case F => k_asm); (case X => k_asm); (case T => k_asm); (case N => k_asm); (case B => k_asm); (case hC => with_reducible assumption); (case hC2 => with_reducible assumption); (case hx => k_mem); (case hdx => k_mem); (case hno => first | with_reducible assumption | exact Mine.IsNode.mk); (case hel => k_mem); (case room => k_room); k_whole); intro h' tk' t' F' N'; (try k_sweep); walk_say "MINE num 0")))
local macro_rules | `(tactic| walk_at "eval Name") => `(tactic| ((fail_if_success (fail_if_success (have : Mine.Stage 1 := by with_reducible assumption))); (k_here; (with_reducible show wpAny _ _ (eval (PySem.Expr.Name _ _) (envOfC _ _ _ _ _)) _ _ _); k_dflt (first | (refine' nameX_L ?F ?v ?_ ?a ?b; (case F => k_asm); (case a => rfl); (case b => rfl); (case v => rfl); k_whole) | (refine' nameX_K ?F ?X ?T ?e ?_ ?a ?b; (case F => k_asm); (case X => k_asm); (case T => k_asm); (case a => rfl); (case b => rfl); (case e => k_is); k_whole)))))
local macro_rules | `(tactic| walk_at "eval IfExp Name Call Call") => `(tactic| ((fail_if_success (fail_if_success (have : Mine.Stage 1 := by with_reducible assumption))); (k_here; (fail_if_success (with_reducible show wpAny _ _ _ (Mine.MadePost _ _ _ _ _ _ _ _ _ _) _ _)); k_dflt (refine' Mine.made_cut ?X ?F ?N ?hcf ?hr ?_ ?_; (case F => k_asm); (case X => k_asm); (case N => k_asm); (case hcf => k_mem); (case hr => rfl)); rotate_left; (intro C' nt' x' dx' el' c' no' h' tk' tp' hC' hC2' hC3' hr' F' N' hno' l1 l2 l3); (try k_lt l1); (try k_lt2 l2); (try k_lt2 l3); (try k_sweep); rotate_left; walk_say "MINE made")))
local macro_rules | `(tactic| walk_at "MadePost") => `(tactic| ((fail_if_success (fail_if_success (have : Mine.Stage 2 := by with_reducible assumption))); (refine' ⟨_, _, _, _, _, _, _, _, _, _, rfl, rfl, ?zmp1, ?zmp2, ?zmp0, ?zmp3, ?zmp4, ?zmp5, ?zmp6, ?zmp7, ?zmp8, ?zmp9⟩; (case zmp4 => with_reducible assumption); (case zmp5 => with_reducible assumption); (case zmp6 => with_reducible assumption); (case zmp1 => first | exact Mine.cls_root _ | exact Mine.cls_inner _); (case zmp2 => first | exact Mine.attrs_root _ | exact Mine.attrs_inner _); (case zmp0 => first | exact Mine.meth_root _ | exact Mine.meth_inner _); (case zmp3 => first | exact Or.inl ⟨by rw [beq_iff_eq]; omega, rfl, rfl⟩ | exact Or.inr ⟨by rw [beq_eq_false_iff_ne]; omega, rfl, rfl⟩); (case zmp7 => first | with_reducible assumption | (refine allLt_lt ?_; simp only [AllLt, and_true]; with_reducible assumption)); (case zmp8 => first | with_reducible assumption | assumption); (case zmp9 => first | with_reducible assumption | assumption); walk_say "MINE made post")))
local macro_rules | `(tactic| walk_at "getMethod ref") => `(tactic| ((fail_if_success (fail_if_success (have : Mine.Stage 2 := by with_reducible assumption))); (k_here; k_dflt (refine' method_inst ?k1 ?k2 ?k3 ?k4 ?k5 ?k6 ?k7 ?_; (case k4 => with_reducible assumption); (case k5 => with_reducible assumption); (case k1 => k_asm); (case k2 => k_asm); (case k3 => exact InstAt.of_news (by k_asm) (by k_mem) (by k_mem)); (case k6 => k_is); (case k7 => k_get); k_whole); walk_say "MINE method")))
local macro_rules | `(tactic| walk_at "call ref cons nil") => `(tactic| ((fail_if_success (fail_if_success (have : Mine.Stage 2 := by with_reducible assumption))); ((with_reducible show wpAny _ _ (call (Value.ref 521) _) _ _ _); refine Mine.Halt.of ?_; walk_say "HALT")))
local macro_rules | `(tactic| walk_at "call ref cons nil") => `(tactic| ((fail_if_success (fail_if_success (have : Mine.Stage 3 := by with_reducible assumption))); (k_here; (with_reducible show wpAny _ _ (call (Value.ref 521) [Value.ref _, Value.ref _]) _ _ _); k_dflt (refine' Mine.ins_first ?B ?F ?X ?T ?N ?A ?hh ?f ?k ?room ?un ?hC ?hno ?nd ?lt ?lt2 ?_; (case A => first | assumption | exact rfl); (case f => first | assumption | exact rfl); (case k => first | assumption | exact rfl); (case F => k_asm); (case X => k_asm); (case T => k_asm); (case N => k_asm); (case B => k_asm); (case hh => rfl); (case hC => with_reducible assumption); (case hno => exact Mine.IsNode.mk); (case lt => simp only [AllLt, and_true]; with_reducible assumption); (case lt2 => first | with_reducible assumption | assumption); (case nd => refine Mine.Desc.nodup ?_; simp only [Mine.adrs, List.map_cons, List.map_nil, Mine.Desc, and_true]; omega); (case room => k_room); (case un => k_units); k_whole); intro h' tk' c' o' F' N' hRef'; (try simp only [List.cons_append, List.nil_append, Mine.entObjs_cons, Mine.entObjs_nil] at N'); (try k_sweep); walk_say "MINE ins first")))
local macro_rules | `(tactic| walk_at "pyIter ref") => `(tactic| ((fail_if_success (fail_if_success (have : Mine.Stage 3 := by with_reducible assumption))); ((with_reducible show wpAny _ _ (pyIter _) _ _ _); refine Mine.Halt.of ?_; walk_say "HALT")))
local macro_rules | `(tactic| k_all) => `(tactic| ((fail_if_success (fail_if_success (have : Mine.Stage 5 := by with_reducible assumption))); ((repeat (first | (with_reducible assumption) | exact List.forall_mem_nil _ | (refine List.forall_mem_cons.mpr ⟨by k_ne, ?_⟩))); done)))
local macro_rules | `(tactic| walk_at "subscriptTail Name Name ref int") => `(tactic| ((fail_if_success (fail_if_success (have : Mine.Stage 5 := by with_reducible assumption))); (k_here; k_dflt (first
  | ((with_reducible show wpAny _ _ (subscriptTail _ _ (Value.ref _) (Value.int (Nat.cast _) _)) _ _ _); refine' Mine.item_idx ?N ?m ?zx ?zn ?_ ?s; (case N => k_asm); (case m => k_mem); (case zx => with_reducible assumption); (case zn => omega); (case s => with_unfolding_all rfl); k_whole; walk_say "MINE idx")
  | (refine Mine.Halt.of ?_; walk_say "HALT")))))
local macro_rules | `(tactic| walk_at "subscriptTail Name BinOp ref int") => `(tactic| ((fail_if_success (fail_if_success (have : Mine.Stage 5 := by with_reducible assumption))); (k_here; k_dflt (first
  | ((with_reducible show wpAny _ _ (subscriptTail _ _ (Value.ref _) (Value.int (_ + 1) _)) _ _ _); refine' Mine.item_next ?N ?m ?x ?n ?_ ?s; (case N => k_asm); (case x => with_reducible assumption); (case m => k_mem); (case n => omega); (case s => with_unfolding_all rfl); k_whole; walk_say "MINE next")
  | (refine Mine.Halt.of ?_; walk_say "HALT")))))
local macro_rules | `(tactic| walk_at "call ref cons nil") => `(tactic| ((fail_if_success (fail_if_success (have : Mine.Stage 6 := by with_reducible assumption))); ((with_reducible show wpAny _ _ (call (Value.ref 521) _) _ _ _); refine Mine.Halt.of ?_; walk_say "HALT 521")))
local macro_rules | `(tactic| walk_at "call builtin:list.insert cons nil") => `(tactic| ((fail_if_success (fail_if_success (have : Mine.Stage 7 := by with_reducible assumption))); (k_here; k_dflt (first
  | ((with_reducible show wpAny _ _ (call _ [Value.ref _, Value.int (Nat.cast _) _, _]) _ _ _); refine' Mine.ins_li ?F ?N ?U ?hI ?zn ?z ?_; (case F => k_asm); (case N => k_asm); (case U => k_updF); (case hI => with_reducible assumption); (case zn => omega); (case z => with_reducible assumption); k_whole)
  | ((with_reducible show wpAny _ _ (call _ [Value.ref _, Value.int (_ + 1) _, _]) _ _ _); refine' Mine.ins_li1 ?F ?N ?U ?hI ?zn ?z ?_; (case F => k_asm); (case N => k_asm); (case U => k_updF); (case hI => with_reducible assumption); (case zn => omega); (case z => with_reducible assumption); k_whole)); intro h' vs' hI' F' N'; (try dsimp only at N'); (try k_sweep); walk_say "MINE insert")))
local macro_rules | `(tactic| walk_at "call ref cons nil") => `(tactic| ((fail_if_success (fail_if_success (have : Mine.Stage 7 := by with_reducible assumption))); (k_here; (with_reducible show wpAny _ _ (call (Value.ref 636) [Value.ref _]) _ _ _); k_dflt (refine wpAny_call ?_; refine' Mine.rows_c ?B ?F ?X ?T ?N ?A ?hh ?f ?k ?room ?hC ?hx ?hdx ?hno ?hel ?hE ?zn ?_; (case A => first | assumption | exact rfl); (case f => first | assumption | exact rfl); (case k => first | assumption | exact rfl); (case hh => rfl); (case F => k_asm); (case X => k_asm); (case T => k_asm); (case N => k_asm); (case B => k_asm); (case hx => k_mem); (case hC => first | with_reducible assumption | exact Mine.cls_inner _); (case hdx => k_mem); (case hno => first | with_reducible assumption | exact Mine.IsNode.mk); (case hel => k_mem); (case hE => refine Mine.Holds.of (by with_reducible assumption) (fun p hp => ?_); (repeat (first | exact hp | exact List.mem_append_left _ hp | exact (by with_reducible assumption : ∀ p ∈ Mine.entObjs _, p ∈ Mine.entObjs _) _ hp | refine List.mem_cons_of_mem _ ?_))); (case zn => (simp only [Mine.refs, List.length_map]; omega)); (case room => k_room); k_whole); intro h' tk' o' n' l1' n1' l2' n2' l3' n3' ks' bs' fs' F' N' i1' i2' i3'; (try k_sweep); walk_say "MINE law rows")))
local macro_rules | `(tactic| walk_at "subscriptTail Name Slice ref ref") => `(tactic| ((fail_if_success (fail_if_success (have : Mine.Stage 7 := by with_reducible assumption))); (refine Mine.Halt.of ?_; walk_say "HALT slice")))
local macro_rules | `(tactic| walk_at "subscriptTail Name Slice ref ref") => `(tactic| ((fail_if_success (fail_if_success (have : Mine.Stage 8 := by with_reducible assumption))); (k_here; k_dflt (first
  | (refine' Mine.sl_but ?F ?N ?m ?zn ?z0 ?_ ?s ?t; (case F => k_asm); (case N => k_asm); (case m => k_mem); (case zn => first | with_reducible assumption | omega); (case z0 => omega); (case s => with_unfolding_all rfl); (case t => kmk_pure))
  | (refine' Mine.sl_from ?F ?N ?m ?zn ?z0 ?_ ?s ?t; (case F => k_asm); (case N => k_asm); (case m => k_mem); (case zn => first | with_reducible assumption | omega); (case z0 => first | with_reducible assumption | exact Int.fdiv_nonneg (by omega) (by omega) | omega); (case s => with_unfolding_all rfl); (case t => kmk_pure))
  | (refine' Mine.sl_upto ?F ?N ?m ?zn ?z0 ?_ ?s ?t; (case F => k_asm); (case N => k_asm); (case m => k_mem); (case zn => first | with_reducible assumption | omega); (case z0 => first | with_reducible assumption | exact Int.fdiv_nonneg (by omega) (by omega) | omega); (case s => with_unfolding_all rfl); (case t => kmk_pure))); intro D' h' F' N' l1; (try k_lt l1); (try k_sweep); walk_say "MINE slice")))
local macro_rules | `(tactic| walk_at "compareOp NotEq ref ref") => `(tactic| ((fail_if_success (fail_if_success (have : Mine.Stage 8 := by with_reducible assumption))); ((with_reducible show wpAny _ _ (compareOp _ _ _) _ _ _); refine Mine.Halt.of ?_; walk_say "HALT")))
local macro_rules | `(tactic| walk_at "getAttr ref true") => `(tactic| ((fail_if_success (fail_if_success (have : Mine.Stage 8 := by with_reducible assumption))); ((with_reducible show wpAny _ _ (getAttr (Value.ref _) (Str.ofString "smallest_key") _) _ _ _); refine Mine.Halt.of ?_; walk_say "HALT smallest")))
local macro_rules | `(tactic| walk_at "getAttr ref true") => `(tactic| ((fail_if_success (fail_if_success (have : Mine.Stage 9 := by with_reducible assumption))); (k_here; (with_reducible show wpAny _ _ (getAttr (Value.ref _) (Str.ofString "num_children") _) _ _ _); k_dflt (refine' Mine.num_n ?B ?F ?X ?T ?N ?A ?f ?k ?room ?hC ?hC2 ?hx ?hdx ?hno ?hel ?hp ?hq ?_; (case A => first | assumption | exact rfl); (case f => first | assumption | exact rfl); (case k => first | assumption | exact rfl); (case F => k_asm); (case X => k_asm); (case T => k_asm); (case N => k_asm); (case B => k_asm); (case hC => with_reducible assumption); (case hC2 => with_reducible assumption); (case hx => k_mem); (case hdx => k_mem); (case hno => first | with_reducible assumption | exact Mine.IsNode.mk); (case hel => k_mem); (case hp => with_reducible assumption); (case hq => with_reducible assumption); (case room => k_room); k_whole); intro h' tk' t' F' N'; (try k_sweep); walk_say "MINE num_children")))
local macro_rules | `(tactic| walk_at "getAttr ref true") => `(tactic| ((fail_if_success (fail_if_success (have : Mine.Stage 9 := by with_reducible assumption))); (k_here; (with_reducible show wpAny _ _ (getAttr (Value.ref _) (Str.ofString "can_add_entry") _) _ _ _); k_dflt (refine' Mine.can_n ?B ?F ?X ?T ?N ?A ?f ?k ?room ?hC ?hC2 ?hx ?hdx ?hno ?hel ?hp ?hq ?_; (case A => first | assumption | exact rfl); (case f => first | assumption | exact rfl); (case k => first | assumption | exact rfl); (case F => k_asm); (case X => k_asm); (case T => k_asm); (case N => k_asm); (case B => k_asm); (case hC => with_reducible assumption); (case hC2 => with_reducible assumption); (case hx => k_mem); (case hdx => k_mem); (case hno => first | with_reducible assumption | exact Mine.IsNode.mk); (case hel => k_mem); (case hp => with_reducible assumption); (case hq => with_reducible assumption); (case room => k_room); k_whole); intro h' tk' F' N'; (try k_sweep); walk_say "MINE can_add_entry")))
local macro_rules | `(tactic| walk_at "getAttr ref true") => `(tactic| ((fail_if_success (fail_if_success (have : Mine.Stage 9 := by with_reducible assumption))); (k_here; (with_reducible show wpAny _ _ (getAttr (Value.ref _) (Str.ofString "smallest_key") _) _ _ _); k_dflt (refine' Mine.small_c ?B ?F ?X ?T ?N ?A ?f ?k ?room ?hC ?hC2 ?hx ?hdx ?hno ?hel ?hp ?he ?hde ?hk ?_; (case A => first | assumption | exact rfl); (case f => first | assumption | exact rfl); (case k => first | assumption | exact rfl); (case F => k_asm); (case X => k_asm); (case T => k_asm); (case N => k_asm); (case B => k_asm); (case hC => with_reducible assumption); (case hC2 => with_reducible assumption); (case hx => k_mem); (case hdx => k_mem); (case hno => first | with_reducible assumption | exact Mine.IsNode.mk); (case hel => k_mem); (case hp => with_reducible assumption); (case he => (repeat (first | exact List.mem_append_left _ (Mine.entObjs_inst (by with_reducible assumption)) | refine List.mem_cons_of_mem _ ?_))); (case hde => (repeat (first | exact List.mem_append_left _ (Mine.entObjs_dict (by with_reducible assumption)) | refine List.mem_cons_of_mem _ ?_))); (case hk => exact ((by with_reducible assumption : Mine.Good _ _) _ (by with_reducible assumption)).key); (case room => k_room); k_whole); intro h' tk' t' F' N'; (try k_sweep); walk_say "MINE smallest_key")))
local macro_rules | `(tactic| walk_at "getAttr ref true") => `(tactic| ((fail_if_success (fail_if_success (have : Mine.Stage 9 := by with_reducible assumption))); (k_here; (with_reducible show wpAny _ _ (getAttr (Value.ref _) (Str.ofString "biggest_key") _) _ _ _); k_dflt (refine' Mine.big_c ?B ?F ?X ?T ?N ?A ?f ?k ?room ?hC ?hC2 ?hx ?hdx ?hno ?hel ?hp ?hq ?he ?hde ?hk ?_; (case A => first | assumption | exact rfl); (case f => first | assumption | exact rfl); (case k => first | assumption | exact rfl); (case F => k_asm); (case X => k_asm); (case T => k_asm); (case N => k_asm); (case B => k_asm); (case hC => with_reducible assumption); (case hC2 => with_reducible assumption); (case hx => k_mem); (case hdx => k_mem); (case hno => first | with_reducible assumption | exact Mine.IsNode.mk); (case hel => k_mem); (case hp => with_reducible assumption); (case hq => with_reducible assumption); (case he => (repeat (first | exact List.mem_append_left _ (Mine.entObjs_inst (by with_reducible assumption)) | refine List.mem_cons_of_mem _ ?_))); (case hde => (repeat (first | exact List.mem_append_left _ (Mine.entObjs_dict (by with_reducible assumption)) | refine List.mem_cons_of_mem _ ?_))); (case hk => exact ((by with_reducible assumption : Mine.Good _ _) _ (by with_reducible assumption)).key); (case room => k_room); k_whole); intro h' tk' t' F' N'; (try k_sweep); walk_say "MINE biggest_key")))
local macro_rules | `(tactic| walk_at "exec If Name cons nil") => `(tactic| ((fail_if_success (fail_if_success (have : Mine.Stage 11 := by with_reducible assumption))); ((with_reducible show wpAny _ _ (exec _ _) _ _ _); (fail_if_success (with_reducible show wpAny _ _ _ (Mine.IfPost _ _ _ _ _) _ _)); refine Mine.Halt.of ?_; walk_say "HALT IF")))
local macro_rules | `(tactic| walk_at "call ref nil") => `(tactic| ((fail_if_success (fail_if_success (have : Mine.Stage 11 := by with_reducible assumption))); (k_here; (with_reducible show wpAny _ _ (call (Value.ref 550) _) _ _ _); k_dflt (show wpAny _ _ (call (Value.ref 550) [Value.ref _]) _ _ _); k_dflt (refine wpAny_call ?_; refine' Mine.convert_c ?B ?F ?X ?T ?N ?A ?f ?k ?room ?hx ?hdx ?hno ?hcf ?hcd ?ho ?_; (case A => first | assumption | exact rfl); (case f => first | assumption | exact rfl); (case k => first | assumption | exact rfl); (case F => k_asm); (case X => k_asm); (case T => k_asm); (case N => k_asm); (case B => k_asm); (case hx => k_mem); (case hdx => k_mem); (case hno => exact Mine.IsNode.mk); (case hcf => k_mem); (case hcd => k_mem); (case ho => omega); (case room => k_room); k_whole); intro h' tk' y' dy' no' F' N' hno' l1 l2; k_dflt (obtain ⟨_, _, _, _, _, _, _, _, _, _, _, _, hq9⟩ := hno'; subst hq9); (try k_lt l1); (try k_lt2 l2); (try k_sweep); walk_say "MINE convert")))
local macro_rules | `(tactic| k_lt $h) => `(tactic| ((fail_if_success (fail_if_success (have : Mine.Stage 11 := by with_reducible assumption))); ((have hraw9 := $h); replace $h := Mine.allLt_top $h; dsimp only at $h:ident)))
local macro_rules | `(tactic| walk_at "call ref nil") => `(tactic| ((fail_if_success (fail_if_success (have : Mine.Stage 12 := by with_reducible assumption))); (k_here; (with_reducible show wpAny _ _ (call (Value.ref 456) _) _ _ _); k_dflt (show wpAny _ _ (call (Value.ref 456) [Value.ref _]) _ _ _); k_dflt (refine' Mine.split_L ?B ?F ?X ?T ?N ?A ?f ?k ?room ?hC ?hC2 ?n1 ?n2 ?n3 ?n4 ?hR ?hno ?hn ?_; (case A => first | assumption | exact rfl); (case f => first | assumption | exact rfl); (case k => first | assumption | exact rfl); (case F => k_asm); (case X => k_asm); (case T => k_asm); (case N => k_asm); (case B => k_asm); (case hC => with_reducible assumption); (case hC2 => with_reducible assumption); (case hno => exact Mine.IsNode.mk); (case n1 => k_ne); (case n2 => k_ne); (case n3 => k_ne); (case n4 => k_ne); (case hR => (repeat (first | (refine List.forall_mem_cons.mpr ⟨by k_ne, ?_⟩) | (intro p hp; have hq := (by with_reducible assumption : ∀ p ∈ Mine.entObjs _, @LT.lt Nat _ _ p.1 ∧ p.1 ≠ _ ∧ p.1 ≠ _) p hp; refine Nat.ne_of_gt ?_; omega)))); (case hn => with_reducible assumption); (case room => k_room); k_whole); intro h' tk' up' el2' no' F' N' hno' l1 l2; k_dflt (obtain ⟨_, _, _, _, _, _, _, _, _, _, _, _, hq9⟩ := hno'; subst hq9); (try k_lt l1); (try k_lt2 l2); (try k_sweep); walk_say "MINE split")))
local macro_rules | `(tactic| walk_at "call ref cons nil") => `(tactic| ((fail_if_success (fail_if_success (have : Mine.Stage 13 := by with_reducible assumption))); (k_here; (with_reducible show wpAny _ _ (call (Value.ref 428) _) _ _ _); k_dflt (show wpAny _ _ (call (Value.ref 428) [Value.ref _, _]) _ _ _); k_dflt (refine wpAny_call ?_; refine' Mine.atend_c ?B ?F ?X ?T ?N ?A ?f ?k ?room ?hC ?hne ?hx ?hdx ?hno ?hn ?_; (case A => first | assumption | exact rfl); (case f => first | assumption | exact rfl); (case k => first | assumption | exact rfl); (case F => k_asm); (case X => k_asm); (case T => k_asm); (case N => k_asm); (case B => k_asm); (case hne => with_reducible assumption); (case hx => k_mem); (case hdx => k_mem); (case hC => first | exact Mine.cls_inner _ | with_reducible assumption); (case hno => exact Mine.IsNode.mk); (case hn => (simp only [List.length_take, List.length_drop]; omega)); (case room => k_room); k_whole); intro h' tk' c' F' N'; (try k_sweep); walk_say "MINE at end")))
local macro_rules | `(tactic| walk_at "call ref nil") => `(tactic| ((fail_if_success (fail_if_success (have : Mine.Stage 14 := by with_reducible assumption))); (k_here; (with_reducible show wpAny _ _ (call (Value.ref 414) _) _ _ _); k_dflt (show wpAny _ _ (call (Value.ref 414) [Value.ref _]) _ _ _); k_dflt (refine wpAny_call ?_; refine' Mine.pop_c ?B ?F ?X ?T ?N ?A ?f ?k ?room ?hC ?hne ?hx ?hdx ?hno ?hn ?_; (case A => first | assumption | exact rfl); (case f => first | assumption | exact rfl); (case k => first | assumption | exact rfl); (case F => k_asm); (case X => k_asm); (case T => k_asm); (case N => k_asm); (case B => k_asm); (case hne => ((repeat (refine List.forall_mem_cons.mpr ⟨by k_ne, ?_⟩)); (intro p hp; exact Nat.ne_of_lt (Nat.lt_trans ((by with_reducible assumption : ∀ p ∈ Mine.entObjs _, @LT.lt Nat _ p.1 _) p hp) (by omega))))); (case hx => k_mem); (case hdx => k_mem); (case hC => first | exact Mine.cls_inner _ | with_reducible assumption); (case hno => exact Mine.IsNode.mk); (case hn => with_reducible assumption); (case room => k_room); k_whole); intro h' tk' c' F' N'; (try k_sweep); walk_say "MINE pop smallest")))
local macro_rules | `(tactic| walk_at "subscriptTail Name Slice ref ref") => `(tactic| ((fail_if_success (fail_if_success (have : Mine.Stage 14 := by with_reducible assumption))); (k_here; k_dflt (first
  | (refine' Mine.sl_mbut ?F ?N ?m ?zn ?z0 ?z1 ?_ ?s ?t; (case F => k_asm); (case N => k_asm); (case m => k_mem); (case zn => with_reducible assumption); (case z0 => omega); (case z1 => omega); (case s => with_unfolding_all rfl); (case t => kmk_pure))
  | (refine' Mine.sl_mid ?F ?N ?m ?zn ?z0 ?z1 ?_ ?s ?t; (case F => k_asm); (case N => k_asm); (case m => k_mem); (case zn => with_reducible assumption); (case z0 => omega); (case z1 => omega); (case s => with_unfolding_all rfl); (case t => kmk_pure))); intro D' h' F' N' l1; (try k_lt l1); (try k_sweep); walk_say "MINE slice mid")))
local macro_rules | `(tactic| walk_at "call ref cons nil") => `(tactic| ((fail_if_success (fail_if_success (have : Mine.Stage 14 := by with_reducible assumption))); ((with_reducible show wpAny _ _ (call (Value.ref 643) _) _ _ _); refine Mine.Halt.of ?_; walk_say "HALT 643")))
local macro_rules | `(tactic| walk_at "call ref cons nil") => `(tactic| ((fail_if_success (fail_if_success (have : Mine.Stage 14 := by with_reducible assumption))); ((with_reducible show wpAny _ _ (call (Value.ref 650) _) _ _ _); refine Mine.Halt.of ?_; walk_say "HALT 650")))
local macro_rules | `(tactic| walk_at "call ref cons nil") => `(tactic| ((fail_if_success (fail_if_success (have : Mine.Stage 15 := by with_reducible assumption))); ((with_reducible show wpAny _ _ (call (Value.ref 631) _) _ _ _); refine Mine.Halt.of ?_; walk_say "HALT 631")))
local macro_rules | `(tactic| walk_at "subscriptTail Name Name ref int") => `(tactic| ((fail_if_success (fail_if_success (have : Mine.Stage 17 := by with_reducible assumption))); (k_here; (with_reducible show wpAny _ _ (subscriptTail _ _ (Value.ref _) (Value.int (_ + _) _)) _ _ _); k_dflt (refine' Mine.item_z ?N ?m ?z0 ?zx ?zn ?_ ?s; (case N => k_asm); (case m => k_mem); (case zx => with_reducible assumption); (case z0 => omega); (case zn => omega); (case s => with_unfolding_all rfl); k_whole; walk_say "MINE idx z"))))
local macro_rules | `(tactic| walk_at "subscriptTail Name BinOp ref int") => `(tactic| ((fail_if_success (fail_if_success (have : Mine.Stage 17 := by with_reducible assumption))); (k_here; (with_reducible show wpAny _ _ (subscriptTail _ _ (Value.ref _) (Value.int (_ + _ + 1) _)) _ _ _); k_dflt (refine' Mine.item_z ?N ?m ?z0 ?zx ?zn ?_ ?s; (case N => k_asm); (case m => k_mem); (case zx => with_reducible assumption); (case z0 => omega); (case zn => omega); (case s => with_unfolding_all rfl); k_whole; walk_say "MINE idx z1"))))
local macro_rules | `(tactic| walk_at "CompSrcT") => `(tactic| ((fail_if_success (fail_if_success (have : Mine.Stage 19 := by with_reducible assumption))); (refine Mine.Halt.of ?_; walk_say "HALT SrcT")))
local macro_rules | `(tactic| walk_at "CompSrc") => `(tactic| ((fail_if_success (fail_if_success (have : Mine.Stage 20 := by with_reducible assumption))); (refine Mine.Halt.of ?_; walk_say "HALT Src")))
local macro_rules | `(tactic| walk_at "compareOp Eq ref ref") => `(tactic| ((fail_if_success (fail_if_success (have : Mine.Stage 21 := by with_reducible assumption))); ((with_reducible show wpAny _ _ (compareOp _ _ _) _ _ _); refine Mine.Halt.of ?_; walk_say "HALT Eq")))
local macro_rules | `(tactic| walk_at "subscriptTail Name Name ref int") => `(tactic| ((fail_if_success (fail_if_success (have : Mine.Stage 21 := by with_reducible assumption))); (k_here; (with_reducible show wpAny _ _ (subscriptTail _ _ (Value.ref _) (Value.int _ _)) _ _ _); k_dflt (refine' Mine.item_z ?N ?m ?z0 ?zx ?zn ?_ ?s; (case N => k_asm); (case m => k_mem); (case zx => with_reducible assumption); (case z0 => omega); (case zn => omega); (case s => with_unfolding_all rfl); k_whole; walk_say "MINE idx any"))))
local macro_rules | `(tactic| walk_at "subscriptTail Name BinOp ref int") => `(tactic| ((fail_if_success (fail_if_success (have : Mine.Stage 21 := by with_reducible assumption))); (k_here; (with_reducible show wpAny _ _ (subscriptTail _ _ (Value.ref _) (Value.int (_ + 1) _)) _ _ _); k_dflt (refine' Mine.item_z ?N ?m ?z0 ?zx ?zn ?_ ?s; (case N => k_asm); (case m => k_mem); (case zx => with_reducible assumption); (case z0 => omega); (case zn => omega); (case s => with_unfolding_all rfl); k_whole; walk_say "MINE idx any1"))))
local macro_rules | `(tactic| walk_at "call ref cons nil") => `(tactic| ((fail_if_success (fail_if_success (have : Mine.Stage 0 := by with_reducible assumption))); (fail_if_success (have : Mine.Stage 1 := by with_reducible assumption)); refine Mine.Halt.of ?_; walk_say "HALT stage"))
local macro_rules | `(tactic| walk_at "eval IfExp Name Call Call") => `(tactic| ((fail_if_success (fail_if_success (have : Mine.Stage 1 := by with_reducible assumption))); (fail_if_success (have : Mine.Stage 2 := by with_reducible assumption)); refine Mine.Halt.of ?_; walk_say "HALT stage"))
set_option maxHeartbeats 0 in
theorem PySem.Challenge.cw_vq0003_01_holds : PySem.Challenge.rw_vq0003_01.Holds := by
  refine hd ?_
  clear PySem.Challenge.cw_vq0003_01_holds
  have sg0 := Mine.Stage.mk 0
  w_on
  k_go0
  (all_goals try k_fold)
  k_steps
  exact by
    have sg1 := Mine.Stage.mk 1
    rename Frag.In _ _ => X0
    revert X0; intro X0
    unfold Halt
    rename IntsAre _ (List.take _ _) => hI0
    obtain ⟨ns, hI, hlen⟩ : ∃ ns, IntsAre _ ns ∧ ns.length ≤ 60 := ⟨_, hI0, List.length_take_le _ _⟩
    clear hI0
    rename Below _ _ _ _ => K0
    have K1 := belowAs K0 X0 rfl
    clear K0
    k_steps
    exact by
      have sg2 := Mine.Stage.mk 2
      rename Frag.In _ _ => X0
      revert X0; intro X0
      unfold Halt
      walk1
      · k_steps
      rename MethAttrs _ _ => hM
      obtain ⟨m1, m2, m3, m4⟩ := hM
      rename IsNode _ _ _ _ _ _ _ => hno
      obtain ⟨_, _, _, _, _, _, _, _, _, _, _, _, rfl⟩ := hno
      k_steps
      exact by
        have sg3 := Mine.Stage.mk 3
        rename Frag.In _ _ => X0
        revert X0; intro X0
        unfold Halt
        k_steps
        exact by
          have sg4 := Mine.Stage.mk 4
          rename Frag.In _ _ => X0
          revert X0; intro X0
          unfold Halt
          rename IsRange _ _ _ _ _ _ _ _ => rgX
          rename Fr _ _ _ _ => F5
          rename News _ _ _ _ => N5
          rename IsRef _ _ _ _ _ => hRf
          refine' loop_rule [Str.ofString "child", Str.ofString "bounds", Str.ofString "key"] ?hh rgX ?b0 ?b7 F5 ?N5 hRf ?ch ?t ?d
          case hh => rfl
          case N5 => exact N5
          case b0 => omega
          case b7 => omega
          case ch => simp only [Desc, and_true]; omega
          case t =>
            exact by
              have sg5 := Mine.Stage.mk 5
              rename Frag.In _ _ => X0
              revert X0; intro X0
              intro i t u h tk own I E kv nk pv np c tc ks ps hi ho hIo hI hIE hR hk hp hG hnd hab ch tst tpg tkl tel F N
              have hkl := hk.length
              have hpl := hp.length
              have hkl2 := hR.klen
              have hpl2 := hR.plen
              have hkv : kv.length ≤ 1000 := by omega
              have hpv : pv.length ≤ 1000 := by omega
              simp only [Desc, and_true] at ch
              simp only [List.mem_cons, List.not_mem_nil, or_false, forall_eq_or_imp, forall_eq] at hI
              k_steps
              exact by
                have sg6 := Mine.Stage.mk 6
                rename Frag.In _ _ => X0
                revert X0; intro X0
                rename IntsAre _ ([0] ++ _ ++ _) => hB
                rename (Nat.cast _ : Int) < (List.length pv : Int) => hch
                obtain ⟨lo, hi2, t1, t2, pc, t3, f1, f2, f3, f4, f5, f6, f7, f8, f9, fG, fc⟩ := turn_facts hR hp hB hch hi
                unfold Halt
                k_steps
                exact by
                  have sg7 := Mine.Stage.mk 7
                  rename Frag.In _ _ => X0
                  revert X0; intro X0
                  rename Below _ _ _ _ => K1
                  unfold Halt
                  rename Fr _ _ _ _ => F7
                  rename News _ _ _ _ => N7
                  rename NodeCls _ _ => hCl
                  have efd : (lo + hi2).fdiv 2 = (lo + hi2) / 2 := Int.fdiv_eq_ediv_of_nonneg _ (by decide)
                  refine' ins_turn (own := own) (I := I) (E := E) K1 F7 X0 ?T N7 (.head _) (.tail _ (.head _)) ?hcells ?lt ?lt2 rfl rfl rfl rfl ?room ?un hCl IsNode.mk ?hD ?hI hIE ho hIo hnd hab hG ?hlt ?hgt ?hlen ?_
                  case T => k_asm
                  case hcells => exact fun p hp => .tail _ (.tail _ (.tail _ (.tail _ (.tail _ (.tail _ hp)))))
                  case lt => refine allLt_lt ?_; simp only [AllLt, and_true]; (refine ⟨?_, ?_, ?_, ?_, ?_, ?_, ?_, ?_, ?_, ?_, ?_, ?_, ?_, ?_, ?_⟩ <;> first | omega | simp [*])
                  case lt2 => assumption
                  case room => k_room
                  case un => k_units
                  case hD => simp only [Desc, and_true]; exact ch
                  case hI => simp only [List.mem_cons, List.not_mem_nil, or_false, forall_eq_or_imp, forall_eq]; exact hI
                  case hlt => rw [efd]; exact f8
                  case hgt => rw [efd]; exact f9
                  case hlen => have := hR.len; omega
                  intro h' tk' c' E8 F8 N8 hG8 P8 hnd8 hab8 hIE8
                  have hR8 := hR.cut fc efd f4 rfl fG P8
                  have hl8 := hR8.len
                  have tpg8 := tail_ne (fun p hp => (hab8 p hp).2.1) ho hI.2.1
                  have tkl8 := tail_ne (fun p hp => (hab8 p hp).2.2) ho hI.1
                  k_steps
                  exact by
                    have sg8 := Mine.Stage.mk 8
                    rename Frag.In _ _ => X0
                    revert X0; intro X0
                    unfold Halt
                    rename IntsAre _ (List.insertIdx ks _ _) => hk8
                    rename IntsAre _ (List.insertIdx ps _ _) => hp8
                    rw [efd] at hk8
                    obtain ⟨ks8, ps8, hR9, hk9, hp9⟩ : ∃ ks8 ps8, Row E8 ks8 ps8 (i + 1) ∧ IntsAre _ ks8 ∧ IntsAre _ ps8 := ⟨_, _, hR8, hk8, hp8⟩
                    clear hk8 hp8 hR8
                    have hkl9 := hk9.length
                    have hpl9 := hp9.length
                    rw [hR9.klen] at hkl9
                    rw [hR9.plen] at hpl9
                    k_steps
                    unfold Halt
                    rename News _ _ _ _ => N9
                    refine' ne_rows N9 ?m0 ?m1 ?m2 ?m3 ?p0 ?p1 ?p2 ?p3 ?i1 ?i2 ?i3 ?j1 ?j2 ?j3 ?hu ?_
                    case m0 => k_mem
                    case m1 => k_mem
                    case m2 => k_mem
                    case m3 => k_mem
                    case p0 => k_mem
                    case p1 => k_mem
                    case p2 => k_mem
                    case p3 => k_mem
                    case i1 => with_reducible assumption
                    case i2 => with_reducible assumption
                    case i3 => with_reducible assumption
                    case j1 => rw [hR9.keys]; exact hk9
                    case j2 => rw [hR9.b]; exact ints_but hp9
                    case j3 => rw [hR9.f, ← List.drop_one]; exact hp9.drop 1
                    case hu => exact Nat.le_of_ble_eq_true rfl
                    k_steps
                    exact by
                      have sg9 := Mine.Stage.mk 9
                      rename Frag.In _ _ => X0
                      revert X0; intro X0
                      unfold Halt
                      have hl9 := hR9.len
                      obtain ⟨e0, he0⟩ : ∃ e0, E8[0]? = some e0 := ⟨_, List.getElem?_eq_getElem (by omega)⟩
                      obtain ⟨eL, heL⟩ : ∃ eL, E8[E8.length - 1]? = some eL := ⟨_, List.getElem?_eq_getElem (by omega)⟩
                      have hm0 : e0 ∈ E8 := List.mem_of_getElem? he0
                      have hmL : eL ∈ E8 := List.mem_of_getElem? heL
                      have hf0 : (refs E8)[0]? = some (.ref e0.a) := by simp [refs, he0]
                      have hfL : (refs E8)[(refs E8).length - 1]? = some (.ref eL.a) := by simp [refs, heL]
                      have hrl : (refs E8).length = E8.length := by simp [refs]
                      have hrp : 0 < (refs E8).length := by omega
                      have hrq : (refs E8).length ≤ 1000 := by omega
                      have hkk := hR9.keys
                      obtain ⟨tz0, hz0⟩ := hk9.get 0 e0.k (by rw [← hkk]; simp [he0])
                      obtain ⟨tzL, hzL⟩ := hk9.get (E8.length - 1) eL.k (by rw [← hkk]; simp [heL])
                      rw [hl9.trans hkl9.symm] at hzL
                      have hkq := Nat.le_trans (Nat.le_of_eq hkl9) (show i + 1 + 1 ≤ 1000 by omega)
                      have hpq := Nat.le_trans (Nat.le_of_eq hpl9) (show i + 1 + 2 ≤ 1000 by omega)
                      k_steps
                      exact by
                        have sg10 := Mine.Stage.mk 10
                        rename Frag.In _ _ => X0
                        revert X0; intro X0
                        unfold Halt
                        rename News _ _ _ _ => N10
                        refine' ne_same (x1 := [_, _]) (y1 := [_, _]) N10 ?m0 ?p0 ?i1 ?j1 ?hu ?_
                        case m0 => k_mem
                        case p0 => k_mem
                        case i1 => exact .cons _ _ (.cons _ _ .nil)
                        case j1 => exact .cons _ _ (.cons _ _ .nil)
                        case hu => exact Nat.le_of_ble_eq_true rfl
                        k_steps
                        unfold Halt
                        rename News _ _ _ _ => N11
                        refine' ne_ib N11 ?m0 ?p0 ?e1 ?e2 ?hu ?_
                        case m0 => k_mem
                        case p0 => k_mem
                        case e1 => omega
                        case e2 => exact decide_eq_decide.mpr (by omega)
                        case hu => exact Nat.le_of_ble_eq_true rfl
                        k_steps
                        rename Fr _ _ _ _ => F12
                        rename News _ _ _ _ => N12
                        have ec : (3 + ((i + 1 : Nat) : Int)) = 3 + (i : Int) + 1 := by omega
                        refine' ⟨_, _, _, _, rfl, F12, ?N, ⟨E8, _, _, _, _, _, _, ks8, ps8, rfl, hR9, hk9, hp9, hG8, hnd8, hab8⟩, ?I, ?m⟩
                        case N => simp only [List.cons_append, List.nil_append, List.append_assoc, ec]; exact News.sub N12 (fun p hp => by repeat (first | exact hp | refine List.mem_cons_of_mem _ ?_))
                        case I =>
                          intro p hp
                          simp only [List.cons_append, List.nil_append, List.mem_cons] at hp
                          obtain ⟨z1, z2, z3, z4, z5, z6, z7, z8, z9, z10, z11, z12, z13, z14⟩ := hI
                          rcases hp with rfl | rfl | rfl | rfl | rfl | rfl | rfl | rfl | rfl | rfl | rfl | rfl | rfl | rfl | hp <;> first | assumption | exact hIE8 p hp
                        case m =>
                          intro y h1 h2
                          have h3 : y ≠ Str.ofString "child" := fun e => by rw [e] at h2; revert h2; decide
                          have h4 : y ≠ Str.ofString "bounds" := fun e => by rw [e] at h2; revert h2; decide
                          have h5 : y ≠ Str.ofString "key" := fun e => by rw [e] at h2; revert h2; decide
                          simp only [if_neg h1, if_neg h3, if_neg h4, if_neg h5, h2, Bool.false_eq_true, if_false]
          case d =>
            exact by
              have sg5 := Mine.Stage.mk 5
              have sg6 := Mine.Stage.mk 6
              have sg7 := Mine.Stage.mk 7
              have sg8 := Mine.Stage.mk 8
              have sg9 := Mine.Stage.mk 9
              have sg10 := Mine.Stage.mk 10
              have sg11 := Mine.Stage.mk 11
              rename Frag.In _ _ => X0
              revert X0; intro X0
              (repeat (rename (_ : Nat) < _ ∧ _ => hz; clear hz))
              (repeat (rename (_ : Nat) < _ => hz; clear hz))
              intro i u h tk E kv nk pv np c tc ks ps hi hR hk hp hG hnd hab ch tst F N
              have hkl := hk.length
              have hpl := hp.length
              rw [hR.klen] at hkl
              rw [hR.plen] at hpl
              have hkv : kv.length ≤ 1000 := by omega
              have hpv : pv.length ≤ 1000 := by omega
              have hl9 := hR.len
              simp only [Desc, and_true] at ch
              k_steps
              exact by
                have sg12 := Mine.Stage.mk 12
                rename Frag.In _ _ => X0
                revert X0; intro X0
                unfold Halt
                rename Fr _ _ _ _ => F1
                rename News _ _ _ _ => N1
                rename (_ ∧ _ = 553 ∧ _) ∨ _ => hr0
                refine if_cut F1 N1 ?_ ?_
                · rcases hr0 with ⟨q1, rfl, rfl⟩ | ⟨q1, rfl, rfl⟩
                  · simp only [q1] at F1 ⊢
                    k_steps
                    unfold Halt
                    rename News _ _ _ _ => N2
                    refine' ne_same (x1 := [_, _]) (y1 := [_, _]) N2 ?m0 ?p0 ?i1 ?j1 ?hu ?_
                    case m0 => k_mem
                    case p0 => k_mem
                    case i1 => exact .cons _ _ (.cons _ _ .nil)
                    case j1 => exact .cons _ _ (.cons _ _ .nil)
                    case hu => exact Nat.le_of_ble_eq_true rfl
                    k_steps
                    unfold Halt
                    rename News _ _ _ _ => N3
                    refine' ne_rows N3 ?m0 ?m1 ?m2 ?m3 ?p0 ?p1 ?p2 ?p3 ?i1 ?i2 ?i3 ?j1 ?j2 ?j3 ?hu ?_
                    case m0 => k_mem
                    case m1 => k_mem
                    case m2 => k_mem
                    case m3 => k_mem
                    case p0 => k_mem
                    case p1 => k_mem
                    case p2 => k_mem
                    case p3 => k_mem
                    case i1 => with_reducible assumption
                    case i2 => with_reducible assumption
                    case i3 => with_reducible assumption
                    case j1 => rw [hR.keys]; exact hk
                    case j2 => rw [hR.b]; exact ints_but hp
                    case j3 => rw [hR.f, ← List.drop_one]; exact hp.drop 1
                    case hu => exact Nat.le_of_ble_eq_true rfl
                    k_steps
                    rename Fr _ _ _ _ => F4
                    rename News _ _ _ _ => N4
                    exact ⟨_, _, fun _ => some (.ref _), rfl, rfl, F4, News.sub N4 (fun p hp => by repeat (first | exact hp | refine List.mem_cons_of_mem _ ?_))⟩
                  · simp only [q1] at F1 ⊢
                    k_steps
                    rename Fr _ _ _ _ => F2
                    rename News _ _ _ _ => N2
                    exact ⟨_, _, _, rfl, rfl, if_same F2, N2⟩
                intro u2 h2 tk2 F2 N2
                clear F1 N1
                have hrl : (refs E).length = E.length := by simp [refs]
                have hrq : (refs E).length ≤ 1000 := by omega
                k_steps
                exact by
                  have sg13 := Mine.Stage.mk 13
                  rename Frag.In _ _ => X0
                  revert X0; intro X0
                  unfold Halt
                  rename IsNode _ _ _ _ _ _ _ => hnf
                  obtain ⟨_, _, _, _, _, _, _, _, _, _, _, _, rfl⟩ := hnf
                  rename Fr _ _ _ _ => F3
                  rename News _ _ _ _ => N3
                  rename ∀ p ∈ _, (p : Addr × Obj).1 < _ => ll
                  have hAl : ∀ p ∈ entObjs E, @LT.lt Nat _ p.1 _ := fun p hp => ll p (by repeat (first | exact hp | refine List.mem_cons_of_mem _ ?_))
                  refine' loop2_rule rfl F3 N3 ?nf ?t ?d
                  case nf =>
                    (repeat (refine List.forall_mem_cons.mpr ⟨by k_ne, ?_⟩))
                    intro p hp
                    exact Nat.ne_of_lt (Nat.lt_trans (hAl p hp) (by omega))
                  case t =>
                    intro i2 v u3 h3 tk3 own I c3 hv nfe hfI hrI F4 N4
                    clear F3 N3
                    k_steps
                    rename Fr _ _ _ _ => F5
                    rename News _ _ _ _ => N5
                    have ev := take_snoc hv
                    refine' ⟨_, _, _, _, rfl, F5, ?N, ⟨_, rfl⟩, ?I, ?m⟩
                    case N => (simp only [List.cons_append, List.append_assoc, ev] at N5 ⊢); exact N5
                    case I => exact List.forall_mem_cons.mpr ⟨hfI, hrI⟩
                    case m => intro y h1 h2; simp only [if_neg h1, h2, Bool.false_eq_true, if_false]
                  intro u3 h3 tk3 c3 F4 N4
                  clear F3 N3
                  exact by
                    have sg14 := Mine.Stage.mk 14
                    rename Frag.In _ _ => X0
                    revert X0; intro X0
                    have hnl : (refs E).length / 2 < E.length := by omega
                    obtain ⟨E1, eu, E2, hE12, hE1l, htk, hdp⟩ := half_parts hnl
                    rw [hdp, htk] at N4
                    have hfd : ((kv.length : Int)).fdiv 2 = ((E1.length : Nat) : Int) := by
                      rw [Int.fdiv_eq_ediv_of_nonneg _ (by decide), hE1l, hrl, hl9, hkl]; omega
                    simp only [hfd] at F4
                    have hum : eu ∈ E := by rw [hE12]; simp
                    have hu1 : (eu.a, instObj 328 eu.d) ∈ entObjs E := entObjs_inst hum
                    have hu2 := entObjs_dict hum
                    obtain ⟨_, _, _, _, _, _, _, _, _, _, huo⟩ := hG eu hum
                    rw [huo] at hu2
                    have hE2l : (refs E2).length ≤ 1000 := by
                      have := congrArg List.length hE12
                      simp at this
                      simp [refs]; omega
                    have heu : E[E1.length]? = some eu := by rw [hE12]; simp
                    rename IntsAre kv ks => hk
                    rename IntsAre pv ps => hp
                    obtain ⟨ta, tb, tc9, ha1, ha2, ha3⟩ := hR.at hk hp heu
                    have hE1i : E1.length ≤ 7 := by omega
                    have hEl12 : E1.length + E2.length + 1 = i + 1 := by have := congrArg List.length hE12; simp at this; omega
                    have hG1 : Good _ E1 := fun e he => hG e (by rw [hE12]; simp [he])
                    have hG2 : Good _ E2 := fun e he => hG e (by rw [hE12]; simp [he])
                    have sub1 : ∀ p ∈ entObjs E1, p ∈ entObjs E := fun p hp => by rw [hE12, entObjs_append]; exact List.mem_append_left _ hp
                    have sub2 : ∀ p ∈ entObjs E2, p ∈ entObjs E := fun p hp => by rw [hE12, entObjs_append, entObjs_cons]; exact List.mem_append_right _ (.tail _ (.tail _ hp))
                    k_steps
                    unfold Halt
                    rename News _ _ _ _ => N5
                    refine' ne_same (x1 := [_, _, _]) (y1 := [_, _, _]) N5 ?m0 ?p0 ?i1 ?j1 ?hu ?_
                    case m0 => k_mem
                    case p0 => k_mem
                    case i1 => exact .cons _ _ (.cons _ _ (.cons _ _ .nil))
                    case j1 => exact .cons _ _ (.cons _ _ (.cons _ _ .nil))
                    case hu => exact Nat.le_of_ble_eq_true rfl
                    k_steps
                    unfold Halt
                    rename News _ _ _ _ => N6
                    obtain ⟨w1, w2, w3⟩ := hR.lower hE12
                    refine' ne_rows N6 ?m0 ?m1 ?m2 ?m3 ?p0 ?p1 ?p2 ?p3 ?i1 ?i2 ?i3 ?j1 ?j2 ?j3 ?hu ?_
                    case m0 => k_mem
                    case m1 => k_mem
                    case m2 => k_mem
                    case m3 => k_mem
                    case p0 => k_mem
                    case p1 => k_mem
                    case p2 => k_mem
                    case p3 => k_mem
                    case i1 => with_reducible assumption
                    case i2 => with_reducible assumption
                    case i3 => with_reducible assumption
                    case j1 => rw [← w1, Int.toNat_natCast]; exact hk.take _
                    case j2 => rw [← w2, Int.toNat_natCast]; exact hp.take _
                    case j3 => rw [← w3, show ((E1.length : Int) + 1).toNat - (1 : Int).toNat = E1.length from by omega]; exact (hp.drop 1).take _
                    case hu => exact Nat.le_of_ble_eq_true rfl
                    k_steps
                    unfold Halt
                    rename News _ _ _ _ => N7
                    obtain ⟨w4, w5, w6⟩ := hR.upper hE12
                    have q2 : ((E1.length : Int) + 1).toNat = E1.length + 1 := by omega
                    have q3 : ((E1.length : Int) + 2).toNat = E1.length + 2 := by omega
                    refine' ne_rows N7 ?m0 ?m1 ?m2 ?m3 ?p0 ?p1 ?p2 ?p3 ?i1 ?i2 ?i3 ?j1 ?j2 ?j3 ?hu ?_
                    case m0 => k_mem
                    case m1 => k_mem
                    case m2 => k_mem
                    case m3 => k_mem
                    case p0 => k_mem
                    case p1 => k_mem
                    case p2 => k_mem
                    case p3 => k_mem
                    case i1 => with_reducible assumption
                    case i2 => with_reducible assumption
                    case i3 => with_reducible assumption
                    case j1 => rw [← w4, q2]; exact hk.drop _
                    case j2 => rw [← w5, q2, hpl, hR.plen]; exact (hp.drop _).take _
                    case j3 => rw [← w6, q3]; exact hp.drop _
                    case hu => exact Nat.le_of_ble_eq_true rfl
                    exact by
                      have sg15 := Mine.Stage.mk 15
                      rename Frag.In _ _ => X0
                      revert X0; intro X0
                      rename Below _ _ _ _ => K1
                      have N8 := News.narrow N7 sub2
                      clear N7 N2 F2 N4 F4
                      k_steps
                      ·
                        exact by
                          have sg16 := Mine.Stage.mk 16
                          rename Frag.In _ _ => X0
                          revert X0; intro X0
                          rename Below _ _ _ _ => K1
                          unfold Halt
                          have hE2n : E2 = [] := List.length_eq_zero_iff.mp (by omega)
                          subst hE2n
                          have hke := (hR.ends hi).2 eu.k (by rw [← hR.keys]; exact List.mem_map_of_mem hum)
                          rename Fr _ _ _ _ => F9
                          rename News _ _ _ _ => N9
                          refine' found_0 K1 F9 X0 ?T N9 X0 ?TB rfl rfl rfl rfl ?room ?un ?hx ?hdx IsNode.mk ?hel (Holds.of hG2 (fun p hp => ?hE)) ?hcf ?hcd sought_nil hke.1 hke.2 ?hgt ?_
                          case T => k_asm
                          case TB => k_asm
                          case room => k_room
                          case un => k_units
                          case hx => k_mem
                          case hdx => k_mem
                          case hel => k_mem
                          case hcf => k_mem
                          case hcd => k_mem
                          case hE => cases hp
                          case hgt => intro e he; simp at he
                          intro h' tk' F10 N10
                          k_steps
                          unfold Halt
                          rename Fr _ _ _ _ => F11
                          rename News _ _ _ _ => N11
                          refine' taken_0 K1 F11 X0 ?T N11 X0 ?TB rfl rfl rfl rfl ?room ?un ?hx ?hdx IsNode.mk ?hel (Holds.of hG2 (fun p hp => ?hE)) ?hcf ?hcd sought_nil hke.1 hke.2 ?hgt ?_
                          case T => k_asm
                          case TB => k_asm
                          case room => k_room
                          case un => k_units
                          case hx => k_mem
                          case hdx => k_mem
                          case hel => k_mem
                          case hcf => k_mem
                          case hcd => k_mem
                          case hE => cases hp
                          case hgt => intro e he; simp at he
                          intro h' tk' F12 N12
                          k_steps
                      ·
                        exact by
                          have sg16 := Mine.Stage.mk 16
                          have sg17 := Mine.Stage.mk 17
                          rename Frag.In _ _ => X0
                          revert X0; intro X0
                          rename Below _ _ _ _ => K1
                          unfold Halt
                          rename Fr _ _ _ _ => F9
                          rename News _ _ _ _ => N9
                          have tst2 : ∀ p ∈ entObjs E2, p.1 ≠ _ := fun p hp => tst p (sub2 p hp)
                          refine' next_K hI hlen K1 F9 X0 ?T N9 ?hl ?U rfl rfl rfl ?room ?d1 ?hc ?hc2 ?hlim ?_
                          case T => k_asm
                          case hl => k_mem
                          case U => k_updF
                          case room => k_room
                          case d1 => k_ne
                          case hc => omega
                          case hc2 => omega
                          case hlim => omega
                          intro h' tk' r' tc' tr' F' N' hr1'
                          have hr2 : r' < E2.length := by omega
                          obtain ⟨U, ex, V, hUV, hUl⟩ := cut_row hr2
                          have hex : E[E1.length + 1 + r']? = some ex := by rw [hE12, hUV, ← hUl, Nat.add_right_comm]; simp [Nat.add_assoc]
                          obtain ⟨y1, y2, y3, hy1, hy2, hy3⟩ := hR.at hk hp hex
                          have z1 : ((E1.length : Int) + 1 + (r' : Int)).toNat = E1.length + 1 + r' := by omega
                          have z2 : ((E1.length : Int) + 1 + (r' : Int) + 1).toNat = E1.length + 1 + r' + 1 := by omega
                          rw [← z1] at hy1 hy2
                          rw [← z2] at hy3
                          have tc3 := cell_ne N9 (fun p hp => by have := (hab p (sub2 p hp)).1; omega)
                          k_steps
                          exact by
                            have sg18 := Mine.Stage.mk 18
                            rename Frag.In _ _ => X0
                            revert X0; intro X0
                            rename Below _ _ _ _ => K1
                            unfold Halt
                            rename Fr _ _ _ _ => F10
                            rename News _ _ _ _ => N10
                            have hP2 : (E2.map Ent.k).Pairwise (· < ·) := by rw [← w4]; exact (hR.ends hi).1.drop
                            have hEk : ex ∈ E := List.mem_of_getElem? hex
                            have hkx := (hR.ends hi).2 ex.k (by rw [← hR.keys]; exact List.mem_map_of_mem hEk)
                            have hE2n : E2.length ≤ 1000 := by omega
                            have hex2 : E2[U.length]? = some ex := by rw [hUV]; simp
                            have hS : Sought E2 ex.k U.length := by rw [hUV] at hP2 hE2n ⊢; exact sought_at hP2 hE2n
                            refine wpAny_call ?_
                            refine' found_1 K1 F10 X0 ?T N10 rfl rfl rfl ?room ?un ?hx ?hdx IsNode.mk ?hel (Holds.of hG2 (fun p hp => ?hE)) ?hcf ?hcd rfl hS hex2 ?_
                            case T => k_asm
                            case room => k_room
                            case un => k_units
                            case hx => k_mem
                            case hdx => k_mem
                            case hel => k_mem
                            case hcf => k_mem
                            case hcd => k_mem
                            case hE => (repeat (first | exact hp | refine List.mem_cons_of_mem _ ?_))
                            intro h' tk' o' u1' u2' u3' F' N' l1
                            (try k_lt l1)
                            k_steps
                            unfold Halt
                            rename News _ _ _ _ => N12
                            refine' ne_trip N12 ?m0 ?p0 rfl rfl rfl ?hu ?_
                            case m0 => k_mem
                            case p0 => k_mem
                            case hu => exact Nat.le_of_ble_eq_true rfl
                            k_steps
                            exact by
                              have sg19 := Mine.Stage.mk 19
                              rename Frag.In _ _ => X0
                              revert X0; intro X0
                              rename Below _ _ _ _ => K1
                              unfold Halt
                              rename Fr _ _ _ _ => F13
                              rename News _ _ _ _ => N13
                              have N14 := News.drop1 (News.drop1 N13)
                              clear N13
                              refine wpAny_call ?_
                              refine' taken_1 K1 F13 X0 ?T N14 rfl rfl rfl ?room ?un ?hne ?hx ?hdx IsNode.mk (Holds.of hG2 (fun p hp => ?hE)) ?hcf ?hcd rfl hS hex2 (vs := refs U) (v := .ref ex.a) (ws := refs V) ?hs ?hp ?_
                              case T => k_asm
                              case room => k_room
                              case un => k_units
                              case hne => ((repeat (refine List.forall_mem_cons.mpr ⟨by k_ne, ?_⟩)); (intro p hp; exact Nat.ne_of_lt (Nat.lt_trans (hAl p (sub2 p hp)) (by omega))))
                              case hx => k_mem
                              case hdx => k_mem
                              case hcf => k_mem
                              case hcd => k_mem
                              case hE => (repeat (first | exact hp | refine List.mem_cons_of_mem _ ?_))
                              case hs => rw [hUV]; exact refs_cut
                              case hp => simp [refs]
                              intro h' tk' c' F' N'
                              rw [← refs_but] at N'
                              have hP3 : ((U ++ ex :: V).map Ent.k).Pairwise (· < ·) := by rw [← hUV]; exact hP2
                              obtain ⟨hS2, hgt2⟩ := sought_but hP3 (by rw [← hUV]; exact hE2n)
                              have hG3 : Good _ (U ++ V) := fun e he => hG2 e (by rw [hUV]; simp only [List.mem_append, List.mem_cons] at he ⊢; exact he.imp id .inr)
                              have sub3 : ∀ p ∈ entObjs (U ++ V), p ∈ entObjs E2 := fun p hp => by
                                rw [hUV, entObjs_append, entObjs_cons]
                                rw [entObjs_append] at hp
                                exact (List.mem_append.mp hp).elim (fun q => List.mem_append_left _ q) fun q => List.mem_append_right _ (.tail _ (.tail _ q))
                              k_steps
                              unfold Halt
                              rename Fr _ _ _ _ => F15
                              rename News _ _ _ _ => N15
                              refine' found_0 K1 F15 X0 ?T N15 X0 ?TB rfl rfl rfl rfl ?room ?un ?hx ?hdx IsNode.mk ?hel (Holds.of hG3 (fun p hp => ?hE)) ?hcf ?hcd hS2 hkx.1 hkx.2 hgt2 ?_
                              case T => k_asm
                              case TB => k_asm
                              case room => k_room
                              case un => k_units
                              case hx => k_mem
                              case hdx => k_mem
                              case hel => k_mem
                              case hcf => k_mem
                              case hcd => k_mem
                              case hE => have hq := sub3 p hp; (repeat (first | exact hq | refine List.mem_cons_of_mem _ ?_))
                              intro h' tk' F' N'
                              k_steps
                              unfold Halt
                              rename Fr _ _ _ _ => F16
                              rename News _ _ _ _ => N16
                              refine' taken_0 K1 F16 X0 ?T N16 X0 ?TB rfl rfl rfl rfl ?room ?un ?hx ?hdx IsNode.mk ?hel (Holds.of hG3 (fun p hp => ?hE)) ?hcf ?hcd hS2 hkx.1 hkx.2 hgt2 ?_
                              case T => k_asm
                              case TB => k_asm
                              case room => k_room
                              case un => k_units
                              case hx => k_mem
                              case hdx => k_mem
                              case hel => k_mem
                              case hcf => k_mem
                              case hcd => k_mem
                              case hE => have hq := sub3 p hp; (repeat (first | exact hq | refine List.mem_cons_of_mem _ ?_))
                              intro h' tk' F' N'
                              k_steps
                              exact by
                                have sg20 := Mine.Stage.mk 20
                                rename Frag.In _ _ => X0
                                revert X0; intro X0
                                rename Below _ _ _ _ => K1
                                unfold Halt
                                rename Fr _ _ _ _ => F17
                                rename News _ _ _ _ => N17
                                rename IsRange _ _ _ _ _ _ _ _ => rg2
                                have hE2c : E2.length = U.length + 1 + V.length := by rw [hUV]; simp; omega
                                refine LCt.CompSrcT.range (n := U.length + 1 + V.length) (by rfl) F17 N17 rg2 (small_one (by omega) (by omega) (by omega) (by omega)) (by rw [rangeSize_nat]; congr 1; omega) (by rw [sizeLine_eq]; omega) ?_
                                intro g'
                                refine comp_test (fun z => z != ((E1.length : Int) + 1 + (r' : Int))) ?zqstep ?zqstepv ?_
                                case zqstep =>
                                  intro z hz1 hz2 t I oI C oC D ys m2 h tk E' Q hC hx F18 N18 hk9
                                  k_steps
                                  refine' hk9 _ _ ?_ ?_
                                  all_goals with_reducible assumption
                                case zqstepv =>
                                  intro z hz1 hz2 t I oI C oC D ys m2 h tk E' Q hC hx F18 N18 hk9
                                  k_steps
                                  refine' hk9 _ _ _ ?_ ?_
                                  all_goals with_reducible assumption
                                intro ys hys
                                have hrw : E = E1 ++ eu :: (U ++ ex :: V) := by rw [← hUV]; exact hE12
                                have hlk := left_row Ent.k hrw hUl
                                have hlb := left_row Ent.b hrw hUl
                                have hlf := left_row Ent.f hrw hUl
                                have hlm : ∀ z ∈ (upFrom ((E1.length : Int) + 1) (U.length + 1 + V.length)).filter (fun z => z != (E1.length : Int) + 1 + (r' : Int)), 0 ≤ z ∧ z < (E.length : Int) := fun z hz => by have := left_mem hz; omega
                                obtain ⟨nsL, hysL, hlk, hlb, hlf, hlm⟩ : ∃ nsL, IntsAre ys nsL ∧ nsL.map (fun z => (E.map Ent.k).getD z.toNat 0) = (U ++ V).map Ent.k ∧ nsL.map (fun z => (E.map Ent.b).getD z.toNat 0) = (U ++ V).map Ent.b ∧ nsL.map (fun z => (E.map Ent.f).getD z.toNat 0) = (U ++ V).map Ent.f ∧ ∀ z ∈ nsL, 0 ≤ z ∧ z < (E.length : Int) := ⟨_, hys, hlk, hlb, hlf, hlm⟩
                                clear hys
                                have hUVl : (U ++ V).length ≤ 1000 := by simp; omega
                                have hyl := hysL.length
                                k_steps
                                exact by
                                  have sg21 := Mine.Stage.mk 21
                                  rename Frag.In _ _ => X0
                                  revert X0; intro X0
                                  rename Below _ _ _ _ => K1
                                  unfold Halt
                                  rename Fr _ _ _ _ => F19
                                  rename News _ _ _ _ => N19
                                  have hysn : ys.length ≤ 1000 := by rw [hyl, ← List.length_map (f := fun z => (E.map Ent.k).getD z.toNat 0), hlk, List.length_map]; exact hUVl
                                  refine' LCg.CompSrc.ledger (its := ys.toArray) rfl F19 N19 ?zqm ?zqz ?_
                                  case zqm => k_mem
                                  case zqz => rw [List.size_toArray, sizeLine_eq]; omega
                                  intro g1
                                  refine' comp_ints hysL (fun z => (E.map Ent.k).getD z.toNat 0) ?zqhel ?zqstep ?_
                                  case zqhel => k_mem
                                  case zqstep =>
                                    intro z hz t I oI C oC D ys2 m2 h tk E' Q hC hx F N hk9
                                    obtain ⟨e0, e1⟩ := hlm z hz
                                    obtain ⟨q1, q2, q3, v1, v2, v3⟩ := hR.at_z hk hp e0 e1
                                    k_steps
                                    refine' hk9 _ _ _ ?_ ?_
                                    all_goals with_reducible assumption
                                  intro ya hya
                                  rw [hlk] at hya
                                  k_steps
                                  exact by
                                    have sg22 := Mine.Stage.mk 22
                                    rename Frag.In _ _ => X0
                                    revert X0; intro X0
                                    rename Below _ _ _ _ => K1
                                    unfold Halt
                                    rename Fr _ _ _ _ => F19
                                    rename News _ _ _ _ => N19
                                    refine' LCg.CompSrc.ledger (its := ys.toArray) rfl F19 N19 ?zqm ?zqz ?_
                                    case zqm => k_mem
                                    case zqz => rw [List.size_toArray, sizeLine_eq]; omega
                                    intro g2
                                    refine' comp_ints hysL (fun z => (E.map Ent.b).getD z.toNat 0) ?zqhel ?zqstep ?_
                                    case zqhel => k_mem
                                    case zqstep =>
                                      intro z hz t I oI C oC D ys2 m2 h tk E' Q hC hx F N hk9
                                      obtain ⟨e0, e1⟩ := hlm z hz
                                      obtain ⟨q1, q2, q3, v1, v2, v3⟩ := hR.at_z hk hp e0 e1
                                      clear v1
                                      k_steps
                                      refine' hk9 _ _ _ ?_ ?_
                                      all_goals with_reducible assumption
                                    intro yb hyb
                                    rw [hlb] at hyb
                                    k_steps
                                    unfold Halt
                                    rename Fr _ _ _ _ => F20
                                    rename News _ _ _ _ => N20
                                    refine' LCg.CompSrc.ledger (its := ys.toArray) rfl F20 N20 ?zqm ?zqz ?_
                                    case zqm => k_mem
                                    case zqz => rw [List.size_toArray, sizeLine_eq]; omega
                                    intro g3
                                    refine' comp_ints hysL (fun z => (E.map Ent.f).getD z.toNat 0) ?zqhel ?zqstep ?_
                                    case zqhel => k_mem
                                    case zqstep =>
                                      intro z hz t I oI C oC D ys2 m2 h tk E' Q hC hx F N hk9
                                      obtain ⟨e0, e1⟩ := hlm z hz
                                      obtain ⟨q1, q2, q3, v1, v2, v3⟩ := hR.at_z hk hp e0 e1
                                      k_steps
                                      refine' hk9 _ _ _ ?_ ?_
                                      all_goals with_reducible assumption
                                    intro yc hyc
                                    rw [hlf] at hyc
                                    k_steps
                                    unfold Halt
                                    rename News _ _ _ _ => N21
                                    refine' eq_rows N21 ?m0 ?m1 ?m2 ?m3 ?p0 ?p1 ?p2 ?p3 ?i1 ?i2 ?i3 ?j1 ?j2 ?j3 ?hu ?_
                                    case m0 => k_mem
                                    case m1 => k_mem
                                    case m2 => k_mem
                                    case m3 => k_mem
                                    case p0 => k_mem
                                    case p1 => k_mem
                                    case p2 => k_mem
                                    case p3 => k_mem
                                    case i1 => with_reducible assumption
                                    case i2 => with_reducible assumption
                                    case i3 => with_reducible assumption
                                    case j1 => exact hya
                                    case j2 => exact hyb
                                    case j3 => exact hyc
                                    case hu => exact Nat.le_of_ble_eq_true rfl
                                    k_steps
