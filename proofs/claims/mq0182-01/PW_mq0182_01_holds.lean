import PyProof.Rows.All
import Wide.All
import OpenK.AllK
import Wide.FinOn
import PySem.Challenge.RW_mq0182_01
set_option Elab.async false
set_option maxRecDepth 100000
set_option linter.all false
namespace Mine
section PartHd
open PySem PySem.W PyProof.Rows
set_option maxHeartbeats 8000000 in
open_top hd for PySem.Challenge.rw_mq0182_01
end PartHd
section PartMBase
open PySem PySem.W PySem.Calls PyProof.Rows

/-- all that was, is -/
noncomputable abbrev Ext (h h' : Heap) : Prop := ∀ b o, h.get? b = some o → h'.get? b = some o
theorem Ext.refl (h : Heap) : Ext h h := fun _ _ e => e
theorem Ext.trans {a b c : Heap} (x : Ext a b) (y : Ext b c) : Ext a c := fun p o e => y p o (x p o e)
theorem Ext.push (h : Heap) (o : Obj) : Ext h (h.push o) := fun _ _ e => Heap.get?_push_of_some _ e
theorem Ext.none {a b : Heap} {l : Addr} (x : Ext a b) (e : b.get? l = none) : a.get? l = none := by
  cases q : a.get? l with
  | none => rfl
  | some o => rw [x _ _ q] at e; cases e

/-- the parts of the state that no step of ours turns -/
noncomputable abbrev Same (s₀ s : Shared) : Prop := s.gens = s₀.gens ∧ s.drawn = s₀.drawn ∧ s.os = s₀.os
theorem Same.refl (s : Shared) : Same s s := ⟨rfl, rfl, rfl⟩
theorem Same.trans {a b c : Shared} (x : Same a b) (y : Same b c) : Same a c := ⟨y.1.trans x.1, y.2.1.trans x.2.1, y.2.2.trans x.2.2⟩

/-- a frame at L with its names m; g: what stays for good; mu: the objects that may turn -/
structure Fx (g : Heap) (L : Addr) (mu : List (Addr × Obj)) (h : Heap) (m : Str → Option Value) : Prop where
  ns : h.Ns L m
  keep : Ext g h
  off : g.get? L = none
  mem : ∀ p ∈ mu, h.get? p.1 = some p.2 ∧ p.1 ≠ L ∧ g.get? p.1 = none
  nd : (mu.map (·.1)).Nodup

noncomputable def upd (m : Str → Option Value) (x : Str) (v : Value) : Str → Option Value := fun y => if y = x then some v else m y
theorem upd_here {m : Str → Option Value} {x : Str} {v : Value} : upd m x v x = some v := if_pos rfl
theorem upd_there {m : Str → Option Value} {x y : Str} {v : Value} {r : Option Value} (h : (y == x) = false) (e : m y = r) : upd m x v y = r := by
  unfold upd; rw [if_neg (by simpa using h)]; exact e
noncomputable def mapOf (binds : List (Str × Value)) : Str → Option Value := binds.foldl (fun m p => upd m p.1 p.2) (fun _ => none)
theorem mapOf_eq (binds : List (Str × Value)) : (fun x => binds.reverse.lookup x) = mapOf binds := by
  have : ∀ r : List (Str × Value), (fun x => r.lookup x) = mapOf r.reverse := by
    intro r
    induction r with
    | nil => rfl
    | cons p r ih =>
      obtain ⟨n, v⟩ := p
      funext x
      unfold mapOf
      rw [List.reverse_cons, List.foldl_append]
      show List.lookup x ((n, v) :: r) = upd (mapOf r.reverse) n v x
      rw [← ih]
      unfold upd
      rw [List.lookup_cons]
      by_cases hx : x = n
      · subst hx; simp
      · have hb : (x == n) = false := beq_eq_false_iff_ne.mpr hx
        simp [hb, hx]
  have h := this binds.reverse
  rw [List.reverse_reverse] at h
  exact h

section
variable {g g' h h' : Heap} {L : Addr} {mu : List (Addr × Obj)} {m m' : Str → Option Value}

theorem Fx.ext (F : Fx g L mu h m) (x : Ext h h') : Fx g L mu h' m :=
  ⟨F.ns.keeps x, F.keep.trans x, F.off, fun p hp => ⟨x _ _ (F.mem p hp).1, (F.mem p hp).2⟩, F.nd⟩
theorem Fx.weaken (F : Fx g' L mu h m) (x : Ext g g') : Fx g L mu h m :=
  ⟨F.ns, x.trans F.keep, x.none F.off, fun p hp => ⟨(F.mem p hp).1, (F.mem p hp).2.1, x.none (F.mem p hp).2.2⟩, F.nd⟩
theorem Fx.set (F : Fx g L mu h m) (hn : h'.Ns L m') (hs : Heap.SameBut L h h') : Fx g L mu h' m' :=
  ⟨hn, fun b o e => (hs.2 b (fun q => by rw [q, F.off] at e; cases e)).trans (F.keep b o e), F.off,
    fun p hp => ⟨(hs.2 _ (F.mem p hp).2.1).trans (F.mem p hp).1, (F.mem p hp).2⟩, F.nd⟩
theorem Fx.rebase (F : Fx g L mu h m) : ∃ g', Ext g g' ∧ Fx g' L mu h m ∧ ∀ b o, b ≠ L → b ∉ mu.map (·.1) → h.get? b = some o → g'.get? b = some o := by
  refine ⟨hideAll h (L :: mu.map (·.1)), fun b o e => ?_, ⟨F.ns, fun b o e => of_hideAll _ e, hideAll_none _ (.head _), fun p hp => ⟨(F.mem p hp).1, (F.mem p hp).2.1, ?_⟩, F.nd⟩, fun b o h1 h2 e => ?_⟩
  · refine hideAll_get _ (F.keep b o e) fun q => ?_
    rcases List.mem_cons.mp q with q | q
    · rw [q, F.off] at e; cases e
    · obtain ⟨p, hp, rfl⟩ := List.mem_map.mp q
      rw [(F.mem p hp).2.2] at e; cases e
  · exact hideAll_none _ (.tail _ (List.mem_map_of_mem hp))
  · refine hideAll_get _ e fun q => ?_
    rcases List.mem_cons.mp q with q | q
    · exact h1 q
    · exact h2 q
/-- a new object that stays -/
theorem Fx.fresh (F : Fx g L mu h m) (x : Ext h h') : ∃ g', Ext g g' ∧ Fx g' L mu h' m ∧ ∀ b o, h.get? b = none → h'.get? b = some o → g'.get? b = some o := by
  obtain ⟨g', e1, F', k⟩ := (F.ext x).rebase
  refine ⟨g', e1, F', fun b o hn ho => k b o (fun q => ?_) (fun q => ?_) ho⟩
  · obtain ⟨oL, _, _, hL, _⟩ := F.ns
    rw [← q, hn] at hL; cases hL
  · obtain ⟨p, hp, rfl⟩ := List.mem_map.mp q
    rw [(F.mem p hp).1] at hn; cases hn
theorem get?_size_none (h : Heap) : h.get? h.objs.size = none := by
  cases q : h.get? h.objs.size with
  | none => rfl
  | some o => exact absurd (Heap.lt_size q) (Nat.lt_irrefl _)
theorem Fx.push (F : Fx g L mu h m) (o : Obj) (hf : o.isFreed = false) : ∃ g', Ext g g' ∧ Fx g' L mu (h.push o) m ∧ g'.get? h.objs.size = some o := by
  obtain ⟨g', e1, F', k⟩ := F.fresh (Ext.push h o)
  exact ⟨g', e1, F', k _ _ (get?_size_none h) (Heap.get?_push_size _ hf)⟩
/-- a new object that may turn -/
theorem Fx.pushMu (F : Fx g L mu h m) (o : Obj) (hf : o.isFreed = false) : Fx g L ((h.objs.size, o) :: mu) (h.push o) m := by
  have F' := F.ext (Ext.push h o)
  refine ⟨F'.ns, F'.keep, F'.off, fun p hp => ?_, ?_⟩
  · rcases List.mem_cons.mp hp with rfl | hp
    · exact ⟨Heap.get?_push_size _ hf, Nat.ne_of_gt F.ns.lt, F.keep.none (get?_size_none h)⟩
    · exact F'.mem p hp
  · refine List.nodup_cons.mpr ⟨fun q => ?_, F.nd⟩
    obtain ⟨p, hp, e⟩ := List.mem_map.mp q
    have := (F.mem p hp).1
    rw [e, get?_size_none] at this; cases this
theorem Fx.addMu {a : Addr} {o : Obj} (F : Fx g L mu h m) (ha : h.get? a = some o) (hL : a ≠ L) (hg : g.get? a = none) (hm : a ∉ mu.map (·.1)) : Fx g L ((a, o) :: mu) h m :=
  ⟨F.ns, F.keep, F.off, fun p hp => (List.mem_cons.mp hp).elim (fun q => q ▸ ⟨ha, hL, hg⟩) (F.mem p), List.nodup_cons.mpr ⟨hm, F.nd⟩⟩
/-- the head of the turning ones turns -/
theorem Fx.turn {l : Addr} {o o' : Obj} (F : Fx g L ((l, o) :: mu) h m) (hs : Heap.SameBut l h h') (ho : h'.get? l = some o') : Fx g L ((l, o') :: mu) h' m := by
  have H := F.mem _ (.head _)
  refine ⟨F.ns.sameBut hs (Ne.symm H.2.1), fun b ob e => (hs.2 b (fun q => by rw [q, H.2.2] at e; cases e)).trans (F.keep b ob e), F.off, fun p hp => ?_, F.nd⟩
  rcases List.mem_cons.mp hp with rfl | hp
  · exact ⟨ho, H.2⟩
  · have P := F.mem p (.tail _ hp)
    refine ⟨(hs.2 _ fun q => ?_).trans P.1, P.2⟩
    have := (List.nodup_cons.mp F.nd).1
    exact this (List.mem_map.mpr ⟨p, hp, q⟩)
theorem Fx.swap {p q : Addr × Obj} (F : Fx g L (p :: q :: mu) h m) : Fx g L (q :: p :: mu) h m := by
  refine ⟨F.ns, F.keep, F.off, fun r hr => F.mem r ?_, ?_⟩
  · rcases List.mem_cons.mp hr with rfl | hr
    · exact .tail _ (.head _)
    · rcases List.mem_cons.mp hr with rfl | hr
      · exact .head _
      · exact .tail _ (.tail _ hr)
  · have := F.nd
    simp only [List.map_cons, List.nodup_cons, List.mem_cons, not_or] at this ⊢
    exact ⟨⟨fun e => this.1.1 e.symm, this.2.1⟩, this.1.2, this.2.2⟩
/-- the head of the turning ones turns no more -/
theorem Fx.freeze {l : Addr} {o : Obj} (F : Fx g L ((l, o) :: mu) h m) : ∃ g', Ext g g' ∧ Fx g' L mu h m ∧ g'.get? l = some o := by
  have H := F.mem _ (.head _)
  have F' : Fx g L mu h m := ⟨F.ns, F.keep, F.off, fun p hp => F.mem p (.tail _ hp), (List.nodup_cons.mp F.nd).2⟩
  obtain ⟨g', e1, F2, k⟩ := F'.rebase
  exact ⟨g', e1, F2, k _ _ H.2.1 (List.nodup_cons.mp F.nd).1 H.1⟩
theorem Fx.tail {p : Addr × Obj} (F : Fx g L (p :: mu) h m) : Fx g L mu h m :=
  ⟨F.ns, F.keep, F.off, fun q hq => F.mem q (.tail _ hq), (List.nodup_cons.mp F.nd).2⟩
end

noncomputable abbrev St (s₀ : Shared) (g : Heap) (L : Addr) (mu : List (Addr × Obj)) (m : Str → Option Value) (s : Shared) : Prop := Same s₀ s ∧ Fx g L mu s.heap m

/-- what the text's top has laid -/
noncomputable abbrev Kf (w : World) : Frag := Mine.hd.heap_39 w.params
structure Gd (w : World) (h : Heap) : Prop where
  k : (Kf w).In h
  top : ∃ mg mb, h.Ns mainGlobals mg ∧ h.Ns builtinsNs mb ∧ (∀ x : Str, x ≠ "__name__" → mb x = bootBuiltins x)
  lim : h.NoLimit
theorem Gd.keeps {w : World} {h h' : Heap} (G : Gd w h) (x : Ext h h') : Gd w h' :=
  ⟨G.k.keeps x, let ⟨mg, mb, a, b, c⟩ := G.top; ⟨mg, mb, a.keeps x, b.keeps x, c⟩, G.lim.keeps x⟩

noncomputable abbrev NoE : Value → Shared → Prop := fun _ _ => False

section
variable {prog : Program} {w : World} {A : Around} {E : Value → Shared → Prop} {s s₀ : Shared} {env : Env} {g : Heap} {L : Addr} {mu : List (Addr × Obj)} {m : Str → Option Value}

theorem ldL {x : Str} {pos : Pos} {v : Value} {Q : Value → Shared → Prop} (F : St s₀ g L mu m s) (hv : m x = some v) (h : Q v s)
    (hk : env.scope.kind = .function := by kernel_rfl) (hl : env.kindOf x = some .local := by kernel_rfl) (hL : env.locals = L := by kernel_rfl)
    (hd : (x == ("__debug__" : Str)) = false := by kernel_rfl) :
    wpAny (model prog w) A (eval (.Name x pos) env) Q E s := wpAny_Name (wpAny_loadName_local hk hl (hL ▸ F.2.ns) hv h) hd
theorem ldnL {x : Str} {v : Value} {Q : Value → Shared → Prop} (F : St s₀ g L mu m s) (hv : m x = some v) (h : Q v s)
    (hk : env.scope.kind = .function := by kernel_rfl) (hl : env.kindOf x = some .local := by kernel_rfl) (hL : env.locals = L := by kernel_rfl) :
    wpAny (model prog w) A (loadName env x) Q E s := wpAny_loadName_local hk hl (hL ▸ F.2.ns) hv h
theorem stL {x : Str} {v : Value} {Q : Unit → Shared → Prop} (F : St s₀ g L mu m s)
    (h : ∀ s', St s₀ g L mu (upd m x v) s' → Q () s')
    (hk : env.scope.kind = .function := by kernel_rfl) (hl : env.kindOf x = some .local := by kernel_rfl) (hL : env.locals = L := by kernel_rfl) :
    wpAny (model prog w) A (storeName env x v) Q E s := by
  subst hL
  exact wpAny_storeName_local hl F.2.ns (fun h' hn hs => h _ ⟨F.1, F.2.set hn hs⟩) (by rw [hk]; rfl)
/-- a name of the text's top -/
theorem ldK {x : Str} {pos : Pos} {v : Value} {Q : Value → Shared → Prop} (G : Gd w g) (F : St s₀ g L mu m s) (e : nsIn (Kf w) mainGlobals x = some (some v)) (h : Q v s)
    (hk : env.scope.kind = .function := by kernel_rfl) (hx : env.kindOf x = some .globalImplicit := by kernel_rfl) (hg : env.globals = mainGlobals := by kernel_rfl)
    (hd : (x == ("__debug__" : Str)) = false := by kernel_rfl) :
    wpAny (model prog w) A (eval (.Name x pos) env) Q E s := by
  obtain ⟨mg, mb, a, b, c⟩ := (G.keeps F.2.keep).top
  exact Name_function_global hk hx (loadGlobal_global (by rw [hg]; exact a) (mg_of (G.k.keeps F.2.keep) a e) h) hd
/-- a built-in's name -/
theorem ldB {x : Str} {pos : Pos} {v : Value} {Q : Value → Shared → Prop} (G : Gd w g) (F : St s₀ g L mu m s) (hv : bootBuiltins x = some v) (h : Q v s)
    (e : nsIn (Kf w) mainGlobals x = some none := by kernel_rfl) (hn : x ≠ "__name__" := by decide)
    (hk : env.scope.kind = .function := by kernel_rfl) (hx : env.kindOf x = some .globalImplicit := by kernel_rfl) (hg : env.globals = mainGlobals := by kernel_rfl) (hb : env.builtins = builtinsNs := by kernel_rfl)
    (hd : (x == ("__debug__" : Str)) = false := by kernel_rfl) :
    wpAny (model prog w) A (eval (.Name x pos) env) Q E s := by
  obtain ⟨mg, mb, a, b, c⟩ := (G.keeps F.2.keep).top
  exact Name_function_global hk hx (loadGlobal_builtin (by rw [hg]; exact a) (mg_none_of (G.k.keeps F.2.keep) a e) (by rw [hb]; exact b) ((c x hn).trans hv) h) hd

/-- what a pure def of the text comes back with -/
noncomputable def Ret (s₀ : Shared) (P : Value → Heap → Prop) (r : Result) (s' : Shared) : Prop := ∃ v, r = .ok (.ret v) ∧ Ext s₀.heap s'.heap ∧ Same s₀ s' ∧ P v s'.heap
theorem Ret.mk {P : Value → Heap → Prop} {v : Value} {s' : Shared} (x : Ext s₀.heap s'.heap) (y : Same s₀ s') (p : P v s'.heap) : Ret s₀ P (.ok (.ret v)) s' := ⟨v, rfl, x, y, p⟩

theorem enter {f : Addr} {o : Obj} {fd : FuncData} {body : List Stmt} {args : List Value} {binds : List (Str × Value)} {P : Value → Heap → Prop}
    (G : Gd w s.heap) (ho : (Kf w).lookup f = some o) (hdata : o.data = .func fd) (hroom : A.depth < recursionLimit)
    (hbody : fd.body = .stmts body) (hbind : bindArgs fd ⟨args, []⟩ = pure binds) (hcd : codeIn (Kf w) fd.code fd.qualname = true)
    (hcell : (fd.scope.names.all fun x => x.2 != .cell) = true) (hloc : (binds.all fun x => fd.scope.names.lookup x.1 == some .local) = true)
    (h : ∀ (A' : Around) s', A'.handled = A.handled → A'.depth = A.depth + 1 → A'.units = A.units + 3 → St s s.heap s.heap.objs.size [] (mapOf binds) s' →
      let env := callEnv fd s.heap.objs.size f
      wpAny (model prog w) A' (execs body env) (fun fl s' => Ret s P (.ok (.ret (match fl with | .ret v => v | _ => .none))) s') NoE s')
    (hco : fd.scope.isCoroutine = false) (hgen : fd.scope.isGenerator = false) (hk : fd.scope.kind = .function) :
    codeAny (model prog w) A (.call (.ref f) ⟨args, []⟩) (Ret s P) s := by
  refine codeAny_call_def hroom (G.k _ _ ho) hdata G.lim (codeRec_of G.k hcd) hbody (BindsTo.of_eq hbind) (fun x hx => ?_) (fun x hx => ?_) (fun h₀ hn hk₀ => ?_) hco hgen hk
  · have := List.all_eq_true.mp hcell x hx
    intro q; rw [q] at this; cases this
  · have := List.all_eq_true.mp hloc x hx
    simpa using this
  · rw [mapOf_eq] at hn
    refine wpAny_mono (h (A.deeper (callEnv fd s.heap.objs.size f)) { s with heap := h₀, toks := s.toks + binds.length } rfl rfl rfl ⟨⟨rfl, rfl, rfl⟩, ⟨hn, hk₀, get?_size_none _, (fun p hp => nomatch hp), List.nodup_nil⟩⟩) (fun _ _ x => x) fun _ _ x => x.elim

/-- a call of a pure def -/
theorem callSpec {f : Addr} {args : List Value} {P : Value → Heap → Prop} {Q : Value → Shared → Prop}
    (h : codeAny (model prog w) A (.call (.ref f) ⟨args, []⟩) (Ret s P) s) (k : ∀ v s', Ext s.heap s'.heap → Same s s' → P v s'.heap → Q v s') : wpAny (model prog w) A (call (.ref f) args) Q E s := by
  refine wpAny_call (codeAny_mono h fun r s' hr => ?_)
  obtain ⟨v, rfl, x, y, p⟩ := hr
  exact k v s' x y p
end
end PartMBase
section PartMSub
open PySem PySem.W PySem.Calls PyProof.Rows
theorem sub_str_str' : isSubtype (.type "str") (.type "str") = pure true := by rw [isSubtype_type]; kernel_rfl
theorem meta_str' : typeOf (.type "str") = pure (.type "type") := by kernel_rfl
theorem kind_isn : builtinKind "issubclass.nested" = none := by decide +kernel
theorem plain_isn : plainId "issubclass.nested" = true := by decide +kernel
theorem args_isn (a b c : Value) : argsOk "issubclass.nested" ⟨[a, b, c], []⟩ := by unfold argsOk; kernel_rfl
section
variable {prog : Program} {w : World} {A : Around} {E : Value → Shared → Prop} {s : Shared}
theorem isn_str {dep : Int} {tk : Tok} {Q : Fin → Shared → Prop} (hq : Q (.done (.ret (.bool true))) s) :
    wpAny (model prog w) A (Builtin.«issubclass.nested» ⟨[.type "str", .type "str", .int dep tk], []⟩) Q E s := by
  have hm := meta_str'
  have hself := sub_str_str'
  repeat (any_goals (first | assumption | (rw [if_pos hm]) | (rw [hself]) | wp_step))
theorem isn_str_meets (dep : Int) (tk : Tok) : Meets (Builtin.«issubclass.nested» ⟨[.type "str", .type "str", .int dep tk], []⟩) (fun _ R s => R (.ok (.ret (.bool true))) s) :=
  fun _ _ _ _ _ hs => isn_str hs
theorem isn_tuple {tp : Addr} {cs rest : List Value} {tk : Tok} {Q : Fin → Shared → Prop} (hcs : cs = .type "str" :: rest) (htp : s.heap.get? tp = some { cls := .type "tuple", data := .seq cs.toArray })
    (hq : Q (.done (.ret (.bool true))) s) : wpAny (model prog w) A (Builtin.«issubclass.nested» ⟨[.type "str", .ref tp, .int 0 tk], []⟩) Q E s := by
  obtain ⟨h, g, d, t, os⟩ := s
  have hT2 : (⟨h, g, d, t, os⟩ : Shared).TypeIs (.ref tp) "tuple" := ⟨_, htp, rfl⟩
  have f1 := F.isi_sub_tuple
  repeat (any_goals (first | assumption | wp_step))
  refine wpAny_arrayLoop ?_
  simp only [Option.getD_some, List.toList_toArray]
  subst hcs
  rw [List.forIn_cons]
  refine wpAny_bind (wpAny_bind (call_function_meets kind_isn plain_isn F.entry_issubclass_nested (args_isn _ _ _) (isn_str_meets _ _) ?_))
  show wpAny _ _ (truthy (.bool true) >>= _) _ _ _
  refine wpAny_bind (m := truthy (.bool true)) (wpAny_pure ?_)
  repeat (any_goals (first | assumption | wp_step))
theorem call_issub {tp : Addr} {y : Value} {Q : Value → Shared → Prop} (htp : s.heap.get? tp = some { cls := .type "tuple", data := .seq #[.type "str", y] }) (hq : Q (.bool true) s) :
    wpAny (model prog w) A (call (.builtin "issubclass") [.type "str", .ref tp]) Q E s :=
  call_issubclass (S := fun _ R s => s.heap.get? tp = some { cls := .type "tuple", data := .seq #[.type "str", y] } ∧ R (.ok (.ret (.bool true))) s) (fun _ _ _ _ _ hs => issubclass_outer (isn_tuple (cs := [.type "str", y]) rfl hs.1 hs.2)) ⟨htp, hq⟩
end
end PartMSub
section PartMRul
open PySem PySem.W PySem.Calls PyProof.Rows
theorem k_ELLIPSIS_MARKER (w : World) : nsIn (Kf w) mainGlobals (Str.ofString "ELLIPSIS_MARKER") = some (some (.str (Str.ofString "...") 196)) := by kernel_rfl
theorem k_fspath (w : World) : nsIn (Kf w) mainGlobals (Str.ofString "fspath") = some (some (.ref 101)) := by kernel_rfl
theorem k_splitroot (w : World) : nsIn (Kf w) mainGlobals (Str.ofString "splitroot") = some (some (.ref 108)) := by kernel_rfl
theorem k_normpath (w : World) : nsIn (Kf w) mainGlobals (Str.ofString "normpath") = some (some (.ref 115)) := by kernel_rfl
theorem k_law_items (w : World) : nsIn (Kf w) mainGlobals (Str.ofString "_law_items") = some (some (.ref 120)) := by kernel_rfl
theorem k_law_kept (w : World) : nsIn (Kf w) mainGlobals (Str.ofString "_law_kept") = some (some (.ref 127)) := by kernel_rfl
theorem k_law_spelled (w : World) : nsIn (Kf w) mainGlobals (Str.ofString "_law_spelled") = some (some (.ref 134)) := by kernel_rfl
theorem k_law_tokens (w : World) : nsIn (Kf w) mainGlobals (Str.ofString "_law_tokens") = some (some (.ref 141)) := by kernel_rfl
theorem k_law_taken (w : World) : nsIn (Kf w) mainGlobals (Str.ofString "_law_taken") = some (some (.ref 146)) := by kernel_rfl
theorem k_law_agree (w : World) : nsIn (Kf w) mainGlobals (Str.ofString "_law_agree") = some (some (.ref 151)) := by kernel_rfl
theorem k_ellipsis_match (w : World) : nsIn (Kf w) mainGlobals (Str.ofString "_ellipsis_match") = some (some (.ref 28)) := by kernel_rfl
theorem b_type : bootBuiltins (Str.ofString "type") = some (.type "type") := by decide +kernel
theorem b_issubclass : bootBuiltins (Str.ofString "issubclass") = some (.builtin "issubclass") := by decide +kernel
theorem b_str : bootBuiltins (Str.ofString "str") = some (.type "str") := by decide +kernel
theorem b_bytes : bootBuiltins (Str.ofString "bytes") = some (.type "bytes") := by decide +kernel
theorem b_isinstance : bootBuiltins (Str.ofString "isinstance") = some (.builtin "isinstance") := by decide +kernel
theorem b_len : bootBuiltins (Str.ofString "len") = some (.builtin "len") := by decide +kernel
theorem b_range : bootBuiltins (Str.ofString "range") = some (.type "range") := by decide +kernel
theorem b_list : bootBuiltins (Str.ofString "list") = some (.type "list") := by decide +kernel
theorem b_enumerate : bootBuiltins (Str.ofString "enumerate") = some (.type "enumerate") := by decide +kernel
theorem b_int : bootBuiltins (Str.ofString "int") = some (.type "int") := by decide +kernel
theorem b_bool : bootBuiltins (Str.ofString "bool") = some (.type "bool") := by decide +kernel
section
variable {M : Model} {prog : Program} {w : World} {A : Around} {E : Value → Shared → Prop} {s s₀ : Shared} {env : Env} {g : Heap} {L : Addr} {mu : List (Addr × Obj)} {m : Str → Option Value}

theorem mAssign {x pos' value pos} {Q : Flow → Shared → Prop}
    (h : wpAny M A (eval value env) (fun v s₁ => wpAny M A (storeName env x v) (fun _ => Q .next) E s₁) E s)
    (hs : swapsWith value (some (.Name x pos')) pos.line env = pure false := by kernel_rfl) :
    wpAny M A (exec (.Assign [.Name x pos'] value pos) env) Q E s := wpAny_Assign_Name h hs
theorem mMethod {o : Expr} {name : Str} {apos pos : Pos} {args : List Expr} {Q : Value → Shared → Prop}
    (h : wpAny M A (eval o env) (fun ov s₁ => wpAny M A (getMethod ov name (do return (← importBound o env).getD true)) (fun fx s₂ => wpAny M A (callWith pos fx.1 fx.2 (backTo pos (starEach args env)) []) Q E s₂) E s₁) E s)
    (he : eval (.Call (.Attribute o name apos) args [] pos) env = (do
      let ov ← eval o env
      standAt apos.atName
      let (f, first) ← holding [ov] (getMethod ov name (do return (← importBound o env).getD true))
      callWith pos f first (backTo pos (starEach args env)) []) := by kernel_rfl) :
    wpAny M A (eval (.Call (.Attribute o name apos) args [] pos) env) Q E s := MethodCall_ h he
theorem mCall {x : Str} {np : Pos} {args : List Expr} {pos : Pos} {Q : Value → Shared → Prop}
    (h : wpAny M A (eval (.Name x np) env) (fun f s₁ => wpAny M A (callWith pos f [] (backTo pos (starEach args env)) []) Q E s₁) E s)
    (he : eval (.Call (.Name x np) args [] pos) env = (do callWith pos (← eval (.Name x np) env) [] (backTo pos (starEach args env)) (backToKw pos (keywordEach [] env))) := by kernel_rfl) :
    wpAny M A (eval (.Call (.Name x np) args [] pos) env) Q E s := Call_ h he
theorem mArgs {e : Expr} {rest : List Expr} {pos : Pos} {Q : List Value → Shared → Prop}
    (h : wpAny M A (eval e env) (fun v s₁ => wpAny M A (spliced (backTo pos (starEach rest env))) (fun vs s₂ => Q (v :: vs) s₂) E s₁) E s)
    (he : starEach (e :: rest) env = (false, eval e env) :: starEach rest env := by kernel_rfl) : wpAny M A (spliced (backTo pos (starEach (e :: rest) env))) Q E s := args_cons h he
theorem mBuiltin {pos : Pos} {id : String} {first : List Value} {e : Expr} {rest : List Expr} {Q : Value → Shared → Prop}
    (h : wpAny M A (spliced (backTo pos (starEach (e :: rest) env))) (fun vs s₁ => wpAny M A (call (.builtin id) (first ++ vs)) Q E s₁) E s)
    (he : starEach (e :: rest) env = (false, eval e env) :: starEach rest env := by kernel_rfl)
    (hplain : (backTo pos (starEach rest env)).any (·.1) = false := by kernel_rfl) :
    wpAny M A (callWith pos (.builtin id) first (backTo pos (starEach (e :: rest) env)) []) Q E s := callWith_method1 h he hplain
theorem mType {pos : Pos} {T : String} {e : Expr} {rest : List Expr} {Q : Value → Shared → Prop}
    (h : wpAny M A (spliced (backTo pos (starEach (e :: rest) env))) (fun vs s₁ => wpAny M A (call (.type T) vs) Q E s₁) E s)
    (he : starEach (e :: rest) env = (false, eval e env) :: starEach rest env := by kernel_rfl)
    (hplain : (backTo pos (starEach rest env)).any (·.1) = false := by kernel_rfl) :
    wpAny M A (callWith pos (.type T) [] (backTo pos (starEach (e :: rest) env)) []) Q E s := Pv.callWith_type1 h he hplain
/-- a call of a def of the text -/
theorem mDef {pos : Pos} {f : Addr} {e : Expr} {rest : List Expr} {Q : Value → Shared → Prop} (G : Gd w g)
    (hk : keepIn (Kf w) (.ref f) = true)
    (h : wpAny (model prog w) A (spliced (backTo pos (starEach (e :: rest) env))) (fun vs s₁ => Ext g s₁.heap ∧ wpAny (model prog w) A (call (.ref f) vs) Q E s₁) E s)
    (he : starEach (e :: rest) env = (false, eval e env) :: starEach rest env := by kernel_rfl)
    (hplain : (backTo pos (starEach rest env)).any (·.1) = false := by kernel_rfl) :
    wpAny (model prog w) A (callWith pos (.ref f) [] (backTo pos (starEach (e :: rest) env)) []) Q E s :=
  callWith_K (K := Kf w) G.k hk (wpAny_mono h (fun vs s₁ h₁ => ⟨G.k.keeps h₁.1, h₁.2⟩) fun _ _ x => x) he hplain
theorem mTruth {e : Expr} {whole : Sem Value} {Q : Bool → Shared → Prop} (h : wpAny M A whole (fun v s₁ => wpAny M A (truthy v) Q E s₁) E s)
    (he : isTrue e env whole = (do let v ← whole; standAt e.pos; holding [v] (truthy v)) := by kernel_rfl) : wpAny M A (isTrue e env whole) Q E s := isTrue_plain h he
theorem mIsTrueCmp {l op r pos whole} {Q : Bool → Shared → Prop}
    (h : wpAny M A (eval l env) (fun a s₁ => wpAny M A (eval r env) (fun b s₂ => wpAny M A (compareOp op a b)
      (fun c s₃ => wpAny M A (truthy c) Q E s₃) E s₂) E s₁) E s)
    (hm : behindInMarks op r = false := by kernel_rfl) : wpAny M A (isTrue (.Compare l [op] [r] pos) env whole) Q E s := wpAny_isTrue_Compare1 h hm
theorem mCmp {l op r pos} {Q : Value → Shared → Prop}
    (h : wpAny M A (eval l env) (fun a s₁ => wpAny M A (eval r env) (fun b s₂ => wpAny M A (compareOp op a b) Q E s₂) E s₁) E s)
    (hm : behindInMarks op r = false := by kernel_rfl) :
    wpAny M A (eval (.Compare l [op] [r] pos) env) Q E s := wpAny_Compare1 h hm
theorem mExpr {e pos} {Q : Flow → Shared → Prop} (h : wpAny M A (eval e env) (fun v s' => match v with | .ref _ => False | _ => Q .next s') E s)
    (hi : interactive env = false := by kernel_rfl) (hs : swapsWith e none pos.line env = pure false := by kernel_rfl) :
    wpAny M A (exec (.Expr e pos) env) Q E s := wpAny_Expr h hi hs
/-- a new tuple, a new list: they stay -/
theorem mTup {vs : List Value} {Q : Value → Shared → Prop} (F : St s₀ g L mu m s) (hsz : vs.length ≤ sizeLine)
    (h : ∀ a g' s', Ext g g' → g.get? a = none → g'.get? a = some { cls := .type "tuple", data := .seq vs.toArray } → St s₀ g' L mu m s' → Q (.ref a) s') :
    wpAny M A (newTuple vs) Q E s := by
  obtain ⟨g', e1, F', k⟩ := F.2.push { cls := .type "tuple", data := .seq vs.toArray } rfl
  exact wpAny_newObj_type (h _ g' { s with heap := s.heap.push _ } e1 (F.2.keep.none (get?_size_none _)) k ⟨F.1, F'⟩) (by show vs.toArray.size ≤ sizeLine; rw [List.size_toArray]; exact hsz)
theorem mList {vs : List Value} {Q : Value → Shared → Prop} (F : St s₀ g L mu m s) (hsz : vs.length ≤ sizeLine)
    (h : ∀ a g' s', Ext g g' → g.get? a = none → g'.get? a = some { cls := .type "list", data := .seq vs.toArray } → St s₀ g' L mu m s' → Q (.ref a) s') :
    wpAny M A (newList vs) Q E s := by
  obtain ⟨g', e1, F', k⟩ := F.2.push { cls := .type "list", data := .seq vs.toArray } rfl
  exact wpAny_newObj_type (h _ g' { s with heap := s.heap.push _ } e1 (F.2.keep.none (get?_size_none _)) k ⟨F.1, F'⟩) (by show vs.toArray.size ≤ sizeLine; rw [List.size_toArray]; exact hsz)
/-- a new list that may turn -/
theorem mListMu {vs : List Value} {Q : Value → Shared → Prop} (F : St s₀ g L mu m s) (hsz : vs.length ≤ sizeLine)
    (h : ∀ a s', St s₀ g L ((a, { cls := .type "list", data := .seq vs.toArray }) :: mu) m s' → Q (.ref a) s') :
    wpAny M A (newList vs) Q E s := 
  wpAny_newObj_type (h _ { s with heap := s.heap.push _ } ⟨F.1, F.2.pushMu { cls := .type "list", data := .seq vs.toArray } rfl⟩) (by show vs.toArray.size ≤ sizeLine; rw [List.size_toArray]; exact hsz)
theorem small {n : Nat} (h : n ≤ 1000000) : n ≤ sizeLine := Nat.le_trans h (by decide)
theorem split_b {b : Bool} {P Q : Prop} (h1 : b = true → P) (h2 : b = false → Q) : if b = true then P else Q := by
  cases b with
  | true => simpa using h1 rfl
  | false => simpa using h2 rfl
theorem ite_t {b : Bool} {P Q : Prop} (e : b = true) (h : P) : if b = true then P else Q := by rw [if_pos e]; exact h
theorem ite_f {b : Bool} {P Q : Prop} (e : b = false) (h : Q) : if b = true then P else Q := by rw [if_neg (by rw [e]; exact Bool.false_ne_true)]; exact h
end
end PartMRul
section PartMFor
open PySem PySem.W PySem.Calls PyProof.Rows
section
variable {g h h' : Heap} {L : Addr} {mu a b : List (Addr × Obj)} {m : Str → Option Value}
/-- one of the turning ones turns, wherever it lies -/
theorem Fx.turnAt {l : Addr} {o o' : Obj} (F : Fx g L (a ++ (l, o) :: b) h m) (hs : ∀ q x, q ≠ l → h.get? q = some x → h'.get? q = some x) (ho : h'.get? l = some o') : Fx g L (a ++ (l, o') :: b) h' m := by
  have H := F.mem (l, o) (List.mem_append_right _ (.head _))
  have hnd : (a.map (·.1) ++ l :: b.map (·.1)).Nodup := by have := F.nd; rw [List.map_append, List.map_cons] at this; exact this
  obtain ⟨n1, n2, n3⟩ := List.nodup_append.mp hnd
  refine ⟨F.ns.at' fun x e => hs _ x (Ne.symm H.2.1) e, fun q x e => hs q x (fun z => by rw [z, H.2.2] at e; cases e) (F.keep q x e), F.off, fun p hp => ?_, by rw [List.map_append, List.map_cons]; exact hnd⟩
  rcases List.mem_append.mp hp with hp | hp
  · have P := F.mem p (List.mem_append_left _ hp)
    refine ⟨hs _ _ (fun z => ?_) P.1, P.2⟩
    exact n3 p.1 (List.mem_map_of_mem hp) l (.head _) z
  · rcases List.mem_cons.mp hp with rfl | hp
    · exact ⟨ho, H.2⟩
    · have P := F.mem p (List.mem_append_right _ (.tail _ hp))
      refine ⟨hs _ _ (fun z => ?_) P.1, P.2⟩
      exact (List.nodup_cons.mp n2).1 (List.mem_map.mpr ⟨p, hp, z⟩)
theorem Fx.dropAt {l : Addr} {o : Obj} (F : Fx g L (a ++ (l, o) :: b) h m) (hs : ∀ q x, q ≠ l → h.get? q = some x → h'.get? q = some x) : Fx g L (a ++ b) h' m := by
  have H := F.mem (l, o) (List.mem_append_right _ (.head _))
  have hnd : (a.map (·.1) ++ l :: b.map (·.1)).Nodup := by have := F.nd; rw [List.map_append, List.map_cons] at this; exact this
  obtain ⟨n1, n2, n3⟩ := List.nodup_append.mp hnd
  refine ⟨F.ns.at' fun x e => hs _ x (Ne.symm H.2.1) e, fun q x e => hs q x (fun z => by rw [z, H.2.2] at e; cases e) (F.keep q x e), F.off, fun p hp => ?_, ?_⟩
  · rcases List.mem_append.mp hp with hp | hp
    · have P := F.mem p (List.mem_append_left _ hp)
      exact ⟨hs _ _ (fun z => n3 p.1 (List.mem_map_of_mem hp) l (.head _) z) P.1, P.2⟩
    · have P := F.mem p (List.mem_append_right _ (.tail _ hp))
      exact ⟨hs _ _ (fun z => (List.nodup_cons.mp n2).1 (List.mem_map.mpr ⟨p, hp, z⟩)) P.1, P.2⟩
  · rw [List.map_append]
    exact List.nodup_append.mpr ⟨n1, (List.nodup_cons.mp n2).2, fun x hx y hy => n3 x hx y (.tail _ hy)⟩
theorem Fx.addAt {l : Addr} {o : Obj} (F : Fx g L (a ++ b) h m) (ho : h'.get? l = some o) (hn : h.get? l = none) (x : Ext h h') : Fx g L (a ++ (l, o) :: b) h' m := by
  have F' := F.ext x
  have nm : ∀ p ∈ a ++ b, p.1 ≠ l := fun p hp z => by have := (F.mem p hp).1; rw [z, hn] at this; cases this
  refine ⟨F'.ns, F'.keep, F'.off, fun p hp => ?_, ?_⟩
  · rcases List.mem_append.mp hp with hp | hp
    · exact F'.mem p (List.mem_append_left _ hp)
    · rcases List.mem_cons.mp hp with rfl | hp
      · refine ⟨ho, fun z => ?_, F.keep.none hn⟩
        obtain ⟨oL, _, _, hL, _⟩ := F.ns
        dsimp only at z
        rw [← z, hn] at hL; cases hL
      · exact F'.mem p (List.mem_append_right _ hp)
  · have hnd := F.nd
    rw [List.map_append] at hnd ⊢
    obtain ⟨n1, n2, n3⟩ := List.nodup_append.mp hnd
    rw [List.map_cons]
    refine List.nodup_append.mpr ⟨n1, List.nodup_cons.mpr ⟨fun q => ?_, n2⟩, fun x hx y hy => ?_⟩
    · obtain ⟨p, hp, e⟩ := List.mem_map.mp q
      exact nm p (List.mem_append_right _ hp) e
    · rcases List.mem_cons.mp hy with rfl | hy
      · obtain ⟨p, hp, e⟩ := List.mem_map.mp hx
        exact fun z => nm p (List.mem_append_left _ hp) (e.trans z)
      · exact n3 x hx y hy
end

section
variable {prog : Program} {w : World} {A : Around} {E : Value → Shared → Prop} {s s₀ : Shared} {env : Env} {g : Heap} {L I : Addr} {mu rest : List (Addr × Obj)} {m : Str → Option Value}
  {x : Str} {px : Pos} {body : List Stmt} {n : Nat} {P : Nat → Value → Prop} {Stt : Nat → Heap → Prop} {fp : List Addr} {oI : Obj} {Q : Flow → Shared → Prop} {R' : Value → Shared → Prop}

/-- what a turn's end must show -/
noncomputable abbrev TurnQ (s₀ : Shared) (g' : Heap) (L : Addr) (own : List (Addr × Obj)) (Jn : Heap → (Str → Option Value) → List (Addr × Obj) → Prop) (Q : Flow → Shared → Prop) (f : Flow) (s'' : Shared) : Prop :=
  match f with
  | .ret v => Q (.ret v) s''
  | .brk => Q .next s''
  | _ => ∃ g'' m'' mu'', Ext g' g'' ∧ St s₀ g'' L (mu'' ++ own) m'' s'' ∧ Jn g'' m'' mu''

theorem forMg (Nt : Obj → Prop) (J : Nat → Heap → (Str → Option Value) → List (Addr × Obj) → Prop)
    (W : Walks prog w A I fp [I] n P Stt) (hfp : ∀ q ∈ fp, q = I ∨ ∃ o, g.get? q = some o) (hlive : ∀ i h, Stt i h → ∃ o, h.get? I = some o)
    (hnt : ∀ i h o, Stt i h → h.get? I = some o → Nt o) (F : St s₀ g L (mu ++ (I, oI) :: rest) m s) (hst : Stt 0 s.heap) (h0 : J 0 g m mu)
    (turn : ∀ i v g' m' mu' o' s', Nt o' → i < n → P i v → Ext g g' → J i g' m' mu' → St s₀ g' L (mu' ++ (I, o') :: rest) m' s' →
      wpAny (model prog w) A (storeName env x v) (fun _ s2 => wpAny (model prog w) A (execs body env) (TurnQ s₀ g' L ((I, o') :: rest) (J (i + 1)) Q) NoE s2) NoE s')
    (done : ∀ g' m' mu' s', Ext g g' → J n g' m' mu' → St s₀ g' L (mu' ++ rest) m' s' → Q .next s') :
    codeAny (model prog w) A (.forLoop (.Name x px) (.ref I) body [] env) (fun r s' => match r with | .ok f => Q f s' | .error e => R' e s') s := by
  refine codeAny_forLoop (fun k s' => ∃ i g' m' mu' o', i ≤ n ∧ k = n + 1 - i ∧ Ext g g' ∧ J i g' m' mu' ∧ St s₀ g' L (mu' ++ (I, o') :: rest) m' s' ∧ Stt i s'.heap) ?_ (n + 1)
    ⟨0, g, m, mu, oI, Nat.zero_le _, rfl, Ext.refl _, h0, F, hst⟩
  rintro k s1 ⟨i, g', m', mu', o', hi, rfl, e1, hJ, F1, hst1⟩
  have fpk : ∀ {h1 h2 : Heap} {o2 : Obj}, (∃ m2 mu2, Fx g' L (mu2 ++ (I, o2) :: rest) h1 m2) → (∃ g2 m3 mu3, Ext g' g2 ∧ Fx g2 L (mu3 ++ (I, o2) :: rest) h2 m3) → ∀ q ∈ fp, ∀ o, h1.get? q = some o → h2.get? q = some o := by
    rintro h1 h2 o2 ⟨m2, mu2, Fa⟩ ⟨g2, m3, mu3, eg, Fb⟩ q hq o e
    rcases hfp q hq with rfl | ⟨oq, hoq⟩
    · have H1 := (Fa.mem (q, o2) (List.mem_append_right _ (.head _))).1
      have H2 := (Fb.mem (q, o2) (List.mem_append_right _ (.head _))).1
      dsimp only at H1 H2
      rw [H1] at e; rw [H2]; exact e
    · have H1 := Fa.keep q oq (e1 _ _ hoq)
      rw [H1] at e
      exact (Fb.keep q oq (eg _ _ (e1 _ _ hoq))).trans e
  by_cases hlt : i < n
  · refine W.item i s1 _ _ hlt hst1 fun v h1 tk1 hP hst2 hkp => ?_
    obtain ⟨o2, ho2⟩ := hlive _ _ hst2
    have F2 : Fx g' L (mu' ++ (I, o2) :: rest) h1 m' := F1.2.turnAt (fun q y hq e => hkp q y (by simpa using hq) e) ho2
    refine wpAny_assign_Name ?_
    refine wpAny_mono (turn i v g' m' mu' o2 { s1 with heap := h1, toks := tk1 } (hnt _ _ _ hst2 ho2) hlt hP e1 hJ ⟨F1.1, F2⟩) (fun _ s2 h2 => wpAny_mono h2 (fun f s3 h3 => ?_) fun _ _ e => e.elim) fun _ _ e => e.elim
    have fin : (∃ g'' m'' mu'', Ext g' g'' ∧ St s₀ g'' L (mu'' ++ (I, o2) :: rest) m'' s3 ∧ J (i + 1) g'' m'' mu'') → ∃ mm, mm < n + 1 - i ∧ ∃ i g' m' mu' o', i ≤ n ∧ mm = n + 1 - i ∧ Ext g g' ∧ J i g' m' mu' ∧ St s₀ g' L (mu' ++ (I, o') :: rest) m' s3 ∧ Stt i s3.heap := by
      rintro ⟨g'', m'', mu'', e2, F4, hJ'⟩
      exact ⟨n + 1 - (i + 1), by omega, i + 1, g'', m'', mu'', o2, hlt, rfl, e1.trans e2, hJ', F4, W.frame _ _ _ hst2 (fpk ⟨_, _, F2⟩ ⟨_, _, _, e2, F4.2⟩)⟩
    cases f with
    | ret v => exact h3
    | brk => exact h3
    | next => exact fin h3
    | cont => exact fin h3
  · have hin : i = n := by omega
    subst hin
    refine W.done s1 _ _ hst1 fun h1 tk1 hkp => wpAny_execs_nil ?_
    exact done g' m' mu' { s1 with heap := h1, toks := tk1 } e1 hJ ⟨F1.1, F1.2.dropAt fun q y hq e => hkp q y (by simpa using hq) e⟩
theorem forListG (J : Nat → Heap → (Str → Option Value) → List (Addr × Obj) → Prop) {l : Addr} {items : Array Value}
    (hl' : g.IsList l items) (hh : A.handled = none) (F : St s₀ g L (mu ++ rest) m s) (h0 : J 0 g m mu)
    (turn : ∀ i v g' m' mu' own s', items[i]? = some v → Ext g g' → J i g' m' mu' → St s₀ g' L (mu' ++ own) m' s' →
      wpAny (model prog w) A (storeName env x v) (fun _ s2 => wpAny (model prog w) A (execs body env) (TurnQ s₀ g' L own (J (i + 1)) Q) NoE s2) NoE s')
    (done : ∀ g' m' mu' s', Ext g g' → J items.size g' m' mu' → St s₀ g' L (mu' ++ rest) m' s' → Q .next s') :
    wpAny (model prog w) A (pyIter (.ref l)) (fun it s₂ => codeAny (model prog w) A (.forLoop (.Name x px) it body [] env) (fun r s' => match r with | .ok f => Q f s' | .error e => R' e s') s₂) E s := by
  have hls : s.heap.IsList l items := hl'.at fun o e => F.2.keep l o e
  obtain ⟨ol, hol, _⟩ := id hl'
  have hne : l ≠ s.heap.objs.size := fun z => by have := F.2.keep _ _ hol; rw [z, get?_size_none] at this; cases this
  refine wpAny_pyIter_list hls ?_
  have F1 : Fx g L (mu ++ (s.heap.objs.size, { cls := .type "list_iterator", data := .fields #[.ref l, .int 0 0] }) :: rest) (s.heap.push { cls := .type "list_iterator", data := .fields #[.ref l, .int 0 0] }) m :=
    F.2.addAt (Heap.get?_push_size _ rfl) (get?_size_none _) (Ext.push _ _)
  refine forMg (s := { s with heap := s.heap.push _ }) (fun _ => True) J (Walks.list hh s.heap.objs.size l hne items) (fun q hq => ?_) (fun i h st => ?_) (fun _ _ _ _ _ => trivial) ⟨F.1, F1⟩ ?_ h0 (fun i v g' m' mu' o' s' _ hi hP e hJ F' => turn i v g' m' mu' _ s' hP e hJ F') done
  · rcases List.mem_cons.mp hq with rfl | hq
    · exact .inl rfl
    · rw [List.mem_singleton.mp hq]; exact .inr ⟨ol, hol⟩
  · obtain ⟨o, ho, _⟩ := st.1; exact ⟨o, ho⟩
  · exact ⟨⟨_, Heap.get?_push_size _ rfl, rfl, rfl⟩, hls.push _⟩
/-- for x in (a list that stays) -/
theorem forList (J : Nat → Heap → (Str → Option Value) → List (Addr × Obj) → Prop) {l : Addr} {items : Array Value}
    (hl' : g.IsList l items) (hh : A.handled = none) (F : St s₀ g L (mu ++ rest) m s) (h0 : J 0 g m mu)
    (turn : ∀ i v g' m' mu' own s', items[i]? = some v → Ext g g' → J i g' m' mu' → St s₀ g' L (mu' ++ own) (upd m' x v) s' →
      wpAny (model prog w) A (execs body env) (TurnQ s₀ g' L own (J (i + 1)) Q) NoE s')
    (done : ∀ g' m' mu' s', Ext g g' → J items.size g' m' mu' → St s₀ g' L (mu' ++ rest) m' s' → Q .next s')
    (hk : env.scope.kind = .function := by kernel_rfl) (hl : env.kindOf x = some .local := by kernel_rfl) (hL : env.locals = L := by kernel_rfl) :
    wpAny (model prog w) A (pyIter (.ref l)) (fun it s₂ => codeAny (model prog w) A (.forLoop (.Name x px) it body [] env) (fun r s' => match r with | .ok f => Q f s' | .error e => R' e s') s₂) E s := by
  exact forListG J hl' hh F h0 (fun i v g' m' mu' own s' hv e hJ F' => stL F' (fun s2 F2 => turn i v g' m' mu' own s2 hv e hJ F2) hk hl hL) done
end
end PartMFor
section PartMStr
open PySem PySem.W PySem.Calls PyProof.Rows PySem.Builtin PySem.Builtin.Str
/-- a text's signs -/
noncomputable abbrev tl (x : Str) : List Nat := x.cps.toList
theorem tl_inj {x y : Str} (h : tl x = tl y) : x = y := by
  obtain ⟨a⟩ := x; obtain ⟨b⟩ := y
  have : a = b := by simpa using congrArg List.toArray h
  rw [this]
theorem tl_len (x : Str) : (tl x).length = x.length := by simp [tl, Str.length]
theorem slice_ss (x : Str) (i j : Nat) (hij : i ≤ j) : tl (Txt.slice x (some (i : Int)) (some (j : Int))) = ((tl x).drop i).take (j - i) := by
  have e : Txt.slice x (some (i : Int)) (some (j : Int)) = StrLaws.sliceText x (some ((min i x.length : Nat) : Int)) (some ((min j x.length : Nat) : Int)) := by
    unfold Txt.slice StrLaws.sliceText
    have : strSliceIndices (some (i : Int)) (some (j : Int)) 1 x.length = strSliceIndices (some ((min i x.length : Nat) : Int)) (some ((min j x.length : Nat) : Int)) 1 x.length := by
      unfold strSliceIndices
      dsimp only
      congr 1
      · (repeat' split) <;> omega
      · (repeat' split) <;> omega
    rw [this]
  rw [e, StrLaws.sliceText_plain ⟨by omega, by omega, by rw [tl_len x]; omega⟩]
  have hl := tl_len x
  show ((tl x).drop ((min i x.length : Nat) : Int).toNat).take ((((min j x.length : Nat) : Int) - ((min i x.length : Nat) : Int)).toNat) = _
  rw [Int.toNat_natCast]
  have e2 : (((min j x.length : Nat) : Int) - ((min i x.length : Nat) : Int)).toNat = min j x.length - min i x.length := by omega
  rw [e2]
  by_cases h1 : i ≤ x.length
  · rw [Nat.min_eq_left h1]
    by_cases h2 : j ≤ x.length
    · rw [Nat.min_eq_left h2]
    · rw [Nat.min_eq_right (by omega)]
      rw [List.take_of_length_le (by rw [List.length_drop]; omega), List.take_of_length_le (by rw [List.length_drop]; omega)]
  · rw [Nat.min_eq_right (by omega : x.length ≤ i), List.drop_eq_nil_of_le (by omega), List.drop_eq_nil_of_le (by omega)]
    simp
theorem slice_ns (x : Str) (j : Nat) : tl (Txt.slice x none (some (j : Int))) = (tl x).take j := by
  have e : Txt.slice x none (some (j : Int)) = Txt.slice x (some ((0 : Nat) : Int)) (some (j : Int)) := by
    unfold Txt.slice; rw [StrLaws.sliceIdx_none_lo]; rfl
  rw [e, slice_ss x 0 j (Nat.zero_le _)]; simp
theorem slice_sn (x : Str) (i : Nat) (h : i ≤ x.length) : tl (Txt.slice x (some (i : Int)) none) = (tl x).drop i := by
  show tl (StrLaws.sliceText x (some (i : Int)) none) = _
  rw [StrLaws.sliceText_from ⟨by omega, by rw [tl_len x]; omega⟩]
  show ((tl x).drop (i : Int).toNat).take _ = _
  rw [Int.toNat_natCast, List.take_of_length_le]
  rw [List.length_drop]
  have := tl_len x
  show _ ≤ (((tl x).length : Int) - (i : Int)).toNat
  omega

section
variable {prog : Program} {w : World} {A : Around} {E : Value → Shared → Prop} {s s₀ : Shared} {g : Heap} {L : Addr} {mu : List (Addr × Obj)} {m : Str → Option Value} {x y : Str} {t u : Tok} {Q : Value → Shared → Prop} {value slice : Expr}
theorem keptSt : KeptByPush (fun s => St s₀ g L mu m s) := fun _ _ _ F => ⟨F.1, F.2.ext (Ext.push _ _)⟩

theorem mSliceNS {j : Int} {uj : Tok} (F : St s₀ g L mu m s) (hsz : x.length ≤ 1000000) (h : ∀ s' t', St s₀ g L mu m s' → Q (.str (Txt.slice x none (some j)) t') s')
    (hs : subscripted slice false (.str x t) (.ref s.heap.objs.size) = operate [.ref s.heap.objs.size, .str x t] (getItem (.str x t) (.ref s.heap.objs.size)) := by kernel_rfl)
    (ht : ∀ r, letTemporaryGo value (.str x t) r = pure () := by intro _; kernel_rfl) :
    wpAny (model prog w) A (subscriptTail value slice (.str x t) (.ref s.heap.objs.size)) Q E { s with heap := s.heap.push { cls := .type "slice", data := .fields #[.none, .int j uj, .none] } } :=
  tail_of_ItemOn (SBG.sliceItem_ns keptSt F h (small hsz)) hs ht
theorem mSliceSN {i : Int} {ui : Tok} (F : St s₀ g L mu m s) (hsz : x.length ≤ 1000000) (h : ∀ s' t', St s₀ g L mu m s' → Q (.str (Txt.slice x (some i) none) t') s')
    (hs : subscripted slice false (.str x t) (.ref s.heap.objs.size) = operate [.ref s.heap.objs.size, .str x t] (getItem (.str x t) (.ref s.heap.objs.size)) := by kernel_rfl)
    (ht : ∀ r, letTemporaryGo value (.str x t) r = pure () := by intro _; kernel_rfl) :
    wpAny (model prog w) A (subscriptTail value slice (.str x t) (.ref s.heap.objs.size)) Q E { s with heap := s.heap.push { cls := .type "slice", data := .fields #[.int i ui, .none, .none] } } :=
  tail_of_ItemOn (SBG.sliceItem_sn keptSt F h (small hsz)) hs ht
theorem mSliceSS {i j : Int} {ui uj : Tok} (F : St s₀ g L mu m s) (hsz : x.length ≤ 1000000) (h : ∀ s' t', St s₀ g L mu m s' → Q (.str (Txt.slice x (some i) (some j)) t') s')
    (hs : subscripted slice false (.str x t) (.ref s.heap.objs.size) = operate [.ref s.heap.objs.size, .str x t] (getItem (.str x t) (.ref s.heap.objs.size)) := by kernel_rfl)
    (ht : ∀ r, letTemporaryGo value (.str x t) r = pure () := by intro _; kernel_rfl) :
    wpAny (model prog w) A (subscriptTail value slice (.str x t) (.ref s.heap.objs.size)) Q E { s with heap := s.heap.push { cls := .type "slice", data := .fields #[.int i ui, .int j uj, .none] } } :=
  tail_of_ItemOn (SBG.sliceItem_ss keptSt F h (small hsz)) hs ht

/-- split: a new list of texts -/
theorem mSplit0 {hy : (y.length == 0) = false} (hsz : x.length ≤ sizeLine) (hsz2 : (partsBetween x (occurrences x y 0 x.length (x.length + 1)) y.length).length ≤ sizeLine)
    (h : ∀ (l : List (Str × Tok)) k, l.map (·.1) = Txt.split x y → Q (.ref s.heap.objs.size) { s with heap := s.heap.push { cls := .type "list", data := .seq (strValues l).toArray }, toks := k }) :
    wpAny (model prog w) A (call (.builtin "str.split") [.str x t, .str y u]) Q E s := by
  cases h1 : (decide (x.length < y.length) || decide (strKind x < strKind y))
  · cases hf : (occurrences x y 0 x.length (x.length + 1)).isEmpty
    · refine call_meets F.slot_str_split (typeIs_str _ _ _) F.entry_str_split (F.args_str_split_2 _ _) (meets_str_split_sep x y t u h1 hy hf hsz hsz2) ?_
      show wants Q E _ { s with toks := _, heap := s.heap.push { cls := .type "list", data := .seq (strsFrom s.toks (partsBetween x (occurrences x y 0 x.length (x.length + 1)) y.length)).toArray } }
      rw [strsFrom_eq]
      exact h (numbered s.toks _) _ ((numbered_texts _ _).trans ((if_neg (ne_true_of_eq_false h1)).trans (if_neg (ne_true_of_eq_false hf))).symm)
    · exact call_meets F.slot_str_split (typeIs_str _ _ _) F.entry_str_split (F.args_str_split_2 _ _) (meets_str_split_not_found x y t u h1 hy hf)
        (h [(x, t)] s.toks ((if_neg (ne_true_of_eq_false h1)).trans (if_pos hf)).symm)
  · exact call_meets F.slot_str_split (typeIs_str _ _ _) F.entry_str_split (F.args_str_split_2 _ _) (meets_str_split_cannot_occur x y t u h1)
      (h [(x, t)] s.toks (if_pos h1).symm)
end
end PartMStr
section PartMList
open PySem PySem.W PySem.Calls PyProof.Rows
noncomputable abbrev lst (vs : List Value) (n : Nat) : Obj := { cls := .type "list", data := .seq vs.toArray n }
noncomputable abbrev tup (vs : List Value) : Obj := { cls := .type "tuple", data := .seq vs.toArray }
section
variable {prog : Program} {w : World} {A : Around} {E : Value → Shared → Prop} {s s₀ : Shared} {env : Env} {g : Heap} {L l : Addr} {mu : List (Addr × Obj)} {m : Str → Option Value} {vs : List Value} {n : Nat} {x y : Value} {Q : Value → Shared → Prop} {pl : Sem Bool}

theorem isList_of {h : Heap} (e : h.get? l = some (lst vs n)) : h.IsList l vs.toArray := ⟨_, e, rfl, n, rfl⟩
theorem isTup_of {h : Heap} (e : h.get? l = some (tup vs)) : IsTup h l vs.toArray := ⟨_, e, rfl, 0, rfl⟩
theorem mGetAppend {Q : Value × List Value → Shared → Prop} (e : s.heap.get? l = some (lst vs n)) (h : Q (.builtin "list.append", [.ref l]) s) : wpAny (model prog w) A (getMethod (.ref l) (Str.ofString "append") pl) Q E s :=
  Calls.getMethod_list_append e rfl rfl h
theorem mGetPop {Q : Value × List Value → Shared → Prop} (e : s.heap.get? l = some (lst vs n)) (h : Q (.builtin "list.pop", [.ref l]) s) : wpAny (model prog w) A (getMethod (.ref l) (Str.ofString "pop") pl) Q E s :=
  getMethod_builtin ⟨_, e, rfl⟩ PySem.F.plainAttrs_list PySem.F.slot_list_pop PySem.F.type_list_pop (fun _ q => by cases q; exact ⟨_, e, rfl⟩) h
theorem mGetExtend {Q : Value × List Value → Shared → Prop} (e : s.heap.get? l = some (lst vs n)) (h : Q (.builtin "list.extend", [.ref l]) s) : wpAny (model prog w) A (getMethod (.ref l) (Str.ofString "extend") pl) Q E s :=
  getMethod_builtin ⟨_, e, rfl⟩ PySem.F.plainAttrs_list PySem.F.slot_list_extend PySem.F.type_list_extend (fun _ q => by cases q; exact ⟨_, e, rfl⟩) h
theorem mAppend (F : St s₀ g L ((l, lst vs n) :: mu) m s) (hsz : vs.length ≤ 1000000) (h : ∀ s', St s₀ g L ((l, lst (vs ++ [x]) (n + 1)) :: mu) m s' → Q .none s') :
    wpAny (model prog w) A (call (.builtin "list.append") [.ref l, x]) Q E s := by
  refine append_at (F.2.mem _ (.head _)).1 (fun h' hs ho => h { s with heap := h' } ⟨F.1, F.2.turn hs ?_⟩) (by rw [List.size_toArray]; exact small hsz)
  rw [ho]; simp
theorem mPop (F : St s₀ g L ((l, lst (vs ++ [y]) n) :: mu) m s) (hsz : vs.length ≤ 100000) (h : ∀ s', St s₀ g L ((l, lst vs (n + 1)) :: mu) m s' → Q y s') :
    wpAny (model prog w) A (call (.builtin "list.pop") [.ref l]) Q E s := by
  have H := (F.2.mem _ (.head _)).1
  dsimp only at H
  have hk : (vs ++ [y]).toArray.size - 1 = vs.length := by rw [List.size_toArray, List.length_append]; rfl
  have hy : (vs ++ [y]).toArray[(vs ++ [y]).toArray.size - 1]? = some y := by rw [hk]; simp
  refine call_meets PySem.F.slot_list_pop ⟨_, H, rfl⟩ PySem.F.entry_list_pop (PySem.F.args_list_pop_1 _) (PySem.MeetsSeq.list_pop_last l _ n y hy (by rw [List.size_toArray, List.length_append]; exact small (by simp; omega))) ⟨H, h { s with heap := _ } ⟨F.1, F.2.turn (Heap.SameBut.update ..) ?_⟩⟩
  have e1 : Obj.mapSeq (fun xs => xs.eraseIdxIfInBounds ((vs ++ [y]).toArray.size - 1)) (lst (vs ++ [y]) n) = lst vs (n + 1) := by
    rw [hk, mapSeq_erase _ _ _ (by rw [List.size_toArray, List.length_append]; simp)]
    simp [List.eraseIdx_append_of_length_le]
  rw [Heap.get?_update_self _ H (by rw [e1]; rfl), e1]
theorem mTruthList {Q : Bool → Shared → Prop} (e : s.heap.get? l = some (lst vs n)) (hsz : vs.length ≤ 1000000) (h : Q (!vs.isEmpty) { s with toks := s.toks + 1 + 1 }) : wpAny (model prog w) A (truthy (.ref l)) Q E s :=
  wpAny_truthy_list (isList_of e) (by rw [List.size_toArray]; omega) (by simpa using h)
theorem mTruthStr {Q : Bool → Shared → Prop} {z : Str} {t : Tok} (hsz : z.length ≤ 1000000) (h : Q (!(tl z).isEmpty) { s with toks := s.toks + 1 + 1 }) : wpAny (model prog w) A (truthy (.str z t)) Q E s := by
  refine P.truthy_str (by omega) ?_
  have : ((z.length : Int) != 0) = !(tl z).isEmpty := by
    rw [← tl_len]
    cases tl z with
    | nil => rfl
    | cons c r => simp; omega
  rw [this]; exact h
theorem mItemLast {value slice : Expr} {u : Tok} (e : s.heap.get? l = some (lst (vs ++ [y]) n)) (h : Q y s)
    (hs : subscripted slice false (.ref l) (.int (-1) u) = operate [.ref l, .int (-1) u] (getItem (.ref l) (.int (-1) u)) := by kernel_rfl) (ht : ∀ r, letTemporaryGo value (.ref l) r = pure () := by intro _; kernel_rfl) :
    wpAny (model prog w) A (subscriptTail value slice (.ref l) (.int (-1) u)) Q E s :=
  subscriptTail_builtin (isList_of e).typeIs slot_list_getitem.lookup (wpAny_getItem_list_neg (isList_of e) (by omega) (by simp; omega) (by omega) (by rw [show (-1 + ((vs ++ [y]).toArray.size : Int)).toNat = vs.length by simp; omega]; simp) h) hs ht
theorem mItem {value slice : Expr} {k : Int} {u : Tok} (e : s.heap.get? l = some (lst vs n)) (h0 : 0 ≤ k) (h1 : k < 1000000) (hx : vs[k.toNat]? = some y) (h : Q y s)
    (hs : subscripted slice false (.ref l) (.int k u) = operate [.ref l, .int k u] (getItem (.ref l) (.int k u)) := by kernel_rfl) (ht : ∀ r, letTemporaryGo value (.ref l) r = pure () := by intro _; kernel_rfl) :
    wpAny (model prog w) A (subscriptTail value slice (.ref l) (.int k u)) Q E s :=
  subscriptTail_builtin (isList_of e).typeIs slot_list_getitem.lookup (wpAny_getItem_list (isList_of e) h0 (by omega) (by simpa using hx) h) hs ht
theorem mItemT {value slice : Expr} {k : Int} {u : Tok} (e : s.heap.get? l = some (tup vs)) (h0 : 0 ≤ k) (h1 : k < 1000000) (hx : vs[k.toNat]? = some y) (h : Q y s)
    (hs : subscripted slice false (.ref l) (.int k u) = operate [.ref l, .int k u] (getItem (.ref l) (.int k u)) := by kernel_rfl) (ht : ∀ r, letTemporaryGo value (.ref l) r = pure () := by intro _; kernel_rfl) :
    wpAny (model prog w) A (subscriptTail value slice (.ref l) (.int k u)) Q E s := by
  have hlt : k.toNat < vs.length := by
    rcases Nat.lt_or_ge k.toNat vs.length with q | q
    · exact q
    · rw [List.getElem?_eq_none q] at hx; cases hx
  refine subscriptTail_builtin (T := "tuple") ⟨_, e, rfl⟩ PySem.F.slot_tuple_getitem.lookup (getItem_tuple (isTup_of e) (by omega) (by omega) (j := k.toNat) ?_ (by simpa using hx) h) hs ht
  rw [List.size_toArray]
  exact seqIndex_at h0 (by omega)
/-- del xs[k] -/
theorem mDel {k : Int} {u : Tok} {j : Nat} {Q : Unit → Shared → Prop} (F : St s₀ g L ((l, lst vs n) :: mu) m s) (hsz : vs.length ≤ 1000000) (hf : Builtin.List.listFitsIndex k = true) (hj : seqIndex? k vs.length = some j)
    (h : ∀ s', St s₀ g L ((l, lst (vs.eraseIdx j) (n + 1)) :: mu) m s' → Q () s') : wpAny (model prog w) A (delItem (.ref l) (.int k u)) Q E s :=
  delItem_at (F.2.mem _ (.head _)).1 hf (by rw [List.size_toArray]; exact hj) (fun h' hs ho => h { s with heap := h' } ⟨F.1, F.2.turn hs (by rw [ho])⟩) (by rw [List.size_toArray]; exact small hsz)
theorem mSplit {x y : Str} {t u : Tok} (F : St s₀ g L mu m s) (hy : (y.length == 0) = false) (hsz : x.length ≤ 100000)
    (h : ∀ (ts : List (Str × Tok)) a s', ts.map (·.1) = Txt.split x y → St s₀ g L ((a, lst (strValues ts) 0) :: mu) m s' → Q (.ref a) s') :
    wpAny (model prog w) A (call (.builtin "str.split") [.str x t, .str y u]) Q E s := by
  refine mSplit0 (hy := hy) (small (by omega)) ?_ fun ts k ht => h ts _ { s with heap := s.heap.push _, toks := k } ht ⟨F.1, F.2.pushMu (lst (strValues ts) 0) rfl⟩
  rw [length_partsBetween]
  have := StrLaws.occ_length_le x y 0 x.length (x.length + 1)
  exact small (by omega)
end
end PartMList
section PartMList2
open PySem PySem.W PySem.Calls PyProof.Rows
section
variable {M : Model} {prog : Program} {w : World} {A : Around} {E : Value → Shared → Prop} {s s₀ : Shared} {env : Env} {g : Heap} {L l : Addr} {mu : List (Addr × Obj)} {m : Str → Option Value} {vs : List Value} {n : Nat} {x y : Value} {Q : Value → Shared → Prop}

theorem mFor {target iter body orelse pos} {Q : Flow → Shared → Prop}
    (h : wpAny M A (eval iter env) (fun x s₁ => wpAny M A (pyIter x) (fun it s₂ =>
      codeAny M A (.forLoop target it body orelse env) (fun r s' => match r with | .ok f => Q f s' | .error e => cameBackBy M A env E e s') s₂) E s₁) E s)
    (hs : ∀ x, foldedSetIterable iter env x = pure x := by intro _; kernel_rfl) :
    wpAny M A (exec (.For target iter body orelse pos) env) Q E s := wpAny_For h hs
theorem mAssignT {elts k tpos value pos} {Q : Flow → Shared → Prop}
    (h : wpAny M A (eval value env) (fun v s₁ => wpAny M A (assign (.Tuple elts k tpos) env v) (fun _ => Q .next) E s₁) E s)
    (hs : swapsWithSole [.Tuple elts k tpos] value pos.line env = pure false := by kernel_rfl)
    (hw : swappedStores [.Tuple elts k tpos] value env = pure none := by kernel_rfl) :
    wpAny M A (exec (.Assign [.Tuple elts k tpos] value pos) env) Q E s := Assign_Tuple h hs hw
theorem mAssignSw {elts k tpos value pos} (names : List Str) {Q : Flow → Shared → Prop}
    (h : wpAny M A (eval value env) (fun v s₁ => wpAny M A (unpackItems v names.length none) (fun items s₂ =>
      wpAny M A (assignInOrder (names.reverse.map fun n => bindName env n) items.reverse) (fun _ => Q .next) E s₂) E s₁) E s)
    (hs : swapsWithSole [.Tuple elts k tpos] value pos.line env = pure false := by kernel_rfl)
    (hw : swappedStores [.Tuple elts k tpos] value env = pure (some names) := by kernel_rfl) :
    wpAny M A (exec (.Assign [.Tuple elts k tpos] value pos) env) Q E s := Assign_Tuple_swapped h hs hw
theorem mUnpackI {t : Addr} {n : Nat} {Q : List Value → Shared → Prop} (F : St s₀ g L mu m s) (e : s.heap.get? t = some (tup vs)) (hh : A.handled = none) (hn : n = vs.length)
    (h : ∀ s', St s₀ g L mu m s' → Q vs s') : wpAny (model prog w) A (unpackItems (.ref t) n none) Q E s := by
  subst hn
  have := unpackItems_tuple (prog := prog) (w := w) (E := E) (Q := Q) hh (isTup_of e) fun h' he => by
    refine h { s with heap := h' } ⟨F.1, F.2.ext fun b o eb => he b o (fun q => ?_) eb⟩
    rw [q, get?_size_none] at eb; cases eb
  rw [List.size_toArray] at this
  exact this
theorem mUnpack {elts : List Expr} {k : Nat} {pos : Pos} {t : Addr} {Q : Unit → Shared → Prop} (F : St s₀ g L mu m s) (e : s.heap.get? t = some (tup vs)) (hh : A.handled = none)
    (h : ∀ s', St s₀ g L mu m s' → wpAny (model prog w) A (assignInOrder ((assignEach elts env).map (·.2)) vs) Q E s')
    (hn : (assignEach elts env).length = vs.length := by kernel_rfl) (hstar : (assignEach elts env).findIdx? (·.1) = none := by kernel_rfl) :
    wpAny (model prog w) A (assign (.Tuple elts k pos) env (.ref t)) Q E s :=
  assign_Tuple_tuple hh (isTup_of e) (by rw [List.size_toArray]; exact hn) hstar fun h' he => by
    refine h { s with heap := h' } ⟨F.1, F.2.ext fun b o eb => he b o (fun q => ?_) eb⟩
    rw [q, get?_size_none] at eb; cases eb
theorem mAIO {e : Expr} {rest : List Expr} {xs : List Value} {Q : Unit → Shared → Prop}
    (h : wpAny M A (assign e env x) (fun _ s₁ => wpAny M A (assignInOrder ((assignEach rest env).map (·.2)) xs) Q E s₁) E s)
    (he : assignEach (e :: rest) env = (false, assign e env) :: assignEach rest env := by kernel_rfl) :
    wpAny M A (assignInOrder ((assignEach (e :: rest) env).map (·.2)) (x :: xs)) Q E s := by
  rw [he]; exact assignInOrder_cons h
theorem mAIO0 {Q : Unit → Shared → Prop} (h : Q () s) : wpAny M A (assignInOrder ((assignEach [] env).map (·.2)) []) Q E s := assignInOrder_nil h
theorem joinOk_of {sep : Str} {texts : List Str} (hs : sep.length ≤ 10) (h1 : texts.length ≤ 1000) (h2 : ∀ z ∈ texts, z.length ≤ 1000) : JoinOk sep texts = true := by
  unfold JoinOk
  rw [StrLaws.joinTotal]
  have h3 := StrLaws.sumLen_le texts h2
  unfold Builtin.Str.tooLong
  have : (texts.map (·.length)).sum + texts.length * sep.length ≤ 1000 * 1000 + 1000 * 10 := by
    refine Nat.add_le_add (Nat.le_trans h3 ?_) ?_
    · exact Nat.mul_le_mul h1 (Nat.le_refl _)
    · exact Nat.mul_le_mul h1 hs
  have h5 : (texts.map (·.length)).sum + texts.length * sep.length ≤ sizeLine := Nat.le_trans this (by decide)
  simp only [gt_iff_lt, Bool.not_eq_true', decide_eq_false_iff_not, Nat.not_lt]
  exact h5
theorem mJoin {D : Addr} {sep : Str} {t : Tok} {ts : List (Str × Tok)} (e : s.heap.get? D = some (lst (strValues ts) n)) (hok : JoinOk sep (ts.map (·.1)) = true)
    (h : ∀ t' k, Q (.str (Txt.join sep (ts.map (·.1))) t') { s with toks := k }) : wpAny (model prog w) A (call (.builtin "str.join") [.str sep t, .ref D]) Q E s :=
  SC.join (isList_of e) rfl hok h
theorem mExprA {e pos} {Q : Flow → Shared → Prop} (h : wpAny (model prog w) A (eval e env) (fun _ => Q .next) E s)
    (hi : interactive env = false := by kernel_rfl) (hs : swapsWith e none pos.line env = pure false := by kernel_rfl) :
    wpAny (model prog w) A (exec (.Expr e pos) env) Q E s := wpAny_Expr_any h hi hs
end
end PartMList2
open PySem PySem.W PySem.Calls PyProof.Rows
-- ENGINE: one step of the walk, by the tree's own shape
local macro_rules | `(tactic| walk_at "ent") => `(tactic| (
  (case ho => with_unfolding_all rfl); (case hdata => rfl); (case hbody => rfl); (case hbind => kernel_rfl); (case hcd => kernel_rfl); (case hcell => kernel_rfl); (case hloc => kernel_rfl); (case hco => rfl); (case hgen => rfl); (case hk => rfl)))
local macro_rules | `(tactic| walk_at "m*") => `(tactic| repeat walk_at "m1")
local macro_rules | `(tactic| walk_at "lk") => `(tactic| first | with_reducible exact upd_here | (with_reducible refine upd_there (by kernel_rfl) ?_; walk_at "lk") | with_reducible assumption)
local macro_rules | `(tactic| walk_at "m1") => `(tactic| first | with_reducible refine wpAny_execs_cons ?_ | walk_at "n1")
local macro_rules | `(tactic| walk_at "n*") => `(tactic| repeat walk_at "n1")
local macro_rules | `(tactic| walk_at "n1") => `(tactic| with_reducible first
  | refine wpAny_execs_nil ?_
  | refine wpAny_Return_some ?_
  | ((fail_if_success show wpAny _ _ (exec (Stmt.Assign _ (Expr.ListComp _ _ _ _) _) _) _ _ _); refine mAssign ?_)
  | ((fail_if_success show wpAny _ _ (exec (Stmt.Assign _ (Expr.Tuple _ _ _) _) _) _ _ _); refine mAssignT ?_)
  | refine wpAny_If ?_
  | refine mFor ?_
  | refine mExprA ?_
  | refine wpAny_Continue ?_
  | refine wpAny_Assert_holds ?_ | refine wpAny_Delete ?_ | refine wpAny_deleteEach_cons ?_ | refine wpAny_deleteEach_nil ?_ | refine delete_Subscript ?_
  | refine wpAny_AugAssign_Name ?_
  | refine ldL (by assumption) (by walk_at "lk") ?_
  | refine ldnL (by assumption) (by walk_at "lk") ?_
  | refine ldK (by assumption) (by assumption) (by first | exact k_ELLIPSIS_MARKER _ | exact k_fspath _ | exact k_splitroot _ | exact k_normpath _ | exact k_law_items _ | exact k_law_kept _ | exact k_law_spelled _ | exact k_law_tokens _ | exact k_law_taken _ | exact k_law_agree _ | exact k_ellipsis_match _) ?_
  | refine ldB (by assumption) (by assumption) (by first | exact b_type | exact b_issubclass | exact b_str | exact b_bytes | exact b_isinstance | exact b_len | exact b_range | exact b_list | exact b_enumerate | exact b_int | exact b_bool) ?_
  | (refine stL (by assumption) ?_; intro _ _)
  | refine mIsTrueCmp ?_
  | refine isTrue_not ?_ | refine isTrue_and_nil ?_ | refine isTrue_or_nil ?_ | refine isTrue_and ?_ | refine isTrue_or ?_
  | refine mCmp ?_
  | refine wpAny_BinOp ?_
  | refine wpAny_Constant_int ?_ | refine Calls.Constant_str ?_ | refine wpAny_Constant_none ?_ | refine wpAny_Constant_bool ?_
  | refine mMethod ?_
  | refine mCall ?_
  | refine mBuiltin ?_
  | refine GM.split ?_ | refine GM.join ?_ | refine GM.startswith ?_ | refine GM.endswith ?_ | refine GM.find ?_
  | refine mType ?_
  | refine callWith_method0 ?_
  | refine mArgs ?_
  | refine args_nil ?_
  | refine IfExp_ ?_
  | refine Tuple_ ?_
  | refine List_ ?_
  | refine UnaryOp_ ?_
  | refine Subscript_ ?_
  | refine wpAny_Slice ?_
  | refine evalPart_none_step ?_
  | refine evalPart_some_step ?_
  | refine wpAny_truthy_bool ?_
  | refine BoolOp_or ?_ | refine BoolOp_and ?_ | refine BoolOp_one ?_
  | refine mAIO ?_ | refine mAIO0 ?_ | refine PyProof.Rows.assign_Name ?_ | refine bindName_ ?_
  | refine mTruth ?_)
local macro_rules | `(tactic| walk_at "m+") => `(tactic| repeat (first | walk_at "m1" | with_reducible refine ite_t rfl ?_ | with_reducible refine ite_f rfl ?_))
section PartMPath
open PySem PySem.W PySem.Calls PyProof.Rows
theorem keepIn_of (w : World) : ∀ f ∈ [28, 101, 108, 115, 120, 127, 134, 141, 146, 151], keepIn (Kf w) (.ref f) = true := by
  intro f hf
  simp only [List.mem_cons, List.not_mem_nil, or_false] at hf
  rcases hf with rfl | rfl | rfl | rfl | rfl | rfl | rfl | rfl | rfl | rfl <;> kernel_rfl
noncomputable abbrev slash : Str := Str.ofString "/"
theorem tl_slash : tl (Str.ofString "/") = [47] := by decide
theorem tl_empty : tl (Str.ofString "") = [] := by decide
section
variable {prog : Program} {w : World} {A : Around} {E : Value → Shared → Prop} {s : Shared}
set_option maxHeartbeats 4000000 in
theorem fspath_spec {p : Str} {t : Tok} (G : Gd w s.heap) (hd : A.depth < recursionLimit) :
    codeAny (model prog w) A (.call (.ref 101) ⟨[.str p t], []⟩) (Ret s fun v _ => v = .str p t) s := by
  refine enter G (o := ?o) (fd := ?fd) (body := ?bd) (binds := [(Str.ofString "path", .str p t)]) ?ho ?hdata hd ?hbody ?hbind ?hcd ?hcell ?hloc ?h ?hco ?hgen ?hk
  walk_at "ent"
  intro A' s' hh hdp hun F env
  change St s s.heap s.heap.objs.size [] (upd (fun _ => none) (Str.ofString "path") (.str p t)) s' at F
  walk_at "m*"
  refine call_type_of (Tx := "str") rfl (by decide +kernel) ?_
  walk_at "m*"
  refine mTup (by assumption) (small (Nat.le_of_ble_eq_true rfl)) ?_
  intro a g' s1 e1 hn ha F1
  walk_at "m*"
  refine call_issub (F1.2.keep _ _ ha) ?_
  walk_at "m*"
  refine ite_t rfl ?_
  walk_at "m*"
  exact Ret.mk (e1.trans F1.2.keep) F1.1 rfl

/-- what splitroot hands back -/
noncomputable abbrev IsSplit (r : Str) (q : List Nat) (v : Value) (h : Heap) : Prop :=
  ∃ a t1 t2 t3 q', v = .ref a ∧ tl q' = q ∧ h.get? a = some { cls := .type "tuple", data := .seq #[.str (Str.ofString "") t1, .str r t2, .str q' t3] }
set_option maxHeartbeats 4000000 in
theorem splitroot_plain {p : Str} {t : Tok} (G : Gd w s.heap) (hd : A.depth + 1 < recursionLimit) (hsz : p.length ≤ 1000000) (hp : (tl p).head? ≠ some 47) :
    codeAny (model prog w) A (.call (.ref 108) ⟨[.str p t], []⟩) (Ret s (IsSplit (Str.ofString "") (tl p))) s := by
  refine enter G (o := ?o) (fd := ?fd) (body := ?bd) (binds := [(Str.ofString "p", .str p t)]) ?ho ?hdata (by omega) ?hbody ?hbind ?hcd ?hcell ?hloc ?h ?hco ?hgen ?hk
  walk_at "ent"
  intro A' s' hh hdp hun F env
  change St s s.heap s.heap.objs.size [] (upd (fun _ => none) (Str.ofString "p") (.str p t)) s' at F
  walk_at "m*"
  refine mDef G (keepIn_of _ _ (by decide)) ?_
  walk_at "m*"
  refine ⟨F.2.keep, callSpec (fspath_spec (G.keeps F.2.keep) (by omega)) ?_⟩
  intro v s1 x1 y1 hv
  subst hv
  have F1 : St s s.heap s.heap.objs.size [] (upd (fun _ => none) (Str.ofString "p") (.str p t)) s1 := ⟨F.1.trans y1, F.2.ext x1⟩
  clear F
  walk_at "m*"
  refine IsiPair.str_bytes ?_
  walk_at "m*"
  refine ite_f rfl ?_
  walk_at "m*"
  refine mSliceNS (by assumption) hsz ?_
  intro s2 t2 F2
  walk_at "m*"
  refine ne_str ?_
  walk_at "m*"
  refine ite_t ?_ ?_
  · rw [bne_iff_ne]
    intro e
    have e2 := congrArg tl e
    rw [show tl (Txt.slice p none (some 1)) = _ from slice_ns p 1, tl_slash] at e2
    cases hq : tl p with
    | nil => rw [hq] at e2; cases e2
    | cons c r => rw [hq] at e2 hp; simp at e2 hp; exact hp e2
  walk_at "m*"
  refine mTup (by assumption) (small (Nat.le_of_ble_eq_true rfl)) ?_
  intro a g' s3 e3 hn ha F3
  exact Ret.mk (e3.trans F3.2.keep) F3.1 ⟨a, _, _, _, p, rfl, rfl, F3.2.keep _ _ ha⟩

set_option maxHeartbeats 4000000 in
theorem splitroot_root {p : Str} {t : Tok} {q : List Nat} (G : Gd w s.heap) (hd : A.depth + 1 < recursionLimit) (hsz : p.length ≤ 1000000) (hp : tl p = 47 :: q) (hq : q.head? ≠ some 47) :
    codeAny (model prog w) A (.call (.ref 108) ⟨[.str p t], []⟩) (Ret s (IsSplit (Str.ofString "/") q)) s := by
  have hlen : 1 ≤ p.length := by rw [← tl_len, hp]; simp
  refine enter G (o := ?o) (fd := ?fd) (body := ?bd) (binds := [(Str.ofString "p", .str p t)]) ?ho ?hdata (by omega) ?hbody ?hbind ?hcd ?hcell ?hloc ?h ?hco ?hgen ?hk
  walk_at "ent"
  intro A' s' hh hdp hun F env
  change St s s.heap s.heap.objs.size [] (upd (fun _ => none) (Str.ofString "p") (.str p t)) s' at F
  walk_at "m*"
  refine mDef G (keepIn_of _ _ (by decide)) ?_
  walk_at "m*"
  refine ⟨F.2.keep, callSpec (fspath_spec (G.keeps F.2.keep) (by omega)) ?_⟩
  intro v s1 x1 y1 hv
  subst hv
  have F1 : St s s.heap s.heap.objs.size [] (upd (fun _ => none) (Str.ofString "p") (.str p t)) s1 := ⟨F.1.trans y1, F.2.ext x1⟩
  clear F
  walk_at "m*"
  refine IsiPair.str_bytes ?_
  walk_at "m*"
  refine ite_f rfl ?_
  walk_at "m*"
  refine mSliceNS (by assumption) hsz ?_
  intro s2 t2 F2
  walk_at "m*"
  refine ne_str ?_
  walk_at "m*"
  refine ite_f ?_ ?_
  · rw [bne_eq_false_iff_eq]
    apply tl_inj
    rw [show tl (Txt.slice p none (some 1)) = _ from slice_ns p 1, tl_slash, hp]; rfl
  walk_at "m*"
  refine mSliceSS (by assumption) hsz ?_
  intro s3 t3 F3
  walk_at "m*"
  refine ne_str ?_
  walk_at "m*"
  refine ite_t ?_ ?_
  · rw [bne_iff_ne]
    intro e
    have e2 := congrArg tl e
    rw [show tl (Txt.slice p (some 1) (some 2)) = _ from slice_ss p 1 2 (by omega), tl_slash, hp] at e2
    cases q with
    | nil => cases e2
    | cons c r => simp at e2 hq; exact hq e2
  walk_at "m*"
  refine ite_t rfl ?_
  walk_at "m*"
  refine mSliceSN (by assumption) hsz ?_
  intro s4 t4 F4
  walk_at "m*"
  refine mTup (by assumption) (small (Nat.le_of_ble_eq_true rfl)) ?_
  intro a g' s5 e5 hn ha F5
  refine Ret.mk (e5.trans F5.2.keep) F5.1 ⟨a, _, _, _, _, rfl, ?_, F5.2.keep _ _ ha⟩
  rw [show tl (Txt.slice p (some 1) none) = _ from slice_sn p 1 hlen, hp]; rfl
end
end PartMPath
section PartMNorm
open PySem PySem.W PySem.Calls PyProof.Rows
noncomputable abbrev dotS : Str := Str.ofString "."
noncomputable abbrev dotdotS : Str := Str.ofString ".."
theorem tl_dot : tl (Str.ofString ".") = [46] := by decide
theorem tl_dotdot : tl (Str.ofString "..") = [46, 46] := by decide
/-- normpath's own turn -/
noncomputable def npStep (rt : Bool) (acc : List Str) (c : Str) : List Str :=
  if tl c = [] ∨ c = dotS then acc
  else if c ≠ dotdotS ∨ (rt = false ∧ acc = []) ∨ acc.getLast? = some dotdotS then acc ++ [c]
  else acc.dropLast
noncomputable def npComps (rt : Bool) (cs : List Str) : List Str := cs.foldl (npStep rt) []
noncomputable def npText (r : Str) (cs : List Str) : Str :=
  let x := r ++ Txt.join slash (npComps (!(tl r).isEmpty) cs)
  if tl x = [] then dotS else x
theorem npStep_len {rt : Bool} {acc : List Str} {c : Str} : (npStep rt acc c).length ≤ acc.length + 1 := by
  unfold npStep; (repeat' split) <;> simp <;> omega
theorem npStep_mem {rt : Bool} {acc : List Str} {c z : Str} (h : z ∈ npStep rt acc c) : z ∈ acc ∨ z = c := by
  unfold npStep at h
  split at h
  · exact .inl h
  · split at h
    · rcases List.mem_append.mp h with q | q
      · exact .inl q
      · exact .inr (List.mem_singleton.mp q)
    · exact .inl (List.dropLast_subset _ h)
theorem np_len (rt : Bool) : ∀ (cs acc : List Str), (cs.foldl (npStep rt) acc).length ≤ acc.length + cs.length
  | [], acc => by simp
  | c :: r, acc => by
    have h := np_len rt r (npStep rt acc c)
    have := npStep_len (rt := rt) (acc := acc) (c := c)
    simp only [List.foldl_cons, List.length_cons]; omega
theorem np_mem (rt : Bool) : ∀ (cs acc : List Str) (z : Str), z ∈ cs.foldl (npStep rt) acc → z ∈ acc ∨ z ∈ cs
  | [], acc, z, h => .inl h
  | c :: r, acc, z, h => by
    rcases np_mem rt r _ z h with q | q
    · rcases npStep_mem q with q | q
      · exact .inl q
      · exact .inr (q ▸ .head _)
    · exact .inr (.tail _ q)
section
variable {prog : Program} {w : World} {A : Around} {E : Value → Shared → Prop} {s : Shared}
theorem strValues_get {ts : List (Str × Tok)} {cs : List Str} {i : Nat} {v : Value} (hc : ts.map (·.1) = cs) (h : (strValues ts).toArray[i]? = some v) : ∃ c t, v = .str c t ∧ cs[i]? = some c := by
  subst hc
  simp only [strValues, List.getElem?_toArray, List.getElem?_map, Option.map_eq_some_iff] at h ⊢
  obtain ⟨p, hp, rfl⟩ := h
  exact ⟨p.1, p.2, rfl, p, hp, rfl⟩
theorem strValues_append (a : List (Str × Tok)) (c : Str) (t : Tok) : strValues a ++ [.str c t] = strValues (a ++ [(c, t)]) := by simp [strValues]
theorem take_step {α β : Type} (f : β → α → β) (z : β) {l : List α} {i : Nat} {c : α} (h : l[i]? = some c) : (l.take (i + 1)).foldl f z = f ((l.take i).foldl f z) c := by
  rw [List.take_add_one, h]; simp

set_option maxHeartbeats 8000000 in
theorem normpath_spec {p r : Str} {q : List Nat} {t : Tok} {cs : List Str} (G : Gd w s.heap) (hd : A.depth + 2 < recursionLimit) (hah : A.handled = none)
    (hsp : ∀ (A : Around) (s : Shared) (t : Tok), Gd w s.heap → A.depth + 1 < recursionLimit → codeAny (model prog w) A (.call (.ref 108) ⟨[.str p t], []⟩) (Ret s (IsSplit r q)) s)
    (hp0 : tl p ≠ []) (hlen : p.length ≤ 1000) (hq : q.length ≤ 1000) (hr : r.length ≤ 1)
    (hcs : ∀ q', tl q' = q → Txt.split q' slash = cs) (hc1 : cs.length ≤ 100) (hc2 : ∀ c ∈ cs, c.length ≤ 100) :
    codeAny (model prog w) A (.call (.ref 115) ⟨[.str p t], []⟩) (Ret s fun v _ => ∃ t', v = .str (npText r cs) t') s := by
  refine enter G (o := ?o) (fd := ?fd) (body := ?bd) (binds := [(Str.ofString "path", .str p t)]) ?ho ?hdata (by omega) ?hbody ?hbind ?hcd ?hcell ?hloc ?h ?hco ?hgen ?hk
  walk_at "ent"
  intro A' s' hh hdp hun F env
  change St s s.heap s.heap.objs.size [] (upd (fun _ => none) (Str.ofString "path") (.str p t)) s' at F
  walk_at "m*"
  refine mDef G (keepIn_of _ _ (by decide)) ?_
  walk_at "m*"
  refine ⟨F.2.keep, callSpec (fspath_spec (G.keeps F.2.keep) (by omega)) ?_⟩
  intro v s1 x1 y1 hv
  subst hv
  have F1 : St s s.heap s.heap.objs.size [] (upd (fun _ => none) (Str.ofString "path") (.str p t)) s1 := ⟨F.1.trans y1, F.2.ext x1⟩
  clear F
  walk_at "m*"
  refine IsiPair.str_bytes ?_
  walk_at "m*"
  refine ite_f rfl ?_
  walk_at "m*"
  refine mTruthStr (by omega) ?_
  walk_at "m*"
  refine ite_f ?_ ?_
  · cases hq : tl p with
    | nil => exact absurd hq hp0
    | cons c r => rfl
  walk_at "m*"
  refine mDef G (keepIn_of _ _ (by decide)) ?_
  walk_at "m*"
  rename_i s2 F2
  refine ⟨F2.2.keep, callSpec (hsp _ _ _ (G.keeps F2.2.keep) (by omega)) ?_⟩
  rintro v s3 x3 y3 ⟨a, t1, t2, t3, q', rfl, hq', ha⟩
  refine mUnpack (vs := [_, _, _]) ⟨F2.1.trans y3, F2.2.ext x3⟩ ha (hh.trans hah) ?_
  intro s4 F4
  walk_at "m*"
  have hql : q'.length ≤ 1000 := by rw [← tl_len, hq']; exact hq
  refine mSplit (by assumption) (by decide) (by omega) ?_
  intro ts ac s5 hts F5
  rw [hcs q' hq'] at hts
  walk_at "m*"
  rename_i s6 F6
  refine mListMu (by assumption) (by simp) ?_
  intro l s7 F7
  walk_at "m*"
  rename_i s8 F8
  obtain ⟨g1, e1, F9, hac⟩ := F8.2.swap.freeze
  have hrt : r.length ≤ 1000000 := by omega
  refine forList (mu := [(l, lst [] 0)]) (rest := []) (fun i _ m' mu' => ∃ ts' n t4 t5 t6, mu' = [(l, lst (strValues ts') n)] ∧ ts'.map (·.1) = (cs.take i).foldl (npStep (!(tl r).isEmpty)) [] ∧
      m' (Str.ofString "sep") = some (.str (Str.ofString "/") t4) ∧ m' (Str.ofString "dot") = some (.str (Str.ofString ".") t5) ∧ m' (Str.ofString "dotdot") = some (.str (Str.ofString "..") t6) ∧
      m' (Str.ofString "initial_slashes") = some (.str r t2) ∧ m' (Str.ofString "new_comps") = some (.ref l)) (isList_of hac) (hh.trans hah) ⟨F8.1, F9⟩ ?h0 ?turn ?done
  case h0 => exact ⟨[], 0, _, _, _, rfl, rfl, by walk_at "lk", by walk_at "lk", by walk_at "lk", by walk_at "lk", by walk_at "lk"⟩
  case turn =>
    rintro i v g' m' mu' own s9 hv e' ⟨ts', n, t4, t5, t6, rfl, hts', k1, k2, k3, k4, k5⟩ Fa
    obtain ⟨c, tc, rfl, hc⟩ := strValues_get hts hv
    have hcl : c.length ≤ 1000000 := by have := hc2 c (List.mem_of_getElem? hc); omega
    have hil : i < cs.length := by
      rcases Nat.lt_or_ge i cs.length with q | q
      · exact q
      · rw [List.getElem?_eq_none q] at hc; cases hc
    have htl : ts'.length ≤ 100 := by
      have h1 := np_len (!(tl r).isEmpty) (cs.take i) []
      rw [← hts', List.length_map, List.length_take] at h1
      simp at h1; omega
    have hvl : (strValues ts').length ≤ 1000000 := by simp [strValues]; omega
    have Fb : St s g' s.heap.objs.size ((l, lst (strValues ts') n) :: own) (upd m' (Str.ofString "comp") (.str c tc)) s9 := Fa
    clear Fa
    have hl := fun s1 (F1 : St s g' s.heap.objs.size ((l, lst (strValues ts') n) :: own) (upd m' (Str.ofString "comp") (.str c tc)) s1) => (F1.2.mem _ (.head _)).1
    have stay : ∀ s1, npStep (!(tl r).isEmpty) (ts'.map (·.1)) c = ts'.map (·.1) → St s g' s.heap.objs.size ((l, lst (strValues ts') n) :: own) (upd m' (Str.ofString "comp") (.str c tc)) s1 →
        ∃ g'' m'' mu'', Ext g' g'' ∧ St s g'' s.heap.objs.size (mu'' ++ own) m'' s1 ∧ ∃ ts' n t4 t5 t6, mu'' = [(l, lst (strValues ts') n)] ∧ ts'.map (·.1) = (cs.take (i + 1)).foldl (npStep (!(tl r).isEmpty)) [] ∧
      m'' (Str.ofString "sep") = some (.str (Str.ofString "/") t4) ∧ m'' (Str.ofString "dot") = some (.str (Str.ofString ".") t5) ∧ m'' (Str.ofString "dotdot") = some (.str (Str.ofString "..") t6) ∧
      m'' (Str.ofString "initial_slashes") = some (.str r t2) ∧ m'' (Str.ofString "new_comps") = some (.ref l) := fun s1 hst F1 =>
      ⟨g', _, [(l, _)], Ext.refl _, F1, ts', n, t4, t5, t6, rfl, by rw [take_step _ _ hc, ← hts', hst], by walk_at "lk", by walk_at "lk", by walk_at "lk", by walk_at "lk", by walk_at "lk"⟩
    walk_at "m*"
    refine mTruthStr hcl ?_
    walk_at "m*"
    refine split_b ?_ ?_ <;> intro hb
    · refine ite_t rfl ?_
      walk_at "m*"
      refine stay _ ?_ Fb
      have : tl c = [] := by simpa using hb
      unfold npStep; rw [if_pos (.inl this)]
    have hne : tl c ≠ [] := by simpa using hb
    walk_at "m*"
    refine PyProof.Rows.eq_str ?_
    walk_at "m*"
    refine split_b ?_ ?_ <;> intro hb2
    · refine ite_t rfl ?_
      walk_at "m*"
      refine stay _ ?_ Fb
      unfold npStep; rw [if_pos (.inr (by simpa using hb2))]
    have hnd : c ≠ dotS := by simpa using hb2
    walk_at "m*"
    refine ite_f rfl ?_
    have grow : ∀ s1, npStep (!(tl r).isEmpty) (ts'.map (·.1)) c = ts'.map (·.1) ++ [c] → St s g' s.heap.objs.size ((l, lst (strValues ts' ++ [.str c tc]) (n + 1)) :: own) (upd m' (Str.ofString "comp") (.str c tc)) s1 →
        ∃ g'' m'' mu'', Ext g' g'' ∧ St s g'' s.heap.objs.size (mu'' ++ own) m'' s1 ∧ ∃ ts' n t4 t5 t6, mu'' = [(l, lst (strValues ts') n)] ∧ ts'.map (·.1) = (cs.take (i + 1)).foldl (npStep (!(tl r).isEmpty)) [] ∧
      m'' (Str.ofString "sep") = some (.str (Str.ofString "/") t4) ∧ m'' (Str.ofString "dot") = some (.str (Str.ofString ".") t5) ∧ m'' (Str.ofString "dotdot") = some (.str (Str.ofString "..") t6) ∧
      m'' (Str.ofString "initial_slashes") = some (.str r t2) ∧ m'' (Str.ofString "new_comps") = some (.ref l) := fun s1 hst F1 =>
      ⟨g', _, [(l, _)], Ext.refl _, F1, ts' ++ [(c, tc)], n + 1, t4, t5, t6, by rw [strValues_append], by rw [take_step _ _ hc, ← hts', hst]; simp, by walk_at "lk", by walk_at "lk", by walk_at "lk", by walk_at "lk", by walk_at "lk"⟩
    have hst0 : npStep (!(tl r).isEmpty) (ts'.map (·.1)) c = if c ≠ dotdotS ∨ ((!(tl r).isEmpty) = false ∧ ts'.map (·.1) = []) ∨ (ts'.map (·.1)).getLast? = some dotdotS then ts'.map (·.1) ++ [c] else (ts'.map (·.1)).dropLast := by
      unfold npStep; rw [if_neg (by rintro (q | q); exact hne q; exact hnd q)]
    walk_at "m*"
    refine PyProof.Rows.ne_str ?_
    walk_at "m*"
    refine split_b ?_ ?_ <;> intro hb3
    · refine ite_t rfl ?_
      walk_at "m*"
      refine mGetAppend (hl _ Fb) ?_
      walk_at "m*"
      refine mAppend Fb hvl ?_
      intro s10 F10
      walk_at "m*"
      refine grow _ ?_ F10
      rw [hst0, if_pos (.inl (by simpa using hb3))]
    have hdd : c = dotdotS := by simpa using hb3
    rcases List.eq_nil_or_concat ts' with hnil | ⟨ti, ⟨z, tz⟩, hcon⟩
    · subst hnil
      walk_at "m*"
      refine mTruthStr hrt ?_
      walk_at "m*"
      refine split_b ?_ ?_ <;> intro hb4
      · have hre : (!(tl r).isEmpty) = false := by simpa using hb4
        walk_at "m*"
        refine mTruthList (hl _ Fb) hvl ?_
        refine ite_t rfl ?_
        walk_at "m*"
        refine ite_t rfl ?_
        walk_at "m*"
        refine ite_t rfl ?_
        walk_at "m*"
        refine mGetAppend (hl _ Fb) ?_
        walk_at "m*"
        refine mAppend Fb hvl ?_
        intro s10 F10
        walk_at "m*"
        refine grow _ ?_ F10
        rw [hst0, if_pos (.inr (.inl ⟨hre, rfl⟩))]
      · have hre : (!(tl r).isEmpty) = true := by simpa using hb4
        walk_at "m*"
        refine ite_f rfl ?_
        walk_at "m*"
        refine mTruthList (hl _ Fb) hvl ?_
        refine ite_f rfl ?_
        refine ite_f rfl ?_
        walk_at "m*"
        refine ite_f rfl ?_
        walk_at "m*"
        refine mTruthList (hl _ Fb) hvl ?_
        refine ite_f rfl ?_
        walk_at "m*"
        refine stay _ ?_ Fb
        rw [hst0, if_neg (by rintro (q | q | q); exact q hdd; rw [hre] at q; cases q.1; cases q)]
        rfl
    · rw [List.concat_eq_append] at hcon
      subst hcon
      walk_at "m*"
      refine mTruthStr hrt ?_
      walk_at "m*"
      refine split_b ?_ ?_ <;> intro hb4
      · walk_at "m*"
        refine mTruthList (hl _ Fb) hvl ?_
        refine ite_f (by simp [strValues]) ?_
        refine ite_f rfl ?_
        walk_at "m*"
        refine mTruthList (hl _ Fb) hvl ?_
        refine ite_t (by simp [strValues]) ?_
        walk_at "m*"
        refine neg_int ?_
        refine mItemLast (vs := strValues ti) (y := .str z tz) (n := n) (by rw [hl _ Fb, strValues_append]) ?_
        walk_at "m*"
        refine PyProof.Rows.eq_str ?_
        walk_at "m*"
        refine split_b ?_ ?_ <;> intro hb5
        · walk_at "m+"
          refine mGetAppend (hl _ Fb) ?_
          walk_at "m*"
          refine mAppend Fb hvl ?_
          intro s10 F10
          walk_at "m*"
          refine grow _ ?_ F10
          have hz : z = dotdotS := by simpa using hb5
          rw [hst0, if_pos (.inr (.inr (by rw [hz]; simp)))]
        · walk_at "m+"
          refine mTruthList (hl _ Fb) hvl ?_
          refine ite_t (by simp [strValues]) ?_
          walk_at "m*"
          refine mGetPop (hl _ Fb) ?_
          walk_at "m*"
          refine mPop (vs := strValues ti) (y := .str z tz) (n := n) (by rw [strValues_append]; exact Fb) (by simp [strValues] at hvl ⊢; simp at htl; omega) ?_
          intro s10 F10
          walk_at "m*"
          have hz : z ≠ dotdotS := by simpa using hb5
          refine ⟨g', _, [(l, _)], Ext.refl _, F10, ti, n + 1, t4, t5, t6, rfl, ?_, by walk_at "lk", by walk_at "lk", by walk_at "lk", by walk_at "lk", by walk_at "lk"⟩
          rw [take_step _ _ hc, ← hts', hst0, if_neg (by rintro (q | q | q); exact q hdd; simp at q; simp at q; exact hz q)]
          simp
      · refine ite_f rfl ?_
        walk_at "m*"
        refine mTruthList (hl _ Fb) hvl ?_
        refine ite_t (by simp [strValues]) ?_
        walk_at "m*"
        refine neg_int ?_
        refine mItemLast (vs := strValues ti) (y := .str z tz) (n := n) (by rw [hl _ Fb, strValues_append]) ?_
        walk_at "m*"
        refine PyProof.Rows.eq_str ?_
        walk_at "m*"
        refine split_b ?_ ?_ <;> intro hb5
        · walk_at "m+"
          refine mGetAppend (hl _ Fb) ?_
          walk_at "m*"
          refine mAppend Fb hvl ?_
          intro s10 F10
          walk_at "m*"
          refine grow _ ?_ F10
          have hz : z = dotdotS := by simpa using hb5
          rw [hst0, if_pos (.inr (.inr (by rw [hz]; simp)))]
        · walk_at "m+"
          refine mTruthList (hl _ Fb) hvl ?_
          refine ite_t (by simp [strValues]) ?_
          walk_at "m*"
          refine mGetPop (hl _ Fb) ?_
          walk_at "m*"
          refine mPop (vs := strValues ti) (y := .str z tz) (n := n) (by rw [strValues_append]; exact Fb) (by simp [strValues] at hvl ⊢; simp at htl; omega) ?_
          intro s10 F10
          walk_at "m*"
          have hz : z ≠ dotdotS := by simpa using hb5
          refine ⟨g', _, [(l, _)], Ext.refl _, F10, ti, n + 1, t4, t5, t6, rfl, ?_, by walk_at "lk", by walk_at "lk", by walk_at "lk", by walk_at "lk", by walk_at "lk"⟩
          rw [take_step _ _ hc, ← hts', hst0, if_neg (by rintro (q | q | q); exact q hdd; simp at q; simp at q; exact hz q)]
          simp
  case done =>
    rintro g' m' mu' s9 e' ⟨ts', n, t4, t5, t6, rfl, hts', k1, k2, k3, k4, k5⟩ Fa
    have hN : ts'.map (·.1) = npComps (!(tl r).isEmpty) cs := by
      rw [hts', List.take_of_length_le]; rfl
      rw [← hts]; simp [strValues]
    have Fb : St s g' s.heap.objs.size ((l, lst (strValues ts') n) :: []) m' s9 := Fa
    clear Fa hts'
    have hj1 : (ts'.map (·.1)).length ≤ 100 := by
      rw [hN]; exact Nat.le_trans (np_len _ cs []) (by simp; omega)
    have hj2 : ∀ z ∈ ts'.map (·.1), z.length ≤ 100 := by
      rw [hN]; intro z hz
      rcases np_mem _ _ _ _ hz with q | q
      · cases q
      · exact hc2 z q
    walk_at "m*"
    rename_i s10 F10
    refine mJoin (F10.2.mem _ (.head _)).1 (joinOk_of (by decide) (by omega) (fun z hz => Nat.le_trans (hj2 z hz) (by omega))) ?_
    intro t7 k7
    have hjl : (Txt.join (Str.ofString "/") (ts'.map (·.1))).length ≤ 100000 := by
      unfold Txt.join
      rw [StrLaws.glued_eq_join]
      refine Nat.le_trans (StrLaws.join_length_le _ _) ?_
      have := StrLaws.sumLen_le _ hj2
      have h2 : (ts'.map (·.1)).length * 100 ≤ 100 * 100 := Nat.mul_le_mul hj1 (Nat.le_refl _)
      have h3 : (ts'.map (·.1)).length * (Str.ofString "/").length ≤ 100 * 1 := Nat.mul_le_mul hj1 (by decide)
      omega
    refine PyProof.Rows.add_str ?_ (small (by omega))
    intro t8 k8
    walk_at "m*"
    refine mTruthStr (by rw [Str.length_append]; omega) ?_
    have hext : Ext s.heap g' := e1.trans e'
    refine split_b ?_ ?_ <;> intro hb
    · rename_i s11 F11
      refine Ret.mk (hext.trans F11.2.keep) F11.1 ⟨t8, ?_⟩
      unfold npText
      rw [← hN]
      dsimp only
      rw [if_neg (by simpa using hb)]
    · rename_i s11 F11
      walk_at "m*"
      refine Ret.mk (hext.trans F11.2.keep) F11.1 ⟨t5, ?_⟩
      unfold npText
      rw [← hN]
      dsimp only
      rw [if_pos (by simpa using hb)]
end
end PartMNorm
section PartMEll
open PySem PySem.W PySem.Calls PyProof.Rows PySem.Builtin PySem.Builtin.Str
/-- the statements of a def of the text -/
noncomputable def bodyAt (w : World) (f : Addr) : List Stmt := match (Kf w).lookup f with
  | some ⟨_, _, .func fd, _⟩ => (match fd.body with | .stmts b => b | _ => [])
  | _ => []
theorem gives_find4 (x y : Str) (i j : Int) (t u v v' : Tok) : Gives («str.find» ⟨[.str x t, .str y u, .int i v, .int j v'], []⟩) (.int (match occurrences x y (fromIndex x.length i) (min (fromIndex x.length j) x.length) 1 with | k :: _ => (k : Int) | [] => -1)) := by
  show Gives (match occurrences x y (fromIndex x.length i) (min (fromIndex x.length j) x.length) 1 with | k :: _ => retInt k | [] => (do rule "str.find.not-found"; retInt (-1))) _
  cases occurrences x y (fromIndex x.length i) (min (fromIndex x.length j) x.length) 1 with
  | nil => exact .rule (.of_eq rfl)
  | cons k _ => exact .of_eq rfl
noncomputable def fnd (got w : Str) (a b : Nat) : Option Nat := (occurrences got w a b 1).head?
noncomputable def ellGo (got : Str) (ep : Nat) : Nat → List Str → Bool
  | _, [] => true
  | sp, w :: r => match fnd got w sp ep with
    | none => false
    | some k => ellGo got ep (k + w.length) r
noncomputable abbrev dotsS : Str := Str.ofString "..."
noncomputable def cutEnds (w0 wl : Str) (ws : List Str) : List Str :=
  let ws1 := if tl w0 = [] then ws else ws.tail
  if tl wl = [] then ws1 else ws1.dropLast
noncomputable def ellB (ws : List Str) (got : Str) : Bool :=
  match ws.head?, ws.getLast? with
  | some w0, some wl => Txt.startswith got w0 && (Txt.endswith got wl && (decide (w0.length ≤ got.length - wl.length) && ellGo got (got.length - wl.length) w0.length (cutEnds w0 wl ws)))
  | _, _ => false
noncomputable def ellM (want got : Str) : Bool := if (occurrences want dotsS 0 want.length 1).isEmpty = true then want == got else ellB (Txt.split want dotsS) got
section
variable {prog : Program} {w : World} {A : Around} {E : Value → Shared → Prop} {s : Shared}
theorem mFind4 {x y : Str} {a b : Nat} {t u v v' : Tok} {Q : Value → Shared → Prop} (hb : b ≤ x.length) (h : Q (.int (match fnd x y a b with | some k => (k : Int) | none => -1) s.toks) { s with toks := s.toks + 1 }) :
    wpAny (model prog w) A (call (.builtin "str.find") [.str x t, .str y u, .int (a : Int) v, .int (b : Int) v']) Q E s := by
  refine call_gives F.slot_str_find (typeIs_str _ _ _) F.entry_str_find (F.args_str_find_4 _ _ _ _) (gives_find4 x y a b t u v v') ?_
  have e1 : fromIndex x.length (a : Int) = a := by unfold fromIndex; rw [if_neg (by omega)]; omega
  have e2 : fromIndex x.length (b : Int) = b := by unfold fromIndex; rw [if_neg (by omega)]; omega
  rw [e1, e2, Nat.min_eq_left hb]
  unfold fnd at h
  show Q _ _
  revert h
  cases occurrences x y a b 1 <;> exact fun h => h
theorem mLenStr {x : Str} {t : Tok} {Q : Value → Shared → Prop} (hx : x.length ≤ 1000000) (h : ∀ t' k, Q (.int (x.length : Int) t') { s with toks := k }) : wpAny (model prog w) A (call (.builtin "len") [.str x t]) Q E s :=
  PyProof.Rows.len_str (by omega) (h _ _)
theorem mLenList {l : Addr} {vs : List Value} {n : Nat} {Q : Value → Shared → Prop} (e : s.heap.get? l = some (lst vs n)) (hx : vs.length ≤ 1000000) (h : ∀ t' k, Q (.int (vs.length : Int) t') { s with toks := k }) : wpAny (model prog w) A (call (.builtin "len") [.ref l]) Q E s := by
  refine Calls.call_len_list (isList_of e) (by rw [List.size_toArray]; omega) ?_
  rw [List.size_toArray]; exact h _ _
theorem starts_empty {got w : Str} (h : tl w = []) : Txt.startswith got w = true := by
  have hl : w.length = 0 := by rw [← tl_len, h]; rfl
  unfold Txt.startswith
  rw [StrLaws.subAt_eq, hl]
  have : w.cps.toList = [] := h
  simp [this]
theorem ends_empty {got w : Str} (h : tl w = []) : Txt.endswith got w = true := by
  have hl : w.length = 0 := by rw [← tl_len, h]; rfl
  unfold Txt.endswith
  rw [StrLaws.subAt_eq, hl]
  have : w.cps.toList = [] := h
  simp [this]

set_option maxHeartbeats 8000000 in
theorem ell_spec {want got : Str} {t1 t2 : Tok} (G : Gd w s.heap) (hd : A.depth + 2 < recursionLimit) (hah : A.handled = none)
    (hw : want.length ≤ 1000) (hg : got.length ≤ 1000) (hws : (occurrences want dotsS 0 want.length 1).isEmpty = false → 2 ≤ (Txt.split want dotsS).length)
    (hwl : ∀ z ∈ Txt.split want dotsS, z.length ≤ 1000) (hwn : (Txt.split want dotsS).length ≤ 1000) :
    codeAny (model prog w) A (.call (.ref 28) ⟨[.str want t1, .str got t2], []⟩) (Ret s fun v _ => v = .bool (ellM want got)) s := by
  refine enter G (o := ?o) (fd := ?fd) (body := ?bd) (binds := [(Str.ofString "want", .str want t1), (Str.ofString "got", .str got t2)]) ?ho ?hdata (by omega) ?hbody ?hbind ?hcd ?hcell ?hloc ?h ?hco ?hgen ?hk
  walk_at "ent"
  intro A' s' hh hdp hun F env
  change St s s.heap s.heap.objs.size [] (upd (upd (fun _ => none) (Str.ofString "want") (.str want t1)) (Str.ofString "got") (.str got t2)) s' at F
  walk_at "m*"
  refine PyProof.Rows.notIn_str ?_
  walk_at "m*"
  refine split_b ?_ ?_ <;> intro hb
  · have hb' : (occurrences want dotsS 0 want.length 1).isEmpty = true := by simpa using hb
    walk_at "m*"
    refine PyProof.Rows.eq_str ?_
    refine Ret.mk F.2.keep F.1 ?_
    unfold ellM; rw [if_pos hb']
  have hb' : (occurrences want dotsS 0 want.length 1).isEmpty = false := by simpa using hb
  have hws' := hws hb'
  have hres : ellM want got = ellB (Txt.split want dotsS) got := by unfold ellM; rw [if_neg (by rw [hb']; exact Bool.false_ne_true)]
  walk_at "m*"
  refine mSplit (by assumption) (by decide) (by omega) ?_
  intro ts l s1 hts F1
  walk_at "m*"
  rename_i s2 F2
  have hlen : (strValues ts).length = (Txt.split want dotsS).length := by rw [← hts]; simp [strValues]
  refine mLenList (F2.2.mem _ (.head _)).1 (by omega) ?_
  intro t3 k3
  walk_at "m*"
  refine PyProof.Rows.ge_int ?_
  walk_at "m*"
  refine ⟨by simp; omega, ?_⟩
  walk_at "m*"
  refine mAssignSw [Str.ofString "startpos", Str.ofString "endpos"] ?_
  walk_at "m*"
  refine mLenStr (by omega) ?_
  intro t4 k4
  walk_at "m*"
  refine mTup F2 (small (Nat.le_of_ble_eq_true rfl)) ?_
  intro a g3 s3 e3 hn3 ha3 F3
  refine mUnpackI (vs := [_, _]) F3 (F3.2.keep _ _ ha3) (hh.trans hah) rfl ?_
  intro s4 F4
  refine assignInOrder_cons ?_
  walk_at "m*"
  refine assignInOrder_cons ?_
  walk_at "m*"
  refine assignInOrder_nil ?_
  walk_at "m*"
  rename_i s5 F5
  have e0 : Ext s.heap g3 := e3
  have tail2 : ∀ (s1 : Shared) (m1 : Str → Option Value) (g1 : Heap) (ts1 : List (Str × Tok)) (n sp ep : Nat) (u1 u2 : Tok), Ext s.heap g1 → St s g1 s.heap.objs.size [(l, lst (strValues ts1) n)] m1 s1 →
      m1 (Str.ofString "got") = some (.str got t2) → m1 (Str.ofString "startpos") = some (.int (sp : Int) u1) → m1 (Str.ofString "endpos") = some (.int (ep : Int) u2) → m1 (Str.ofString "ws") = some (.ref l) → ep ≤ got.length →
      (∀ z ∈ ts1.map (·.1), z.length ≤ 1000) → ellM want got = (decide (sp ≤ ep) && ellGo got ep sp (ts1.map (·.1))) →
      wpAny (model prog w) A' (execs ((bodyAt w 28).drop 8) env) (fun fl s' => Ret s (fun v _ => v = .bool (ellM want got)) (.ok (.ret (match fl with | .ret v => v | _ => .none))) s') NoE s1 := by
    intro s1 m1 g1 ts1 n sp ep u1 u2 eg F1 k1 k2 k3 k4 hep hz hr
    with_unfolding_all refine wpAny_execs_cons ?_
    walk_at "m*"
    refine PyProof.Rows.gt_int ?_
    walk_at "m*"
    refine split_b ?_ ?_ <;> intro hb
    · walk_at "m*"
      refine Ret.mk (eg.trans F1.2.keep) F1.1 ?_
      rw [hr, decide_eq_false (by simp at hb; omega)]; rfl
    walk_at "m*"
    have hle : sp ≤ ep := by simp at hb; omega
    rw [decide_eq_true hle, Bool.true_and] at hr
    obtain ⟨g2, e2, F2', hl2⟩ := F1.2.freeze
    have eg2 : Ext s.heap g2 := eg.trans e2
    refine forList (mu := []) (rest := []) (fun i _ m' mu' => mu' = [] ∧ ∃ (sp' : Nat) (u1' : Tok), m' (Str.ofString "got") = some (.str got t2) ∧ m' (Str.ofString "startpos") = some (.int (sp' : Int) u1') ∧ m' (Str.ofString "endpos") = some (.int (ep : Int) u2) ∧
      ellM want got = ellGo got ep sp' ((ts1.map (·.1)).drop i)) (isList_of hl2) (hh.trans hah) ⟨F1.1, F2'⟩ ?h0 ?turn ?done
    case h0 => exact ⟨rfl, sp, u1, k1, k2, k3, by simpa using hr⟩
    case turn =>
      rintro i v g' m' mu' own s9 hv e' ⟨rfl, sp', u1', j1, j2, j3, hr'⟩ Fa
      obtain ⟨c, tc, rfl, hc⟩ := strValues_get rfl hv
      have hcl : c.length ≤ 1000000 := by have := hz c (List.mem_of_getElem? hc); omega
      have hdr : (ts1.map (·.1)).drop i = c :: (ts1.map (·.1)).drop (i + 1) := by
        obtain ⟨hlt, he⟩ := List.getElem?_eq_some_iff.mp hc
        rw [List.drop_eq_getElem_cons hlt, he]
      rw [hdr] at hr'
      have Fb : St s g' s.heap.objs.size own (upd m' (Str.ofString "w") (.str c tc)) s9 := Fa
      have Gb : Gd w g' := G.keeps (eg2.trans e')
      clear Fa
      walk_at "m*"
      cases hf : fnd got c sp' ep with
      | none =>
        refine mFind4 hep ?_
        rw [hf]
        walk_at "m*"
        refine PyProof.Rows.lt_int ?_
        walk_at "m*"
        refine ite_t rfl ?_
        rename_i s10 F10
        walk_at "m*"
        refine Ret.mk ((eg2.trans e').trans F10.2.keep) F10.1 ?_
        rw [hr']; unfold ellGo; rw [hf]
      | some k =>
        refine mFind4 hep ?_
        rw [hf]
        walk_at "m*"
        refine PyProof.Rows.lt_int ?_
        walk_at "m*"
        refine ite_f (by simp) ?_
        walk_at "m*"
        refine mLenStr hcl ?_
        intro t5 k5
        refine PyProof.Rows.iadd_int ?_
        walk_at "m*"
        rename_i s11 F11
        refine ⟨g', _, [], Ext.refl _, F11, rfl, k + c.length, _, by walk_at "lk", (by rw [show ((k + c.length : Nat) : Int) = (k : Int) + (c.length : Int) by omega]; exact upd_here), by walk_at "lk", ?_⟩
        rw [hr']
        conv => lhs; unfold ellGo
        rw [hf]
    case done =>
      rintro g' m' mu' s9 e' ⟨rfl, sp', u1', j1, j2, j3, hr'⟩ Fa
      walk_at "m*"
      refine Ret.mk ((eg2.trans e').trans Fa.2.keep) Fa.1 ?_
      rw [hr', List.drop_eq_nil_of_le (by simp [strValues])]
      rfl
  have hws0 := hws'
  rw [← hts] at hws0 hwl hwn
  have tail1 : ∀ (s1 : Shared) (m1 : Str → Option Value) (g1 : Heap) (ti : List (Str × Tok)) (wl : Str) (ul : Tok) (n sp : Nat) (u1 u2 : Tok), Ext s.heap g1 → St s g1 s.heap.objs.size [(l, lst (strValues (ti ++ [(wl, ul)])) n)] m1 s1 →
      m1 (Str.ofString "got") = some (.str got t2) → m1 (Str.ofString "startpos") = some (.int (sp : Int) u1) → m1 (Str.ofString "endpos") = some (.int (got.length : Int) u2) → m1 (Str.ofString "ws") = some (.ref l) →
      (∀ z ∈ (ti ++ [(wl, ul)]).map (·.1), z.length ≤ 1000) → ti.length ≤ 1000 →
      ellM want got = (Txt.endswith got wl && (decide (sp ≤ got.length - wl.length) && ellGo got (got.length - wl.length) sp (if tl wl = [] then (ti ++ [(wl, ul)]).map (·.1) else ti.map (·.1)))) →
      wpAny (model prog w) A' (execs ((bodyAt w 28).drop 6) env) (fun fl s' => Ret s (fun v _ => v = .bool (ellM want got)) (.ok (.ret (match fl with | .ret v => v | _ => .none))) s') NoE s1 := by
    intro s1 m1 g1 ti wl ul n sp u1 u2 eg F1 k1 k2 k3 k4 hz htl hr
    have Gb : Gd w g1 := G.keeps eg
    have hwll : wl.length ≤ 1000 := hz wl (by simp)
    with_unfolding_all refine wpAny_execs_cons ?_
    walk_at "m*"
    refine neg_int ?_
    refine mItemLast (vs := strValues ti) (y := .str wl ul) (n := n) (by rw [strValues_append]; exact (F1.2.mem _ (.head _)).1) ?_
    walk_at "m*"
    rename_i s2' F2'
    refine mTruthStr (by omega) ?_
    refine split_b ?_ ?_ <;> intro hb
    · have hne : tl wl ≠ [] := by simpa using hb
      rw [if_neg hne] at hr
      walk_at "m*"
      refine SC.endswith ?_
      walk_at "m*"
      refine split_b ?_ ?_ <;> intro hb2
      · rw [hb2, Bool.true_and] at hr
        have hwg : wl.length ≤ got.length := by
          unfold Txt.endswith at hb2
          simp at hb2
          omega
        walk_at "m*"
        refine mLenStr (by omega) ?_
        intro t6 k6
        refine PyProof.Rows.isub_int ?_
        walk_at "m*"
        rename_i s3' F3'
        refine neg_int ?_
        refine mDel (vs := strValues (ti ++ [(wl, ul)])) (j := ti.length) F3' (by simp [strValues]; omega) (by decide) ?_ ?_
        · rw [seqIndex_back (by omega) (by simp [strValues]; omega)]
          congr 1; simp [strValues]; omega
        intro s4' F4'
        walk_at "n*"
        have e5 : (strValues (ti ++ [(wl, ul)])).eraseIdx ti.length = strValues ti := by
          simp [strValues, List.eraseIdx_append_of_length_le]
        rw [e5] at F4'
        refine tail2 s4' _ g1 ti (n + 1) sp (got.length - wl.length) u1 _ eg F4' (by walk_at "lk") (by walk_at "lk") (by rw [show ((got.length - wl.length : Nat) : Int) = (got.length : Int) - (wl.length : Int) by omega]; walk_at "lk") (by walk_at "lk") (by omega) (fun z hz' => hz z (by simp at hz' ⊢; exact .inl hz')) hr
      · walk_at "m*"
        refine Ret.mk (eg.trans F2'.2.keep) F2'.1 ?_
        rw [hr, hb2]; rfl
    · have hne : tl wl = [] := by simpa using hb
      rw [if_pos hne, ends_empty hne, Bool.true_and] at hr
      have h0 : wl.length = 0 := by rw [← tl_len, hne]; rfl
      rw [h0, Nat.sub_zero] at hr
      walk_at "n*"
      exact tail2 _ _ g1 (ti ++ [(wl, ul)]) n sp got.length u1 u2 eg F2' (by walk_at "lk") (by walk_at "lk") (by walk_at "lk") (by walk_at "lk") (Nat.le_refl _) hz hr
  -- the first word
  obtain ⟨⟨w0, u0⟩, tr, rfl⟩ : ∃ p tr, ts = p :: tr := by
    cases ts with
    | nil => simp at hws0
    | cons p tr => exact ⟨p, tr, rfl⟩
  obtain ⟨ti, ⟨wl, ul⟩, rfl⟩ : ∃ ti p, tr = ti ++ [p] := by
    rcases List.eq_nil_or_concat tr with rfl | ⟨ti, p, q⟩
    · simp at hws0
    · exact ⟨ti, p, by rw [q, List.concat_eq_append]⟩
  rw [← hts] at hres
  have hwll : w0.length ≤ 1000 := hwl w0 (by simp)
  have hres2 : ellM want got = (Txt.startswith got w0 && (Txt.endswith got wl && (decide (w0.length ≤ got.length - wl.length) && ellGo got (got.length - wl.length) w0.length (cutEnds w0 wl (((w0, u0) :: (ti ++ [(wl, ul)])).map (·.1)))))) := by
    rw [hres]
    unfold ellB
    rw [show (((w0, u0) :: (ti ++ [(wl, ul)])).map (·.1)).head? = some w0 from rfl,
      show (((w0, u0) :: (ti ++ [(wl, ul)])).map (·.1)).getLast? = some wl by simp [List.getLast?_cons]]
  refine mItem (vs := strValues ((w0, u0) :: (ti ++ [(wl, ul)]))) (n := 0) (F5.2.mem _ (.head _)).1 (by omega) (by omega) (y := .str w0 u0) rfl ?_
  walk_at "m*"
  rename_i s6 F6
  have Gb : Gd w g3 := G.keeps e0
  refine mTruthStr (by omega) ?_
  refine split_b ?_ ?_ <;> intro hb1
  · have hne : tl w0 ≠ [] := by simpa using hb1
    walk_at "m*"
    refine SC.startswith ?_
    walk_at "m*"
    refine split_b ?_ ?_ <;> intro hb2
    · rw [hb2, Bool.true_and] at hres2
      walk_at "m*"
      refine mLenStr (by omega) ?_
      intro t6 k6
      walk_at "m*"
      rename_i s7 F7
      refine mDel (vs := strValues ((w0, u0) :: (ti ++ [(wl, ul)]))) (j := 0) F7 (by simp [strValues] at hlen ⊢; simp at hwn; omega) (by decide) ?_ ?_
      · rw [seqIndex_at (by omega) (by simp [strValues]; omega)]; rfl
      intro s8 F8
      walk_at "n*"
      have e5 : (strValues ((w0, u0) :: (ti ++ [(wl, ul)]))).eraseIdx 0 = strValues (ti ++ [(wl, ul)]) := by simp [strValues]
      rw [e5] at F8
      refine tail1 s8 _ g3 ti wl ul 1 w0.length _ _ e0 F8 (by walk_at "lk") (by walk_at "lk") (by walk_at "lk") (by walk_at "lk") (fun z hz => hwl z (by simp at hz ⊢; exact .inr hz)) (by simp at hwn; omega) ?_
      rw [hres2]
      unfold cutEnds
      rw [if_neg hne]
      by_cases hl0 : tl wl = []
      · rw [if_pos hl0, if_pos hl0]; rfl
      · rw [if_neg hl0, if_neg hl0]; simp
    · walk_at "m*"
      refine Ret.mk (e0.trans F6.2.keep) F6.1 ?_
      rw [hres2, hb2]; rfl
  · have hne : tl w0 = [] := by simpa using hb1
    have h0 : w0.length = 0 := by rw [← tl_len, hne]; rfl
    rw [starts_empty hne, Bool.true_and, h0] at hres2
    walk_at "n*"
    refine tail1 _ _ g3 ((w0, u0) :: ti) wl ul 0 0 _ _ e0 F6 (by walk_at "lk") (by rw [show ((0 : Nat) : Int) = 0 from rfl]; walk_at "lk") (by walk_at "lk") (by walk_at "lk") (fun z hz => hwl z (by simpa using hz)) (by simp at hwn ⊢; omega) ?_
    rw [hres2]
    unfold cutEnds
    rw [if_pos hne]
    by_cases hl0 : tl wl = []
    · rw [if_pos hl0, if_pos hl0]; rfl
    · rw [if_neg hl0, if_neg hl0]; simp [List.dropLast]
end
end PartMEll
section PartMComp
open PySem PySem.W PySem.Calls PyProof.Rows
/-- a state that has only grown -/
noncomputable abbrev StR (s₀ : Shared) (g : Heap) (s : Shared) : Prop := Same s₀ s ∧ Ext g s.heap
section
variable {prog : Program} {w : World} {A : Around} {E : Value → Shared → Prop} {s s₀ : Shared} {env : Env} {g : Heap} {C : Addr} {m : Str → Option Value}
theorem ldR {x : Str} {pos : Pos} {v : Value} {Q : Value → Shared → Prop} (K : StR s₀ g s) (N : g.Ns C m) (hv : m x = some v) (h : Q v s)
    (hk : env.scope.kind = .function := by kernel_rfl) (hl : env.kindOf x = some .local := by kernel_rfl) (hL : env.locals = C := by kernel_rfl)
    (hd : (x == ("__debug__" : Str)) = false := by kernel_rfl) :
    wpAny (model prog w) A (eval (.Name x pos) env) Q E s := wpAny_Name (wpAny_loadName_local hk hl (hL ▸ N.keeps K.2) hv h) hd
theorem ldCR {x : Str} {pos : Pos} {v : Value} {c : Addr} {o : Obj} {Q : Value → Shared → Prop} (e : s.heap.get? c = some o) (ho : o.data = .cell (some v)) (h : Q v s)
    (hc : env.cells.lookup x = some c)
    (hk : env.scope.kind = .function := by kernel_rfl) (hl : env.kindOf x = some .cell := by kernel_rfl)
    (hd : (x == ("__debug__" : Str)) = false := by kernel_rfl) :
    wpAny (model prog w) A (eval (.Name x pos) env) Q E s := wpAny_Name (wpAny_loadName_cell hk hl hc ⟨o, e, ho⟩ h) hd
theorem ldBR {x : Str} {pos : Pos} {v : Value} {Q : Value → Shared → Prop} (G : Gd w g) (K : StR s₀ g s) (hv : bootBuiltins x = some v) (h : Q v s)
    (e : nsIn (Kf w) mainGlobals x = some none := by kernel_rfl) (hn : x ≠ "__name__" := by decide)
    (hk : env.scope.kind = .function := by kernel_rfl) (hx : env.kindOf x = some .globalImplicit := by kernel_rfl) (hg : env.globals = mainGlobals := by kernel_rfl) (hb : env.builtins = builtinsNs := by kernel_rfl)
    (hd : (x == ("__debug__" : Str)) = false := by kernel_rfl) :
    wpAny (model prog w) A (eval (.Name x pos) env) Q E s := by
  obtain ⟨mg, mb, a, b, c⟩ := (G.keeps K.2).top
  exact Name_function_global hk hx (loadGlobal_builtin (by rw [hg]; exact a) (mg_none_of (G.k.keeps K.2) a e) (by rw [hb]; exact b) ((c x hn).trans hv) h) hd
theorem StR.keeps {s₃ s₄ : Shared} (K : StR s₃ s₃.heap s₄) : PySem.Keeps s₃ s₄ := by
  obtain ⟨⟨h1, h2, h3⟩, e⟩ := K
  refine ⟨s₄.heap, s₄.toks, ?_, e⟩
  cases s₄; cases s₃; simp only at h1 h2 h3; subst h1 h2 h3; rfl
end

section
variable {prog : Program} {w : World} {A : Around} {E : Value → Shared → Prop} {s s₀ : Shared} {env : Env} {g : Heap} {L : Addr} {mu : List (Addr × Obj)} {m : Str → Option Value}
  {scope : Scope} {cl : List (Str × Addr)} {x : Str} {ifs : List Expr} {elt : Expr} {items : List Value} {p : Value → Bool} {F : Value → Value → Prop}

/-- what the turns of a comprehension must show -/
structure TurnsC (prog : Program) (w : World) (A : Around) (env : Env) (scope : Scope) (cl : List (Str × Addr)) (x : Str) (ifs : List Expr) (elt : Expr) (items : List Value) (p : Value → Bool) (F : Value → Value → Prop) (s₁ : Shared) : Prop where
  tests : ∀ C v s₃ m₃ E', v ∈ items → s₁.heap.get? C = none → s₃.heap.Ns C m₃ → m₃ x = some v → Ext s₁.heap s₃.heap →
    wpAny (model prog w) A (forIn ifs true fun c r => if r = true then do let ok ← isTrue c (compEnvC scope cl C env) (eval c (compEnvC scope cl C env)); pure (ForInStep.yield ok) else pure (ForInStep.yield r))
      (fun ok s₄ => ok = p v ∧ PySem.Keeps s₃ s₄) E' s₃
  elt : ∀ C v s₃ m₃ E', v ∈ items → p v = true → s₁.heap.get? C = none → s₃.heap.Ns C m₃ → m₃ x = some v → Ext s₁.heap s₃.heap →
    wpAny (model prog w) A (eval elt (compEnvC scope cl C env)) (fun y s₄ => F v y ∧ PySem.Keeps s₃ s₄) E' s₃

theorem quiet_of {s₁ : Shared} {o : Obj} (T : TurnsC prog w A env scope cl x ifs elt items p F s₁) :
    QuietOnC prog w A env scope cl x ifs elt [s₁.heap.objs.size] (fun i v => items.toArray[i]? = some v) p F { s₁ with heap := s₁.heap.push o } where
  tests := fun C i v s₃ m₃ E' hC hP hn hm hk _ => by
    have hx : Ext s₁.heap s₃.heap := fun b ob e => hk b ob (by simp; exact fun q => absurd (Heap.lt_size e) (q ▸ Nat.lt_irrefl _)) (Heap.get?_push_of_some _ e)
    refine T.tests C v s₃ m₃ E' (List.mem_of_getElem? (by simpa using hP)) ?_ hn hm hx
    cases q : s₁.heap.get? C with
    | none => rfl
    | some ob => have h1 := Heap.lt_size q; have h2 : s₁.heap.objs.size + 1 ≤ C := by rw [← Heap.size_push s₁.heap o]; exact hC
                 exact absurd h1 (Nat.not_lt.mpr (Nat.le_of_succ_le h2))
  elt := fun C i v s₃ m₃ E' hC hP hpv hn hm hk _ => by
    have hx : Ext s₁.heap s₃.heap := fun b ob e => hk b ob (by simp; exact fun q => absurd (Heap.lt_size e) (q ▸ Nat.lt_irrefl _)) (Heap.get?_push_of_some _ e)
    refine T.elt C v s₃ m₃ E' (List.mem_of_getElem? (by simpa using hP)) hpv ?_ hn hm hx
    cases q : s₁.heap.get? C with
    | none => rfl
    | some ob => have h1 := Heap.lt_size q; have h2 : s₁.heap.objs.size + 1 ≤ C := by rw [← Heap.size_push s₁.heap o]; exact hC
                 exact absurd h1 (Nat.not_lt.mpr (Nat.le_of_succ_le h2))
theorem items_eq {vs : List Value} (hl : vs.length = items.length) (h : ∀ (j : Nat) v, vs[j]? = some v → items.toArray[j]? = some v) : vs = items := by
  apply List.ext_getElem? 
  intro j
  cases hj : vs[j]? with
  | none =>
    have h1 : vs.length ≤ j := by simpa using hj
    rw [List.getElem?_eq_none (by omega)]
  | some v => have := h j v hj; simpa using this.symm

/-- [.. for x in (a list)] -/
theorem mCompL {l : Addr} {n : Nat} {Q : Value → Shared → Prop} (hh : A.handled = none) (Fs : St s₀ g L mu m s) (hl : s.heap.get? l = some (lst items n)) (hsz : items.length ≤ 1000000)
    (T : TurnsC prog w A env scope cl x ifs elt items p F s)
    (done : ∀ D ys n' g' s', Ext g g' → g.get? D = none → g'.get? D = some (lst ys n') → Paired F (items.filter p) ys → St s₀ g' L mu m s' → Q (.ref D) s') :
    wpAny (model prog w) A (pyIter (.ref l)) (fun it s₂ => ∃ I fp wr n P St, it = .ref I ∧ Walks prog w A I fp wr n P St ∧ n ≤ sizeLine ∧ St 0 s₂.heap ∧ (∀ b ∈ fp, b < s₂.heap.objs.size) ∧
      QuietOnC prog w A env scope cl x ifs elt wr P p F s₂ ∧
      (∀ D h' tk ys (vs : List Value), s₂.heap.get? D = none → h'.IsList D ys → h'.PlainList D ys → vs.length = n → (∀ j v, vs[j]? = some v → P j v) → Paired F (vs.filter p) ys.toList →
        (∀ b o, b ∉ wr → s₂.heap.get? b = some o → h'.get? b = some o) → Q (.ref D) { s₂ with heap := h', toks := tk })) E s := by
  have hls := isList_of hl
  have hne : l ≠ s.heap.objs.size := Nat.ne_of_lt (Heap.lt_size hl)
  refine wpAny_pyIter_list hls ?_
  have W := Walks.list (prog := prog) (w := w) hh s.heap.objs.size l hne items.toArray
  refine ⟨_, _, _, _, _, _, rfl, W, by rw [List.size_toArray]; exact small hsz, ⟨⟨_, Heap.get?_push_size _ rfl, rfl, rfl⟩, hls.push _⟩, ?_, quiet_of T, ?_⟩
  · intro b hb
    show b < (s.heap.push _).objs.size
    rw [Heap.size_push]
    rcases List.mem_cons.mp hb with rfl | hb
    · exact Nat.lt_succ_self _
    · rw [List.mem_singleton.mp hb]; exact Nat.lt_succ_of_lt (Heap.lt_size hl)
  · intro D h' tk ys vs hD _ hpl hlen hP hF hk
    obtain ⟨n', ho⟩ := hpl
    have hx : Ext s.heap h' := fun b ob e => hk b ob (by simp; exact fun q => absurd (Heap.lt_size e) (q ▸ Nat.lt_irrefl _)) (Heap.get?_push_of_some _ e)
    obtain ⟨g', e1, F', k⟩ := Fs.2.fresh hx
    have hDs : s.heap.get? D = none := (Ext.push _ _).none hD
    have hvs : vs = items := items_eq (by rw [hlen, List.size_toArray]) hP
    subst hvs
    exact done D ys.toList n' g' { s with heap := h', toks := tk } e1 (Fs.2.keep.none hDs) (k _ _ hDs (by simpa using ho)) hF ⟨Fs.1, F'⟩
/-- [.. for x in (a tuple)] -/
theorem mCompT {l : Addr} {Q : Value → Shared → Prop} (hh : A.handled = none) (Fs : St s₀ g L mu m s) (hl : s.heap.get? l = some (tup items)) (hsz : items.length ≤ 1000000)
    (T : TurnsC prog w A env scope cl x ifs elt items p F s)
    (done : ∀ D ys n' g' s', Ext g g' → g.get? D = none → g'.get? D = some (lst ys n') → Paired F (items.filter p) ys → St s₀ g' L mu m s' → Q (.ref D) s') :
    wpAny (model prog w) A (pyIter (.ref l)) (fun it s₂ => ∃ I fp wr n P St, it = .ref I ∧ Walks prog w A I fp wr n P St ∧ n ≤ sizeLine ∧ St 0 s₂.heap ∧ (∀ b ∈ fp, b < s₂.heap.objs.size) ∧
      QuietOnC prog w A env scope cl x ifs elt wr P p F s₂ ∧
      (∀ D h' tk ys (vs : List Value), s₂.heap.get? D = none → h'.IsList D ys → h'.PlainList D ys → vs.length = n → (∀ j v, vs[j]? = some v → P j v) → Paired F (vs.filter p) ys.toList →
        (∀ b o, b ∉ wr → s₂.heap.get? b = some o → h'.get? b = some o) → Q (.ref D) { s₂ with heap := h', toks := tk })) E s := by
  have hls : s.heap.IsTuple l items.toArray := ⟨_, hl, rfl, 0, rfl⟩
  have hne : l ≠ s.heap.objs.size := Nat.ne_of_lt (Heap.lt_size hl)
  refine wpAny_pyIter_tuple hls ?_
  have W := Walks.tuple (prog := prog) (w := w) hh s.heap.objs.size l hne items.toArray
  refine ⟨_, _, _, _, _, _, rfl, W, by rw [List.size_toArray]; exact small hsz, ⟨⟨_, Heap.get?_push_size _ rfl, rfl, rfl⟩, hls.at fun o e => Heap.get?_push_of_some _ e⟩, ?_, quiet_of T, ?_⟩
  · intro b hb
    show b < (s.heap.push _).objs.size
    rw [Heap.size_push]
    rcases List.mem_cons.mp hb with rfl | hb
    · exact Nat.lt_succ_self _
    · rw [List.mem_singleton.mp hb]; exact Nat.lt_succ_of_lt (Heap.lt_size hl)
  · intro D h' tk ys vs hD _ hpl hlen hP hF hk
    obtain ⟨n', ho⟩ := hpl
    have hx : Ext s.heap h' := fun b ob e => hk b ob (by simp; exact fun q => absurd (Heap.lt_size e) (q ▸ Nat.lt_irrefl _)) (Heap.get?_push_of_some _ e)
    obtain ⟨g', e1, F', k⟩ := Fs.2.fresh hx
    have hDs : s.heap.get? D = none := (Ext.push _ _).none hD
    have hvs : vs = items := items_eq (by rw [hlen, List.size_toArray]) hP
    subst hvs
    exact done D ys.toList n' g' { s with heap := h', toks := tk } e1 (Fs.2.keep.none hDs) (k _ _ hDs (by simpa using ho)) hF ⟨Fs.1, F'⟩
/-- y = [.. for x in (a list)] -/
theorem mACompL {l : Addr} {n : Nat} {y : Str} {Q : Flow → Shared → Prop} (hh : A.handled = none) (Fs : St s₀ g L mu m s) (hl : s.heap.get? l = some (lst items n)) (hsz : items.length ≤ 1000000)
    (hL : env.locals = L)
    (T : TurnsC prog w A env scope cl x ifs elt items p F s)
    (done : ∀ D ys n' g' s', Ext g g' → g.get? D = none → g'.get? D = some (lst ys n') → Paired F (items.filter p) ys → St s₀ g' L mu (upd m y (.ref D)) s' → Q .next s') :
    wpAny (model prog w) A (pyIter (.ref l)) (fun it s₂ => ∃ I fp wr n P St m, it = .ref I ∧ Walks prog w A I fp wr n P St ∧ n ≤ sizeLine ∧ St 0 s₂.heap ∧ (∀ b ∈ fp, b < s₂.heap.objs.size) ∧
      env.locals ∉ wr ∧ s₂.heap.Ns env.locals m ∧ QuietOnC prog w A env scope cl x ifs elt wr P p F s₂ ∧
      (∀ D h' tk ys (vs : List Value), s₂.heap.get? D = none → h'.IsList D ys → h'.PlainList D ys → vs.length = n → (∀ j v, vs[j]? = some v → P j v) → Paired F (vs.filter p) ys.toList →
        h'.Ns env.locals (fun z => if z = y then some (.ref D) else m z) → (∀ b o, b ≠ env.locals → b ∉ wr → s₂.heap.get? b = some o → h'.get? b = some o) → Q .next { s₂ with heap := h', toks := tk })) E s := by
  subst hL
  have hls := isList_of hl
  have hne : l ≠ s.heap.objs.size := Nat.ne_of_lt (Heap.lt_size hl)
  refine wpAny_pyIter_list hls ?_
  have W := Walks.list (prog := prog) (w := w) hh s.heap.objs.size l hne items.toArray
  refine ⟨_, _, _, _, _, _, m, rfl, W, by rw [List.size_toArray]; exact small hsz, ⟨⟨_, Heap.get?_push_size _ rfl, rfl, rfl⟩, hls.push _⟩, ?_, ?_, Fs.2.ns.keeps (Ext.push _ _), quiet_of T, ?_⟩
  · intro b hb
    show b < (s.heap.push _).objs.size
    rw [Heap.size_push]
    rcases List.mem_cons.mp hb with rfl | hb
    · exact Nat.lt_succ_self _
    · rw [List.mem_singleton.mp hb]; exact Nat.lt_succ_of_lt (Heap.lt_size hl)
  · intro q
    exact absurd Fs.2.ns.lt ((List.mem_singleton.mp q) ▸ Nat.lt_irrefl _)
  · intro D h' tk ys vs hD _ hpl hlen hP hF hns hk
    obtain ⟨n', ho⟩ := hpl
    have hx : ∀ b ob, b ≠ env.locals → s.heap.get? b = some ob → h'.get? b = some ob := fun b ob hb e => hk b ob hb (by simp; exact fun q => absurd (Heap.lt_size e) (q ▸ Nat.lt_irrefl _)) (Heap.get?_push_of_some _ e)
    have F1 : Fx g env.locals mu h' (upd m y (.ref D)) :=
      ⟨hns, fun b ob e => hx b ob (fun q => by rw [q, Fs.2.off] at e; cases e) (Fs.2.keep b ob e), Fs.2.off, fun q hq => ⟨hx _ _ (Fs.2.mem q hq).2.1 (Fs.2.mem q hq).1, (Fs.2.mem q hq).2⟩, Fs.2.nd⟩
    obtain ⟨g', e1, F', k⟩ := F1.rebase
    have hDs : s.heap.get? D = none := (Ext.push _ _).none hD
    have hvs : vs = items := items_eq (by rw [hlen, List.size_toArray]) hP
    subst hvs
    refine done D ys.toList n' g' { s with heap := h', toks := tk } e1 (Fs.2.keep.none hDs) (k _ _ (fun q => ?_) (fun q => ?_) (by simpa using ho)) hF ⟨Fs.1, F'⟩
    · obtain ⟨oL, _, _, hL, _⟩ := Fs.2.ns
      rw [← q, hDs] at hL; cases hL
    · obtain ⟨r, hr, rfl⟩ := List.mem_map.mp q
      rw [(Fs.2.mem r hr).1] at hDs; cases hDs
end
end PartMComp
section PartMWord
open PySem PySem.W PySem.Calls PyProof.Rows
/-- a tuple of texts -/
noncomputable def IsWord (h : Heap) (v : Value) (ts : List Str) : Prop := ∃ b us, v = .ref b ∧ h.get? b = some (tup (strValues us)) ∧ us.map (·.1) = ts
noncomputable abbrev Pr := List Str × Str
/-- a pair: a word, its filling -/
noncomputable def IsPair (h : Heap) (v : Value) (p : Pr) : Prop := ∃ a wv t, v = .ref a ∧ h.get? a = some (tup [wv, .str p.2 t]) ∧ IsWord h wv p.1
theorem IsWord.keeps {h h' : Heap} {v : Value} {ts : List Str} (x : Ext h h') (y : IsWord h v ts) : IsWord h' v ts := let ⟨b, us, e, o, q⟩ := y; ⟨b, us, e, x _ _ o, q⟩
theorem IsPair.keeps {h h' : Heap} {v : Value} {p : Pr} (x : Ext h h') (y : IsPair h v p) : IsPair h' v p := let ⟨a, wv, t, e, o, q⟩ := y; ⟨a, wv, t, e, x _ _ o, q.keeps x⟩
theorem pairedMono {α β : Type} {F G : α → β → Prop} (h : ∀ a b, F a b → G a b) : ∀ {l : List α} {r : List β}, Paired F l r → Paired G l r
  | _, _, .nil => .nil
  | _, _, .cons x t => .cons (h _ _ x) (pairedMono h t)
theorem pairedGet {α β : Type} {F : α → β → Prop} : ∀ {l : List α} {r : List β}, Paired F l r → ∀ (i : Nat) a, l[i]? = some a → ∃ b, r[i]? = some b ∧ F a b
  | _, _, .nil, i, a, h => by simp at h
  | _, _, .cons x t, 0, a, h => by simp at h; subst h; exact ⟨_, rfl, x⟩
  | _, _, .cons x t, i + 1, a, h => pairedGet t i a (by simpa using h)
theorem pairedLast {α β : Type} {F : α → β → Prop} {l : List α} {r : List β} {b : β} (h : Paired F l (r ++ [b])) : ∃ l' a, l = l' ++ [a] ∧ Paired F l' r ∧ F a b := by
  induction r generalizing l with
  | nil => cases h with
    | cons x t => cases t with
      | nil => exact ⟨[], _, rfl, .nil, x⟩
  | cons c r ih => cases h with
    | cons x t =>
      obtain ⟨l', a, rfl, h1, h2⟩ := ih t
      exact ⟨_ :: l', a, rfl, .cons x h1, h2⟩
theorem pairedNil {α β : Type} {F : α → β → Prop} {l : List α} (h : Paired F l ([] : List β)) : l = [] := by cases h; rfl
noncomputable def allW : List (List Str) := [[Str.ofString "a"], [Str.ofString ".", Str.ofString "."], [Str.ofString "..."], [Str.ofString "a", Str.ofString "..."], [], [Str.ofString "."], [Str.ofString "...", Str.ofString "b"], [Str.ofString "b"]]
theorem word_shaped : ∀ ts ∈ allW, SeqAt.shaped (.tuple (ts.map .str)) = true := by decide +kernel
theorem readsAll_strs {h : Heap} : ∀ us : List (Str × Tok), ReadsAll h (strValues us) ((us.map (·.1)).map .str) []
  | [] => .nil
  | u :: r => ReadsAll.cons (as := []) (bs := []) (.str _ _) (readsAll_strs r)
theorem reads_word {h : Heap} {v : Value} {ts : List Str} (x : IsWord h v ts) : Reads h v (.tuple (ts.map .str)) [] := by
  obtain ⟨b, us, rfl, o, rfl⟩ := x
  exact reads_tuple_at o rfl rfl (readsAll_strs us)
theorem eqvAll_strs : ∀ a b : List Str, PyData.eqvAll (a.map PyData.str) (b.map PyData.str) = decide (a = b)
  | [], [] => by simp [PyData.eqvAll]
  | [], _ :: _ => by simp [PyData.eqvAll]
  | _ :: _, [] => by simp [PyData.eqvAll]
  | x :: r, y :: t => by
    simp only [List.map_cons, PyData.eqvAll, PyData.eqv, eqvAll_strs r t]
    by_cases h : x = y <;> by_cases h' : r = t <;> simp [h, h']
section
variable {prog : Program} {w : World} {A : Around} {E : Value → Shared → Prop} {s s₀ : Shared} {env : Env} {g : Heap} {L l : Addr} {mu : List (Addr × Obj)} {m : Str → Option Value} {vs : List Value} {n : Nat} {x y : Value} {Q : Value → Shared → Prop}
theorem mEqW {va vb : Value} {ts us : List Str} (ha : IsWord s.heap va ts) (hb : IsWord s.heap vb us) (h1 : ts ∈ allW) (h2 : us ∈ allW) (hu : A.units + 64 < cLine) (h : Q (.bool (decide (ts = us))) s) :
    wpAny (model prog w) A (compareOp .Eq va vb) Q E s := by
  refine eq_dataH (reads_word ha) (reads_word hb) (word_shaped _ h1) (word_shaped _ h2) hu ?_
  rw [PyData.eqv, eqvAll_strs]; exact h
theorem mNeW {va vb : Value} {ts us : List Str} (ha : IsWord s.heap va ts) (hb : IsWord s.heap vb us) (h1 : ts ∈ allW) (h2 : us ∈ allW) (hu : A.units + 64 < cLine) (h : Q (.bool (!decide (ts = us))) s) :
    wpAny (model prog w) A (compareOp .NotEq va vb) Q E s := by
  refine ne_dataH (reads_word ha) (reads_word hb) (word_shaped _ h1) (word_shaped _ h2) hu ?_
  rw [PyData.eqv, eqvAll_strs]; exact h
theorem mItemTA {value slice : Expr} {k : Int} {u : Tok} (e : s.heap.get? l = some (tup vs)) (h0 : 0 ≤ k) (h1 : k < 1000000) (hx : vs[k.toNat]? = some y) (h : Q y s)
    (hs : subscripted slice false (.ref l) (.int k u) = operate [.ref l, .int k u] (getItem (.ref l) (.int k u)) := by kernel_rfl) :
    wpAny (model prog w) A (subscriptTail value slice (.ref l) (.int k u)) Q E s := by
  have hlt : k.toNat < vs.length := by
    rcases Nat.lt_or_ge k.toNat vs.length with q | q
    · exact q
    · rw [List.getElem?_eq_none q] at hx; cases hx
  refine tail_any (T := "tuple") ⟨_, e, rfl⟩ PySem.F.slot_tuple_getitem.lookup (getItem_tuple (isTup_of e) (by omega) (by omega) (j := k.toNat) ?_ (by simpa using hx) h) hs
  rw [List.size_toArray]
  exact seqIndex_at h0 (by omega)
end
end PartMWord
section PartMKept
open PySem PySem.W PySem.Calls PyProof.Rows
noncomputable abbrev ddW : List Str := [Str.ofString ".", Str.ofString "."]
noncomputable abbrev dW : List Str := [Str.ofString "."]
noncomputable def keptStep (rt : Bool) (acc : List Pr) (p : Pr) : List Pr :=
  if p.1 = ddW then (if acc.getLast?.any (fun q => !decide (q.1 = ddW)) = true then acc.dropLast else if rt = false then acc ++ [p] else acc)
  else if p.1 ≠ [] ∧ p.1 ≠ dW then acc ++ [p] else acc
noncomputable def keptOf (rt : Bool) (ps : List Pr) : List Pr := ps.foldl (keptStep rt) []
theorem take_step' {α β : Type} (f : β → α → β) (z : β) {l : List α} {i : Nat} {c : α} (h : l[i]? = some c) : (l.take (i + 1)).foldl f z = f ((l.take i).foldl f z) c := by
  rw [List.take_add_one, h]; simp
theorem keptStep_len {rt : Bool} {acc : List Pr} {p : Pr} : (keptStep rt acc p).length ≤ acc.length + 1 := by
  unfold keptStep; (repeat' split) <;> simp <;> omega
theorem keptStep_mem {rt : Bool} {acc : List Pr} {p q : Pr} (h : q ∈ keptStep rt acc p) : q ∈ acc ∨ q = p := by
  unfold keptStep at h
  (repeat' split at h)
  all_goals first
    | exact .inl h
    | exact .inl (List.dropLast_subset _ h)
    | (rcases List.mem_append.mp h with z | z; exact .inl z; exact .inr (List.mem_singleton.mp z))
theorem kept_len (rt : Bool) : ∀ (ps acc : List Pr), (ps.foldl (keptStep rt) acc).length ≤ acc.length + ps.length
  | [], acc => by simp
  | p :: r, acc => by
    have h := kept_len rt r (keptStep rt acc p)
    have := keptStep_len (rt := rt) (acc := acc) (p := p)
    simp only [List.foldl_cons, List.length_cons]; omega
theorem kept_mem (rt : Bool) : ∀ (ps acc : List Pr) (q : Pr), q ∈ ps.foldl (keptStep rt) acc → q ∈ acc ∨ q ∈ ps
  | [], _, _, h => .inl h
  | p :: r, acc, q, h => by
    rcases kept_mem rt r _ q h with z | z
    · rcases keptStep_mem z with z | z
      · exact .inl z
      · exact .inr (z ▸ .head _)
    · exact .inr (.tail _ z)
theorem ddW_mem : ddW ∈ allW := by decide
theorem dW_mem : dW ∈ allW := by decide
theorem nilW_mem : ([] : List Str) ∈ allW := by decide
theorem isWord_new {h : Heap} {a : Addr} {us : List (Str × Tok)} {vs : List Value} (e : h.get? a = some { cls := .type "tuple", data := .seq vs.toArray }) (hv : vs = strValues us) : IsWord h (.ref a) (us.map (·.1)) := ⟨a, us, rfl, by rw [e, hv], rfl⟩
section
variable {prog : Program} {w : World} {A : Around} {E : Value → Shared → Prop} {s : Shared}
set_option maxHeartbeats 8000000 in
theorem kept_spec {li : Addr} {vs : List Value} {ni : Nat} {ps : List Pr} {rt : Bool} (G : Gd w s.heap) (hd : A.depth + 2 < recursionLimit) (hu : A.units + 200 < cLine) (hah : A.handled = none)
    (hli : s.heap.get? li = some (lst vs ni)) (hps : Paired (IsPair s.heap) vs ps) (hall : ∀ p ∈ ps, p.1 ∈ allW) (hpn : ps.length ≤ 100) :
    codeAny (model prog w) A (.call (.ref 127) ⟨[.ref li, .bool rt], []⟩) (Ret s fun v h => ∃ l ys n, v = .ref l ∧ s.heap.get? l = none ∧ h.get? l = some (lst ys n) ∧ Paired (IsPair h) ys (keptOf rt ps)) s := by
  refine enter G (o := ?o) (fd := ?fd) (body := ?bd) (binds := [(Str.ofString "items", .ref li), (Str.ofString "rooted", .bool rt)]) ?ho ?hdata (by omega) ?hbody ?hbind ?hcd ?hcell ?hloc ?h ?hco ?hgen ?hk
  walk_at "ent"
  intro A' s' hh hdp hun F env
  change St s s.heap s.heap.objs.size [] (upd (upd (fun _ => none) (Str.ofString "items") (.ref li)) (Str.ofString "rooted") (.bool rt)) s' at F
  have hu' : A'.units + 64 < cLine := by omega
  walk_at "m*"
  refine mListMu (by assumption) (by simp) ?_
  intro l s1 F1
  have hln : s.heap.get? l = none := (F1.2.mem _ (.head _)).2.2
  walk_at "m*"
  rename_i s2 F2
  have hvl : vs.length = ps.length := hps.length
  refine forList (mu := [(l, lst [] 0)]) (rest := []) (fun i g' m' mu' => ∃ ys n, mu' = [(l, lst ys n)] ∧ Paired (IsPair g') ys ((ps.take i).foldl (keptStep rt) []) ∧
      m' (Str.ofString "rooted") = some (.bool rt) ∧ m' (Str.ofString "kept") = some (.ref l)) (isList_of hli) (hh.trans hah) F2 ?h0 ?turn ?done
  case h0 => exact ⟨[], 0, rfl, .nil, by walk_at "lk", by walk_at "lk"⟩
  case done =>
    rintro g' m' mu' s9 e' ⟨ys, n, rfl, hys, k1, k2⟩ Fa
    have Fb : St s g' s.heap.objs.size ((l, lst ys n) :: []) m' s9 := Fa
    clear Fa
    walk_at "m*"
    refine Ret.mk (e'.trans Fb.2.keep) Fb.1 ⟨l, ys, n, rfl, hln, (Fb.2.mem _ (.head _)).1, ?_⟩
    rw [List.take_of_length_le (by rw [List.size_toArray]; omega)] at hys
    exact pairedMono (fun _ _ x => x.keeps Fb.2.keep) hys
  case turn =>
    rintro i v g' m' mu' own s9 hv e' ⟨ys, n, rfl, hys, k1, k2⟩ Fa
    obtain ⟨p, hp, hvp⟩ := pairedGet hps i v (by simpa using hv)
    have hpm := hall p (List.mem_of_getElem? hp)
    have hil : i < ps.length := (List.getElem?_eq_some_iff.mp hp).1
    have hyl : ys.length ≤ 100 := by
      rw [hys.length]
      have := kept_len rt (ps.take i) []
      rw [List.length_take] at this; simp at this; omega
    obtain ⟨pa, wv, tp, rfl, hpa, hwv⟩ := hvp
    have hst : ((ps.take (i + 1)).foldl (keptStep rt) []) = keptStep rt ((ps.take i).foldl (keptStep rt) []) p := take_step' _ _ hp
    generalize hacc : (ps.take i).foldl (keptStep rt) [] = acc at hys hst
    have hvp : IsPair g' (.ref pa) p := ⟨pa, wv, tp, rfl, e' _ _ hpa, hwv.keeps e'⟩
    have Fb : St s g' s.heap.objs.size ((l, lst ys n) :: own) (upd m' (Str.ofString "pair") (.ref pa)) s9 := Fa
    clear Fa
    have fin : ∀ gz sz ys' n', Ext g' gz → St s gz s.heap.objs.size ((l, lst ys' n') :: own) (upd m' (Str.ofString "pair") (.ref pa)) sz → Paired (IsPair gz) ys' (keptStep rt acc p) →
        ∃ g'' m'' mu'', Ext g' g'' ∧ St s g'' s.heap.objs.size (mu'' ++ own) m'' sz ∧ ∃ ys n, mu'' = [(l, lst ys n)] ∧ Paired (IsPair g'') ys ((ps.take (i + 1)).foldl (keptStep rt) []) ∧
      m'' (Str.ofString "rooted") = some (.bool rt) ∧ m'' (Str.ofString "kept") = some (.ref l) := fun gz sz ys' n' ez Fz hz =>
      ⟨gz, _, [(l, _)], ez, Fz, ys', n', rfl, by rw [hst]; exact hz, by walk_at "lk", by walk_at "lk"⟩
    have hmemq : ∀ q ∈ acc, q.1 ∈ allW := fun q hq => by
      rw [← hacc] at hq
      rcases kept_mem rt _ _ q hq with z | z
      · cases z
      · exact hall q (List.mem_of_mem_take z)
    walk_at "m*"
    refine mItemTA (vs := [wv, .str p.2 tp]) (Fb.2.keep _ _ (e' _ _ hpa)) (by omega) (by omega) (y := wv) rfl ?_
    walk_at "m*"
    refine mTup Fb (small (Nat.le_of_ble_eq_true rfl)) ?_
    intro a1 g1 s1 e1 hn1 ha1 Fc
    have hw1 : IsWord s1.heap (.ref a1) ddW := (isWord_new (us := [(Str.ofString ".", _), (Str.ofString ".", _)]) ha1 rfl).keeps Fc.2.keep
    refine mEqW (hwv.keeps (e'.trans (e1.trans Fc.2.keep))) hw1 hpm ddW_mem hu' ?_
    walk_at "m*"
    refine split_b ?_ ?_ <;> intro hb1
    · have hdd : p.1 = ddW := by simpa using hb1
      walk_at "m*"
      rcases List.eq_nil_or_concat acc with hnil | ⟨ai, q, hcon⟩
      · subst hnil
        have := pairedNil hys
        subst this
        refine mTruthList (Fc.2.mem _ (.head _)).1 (by simp) ?_
        refine ite_f rfl ?_
        refine ite_f rfl ?_
        walk_at "m*"
        cases hrt : rt with
        | true =>
          subst hrt
          refine ite_f rfl ?_
          walk_at "m*"
          refine fin g1 _ [] n e1 Fc ?_
          unfold keptStep; rw [if_pos hdd]; exact .nil
        | false =>
          subst hrt
          refine ite_t rfl ?_
          walk_at "m*"
          refine mGetAppend (Fc.2.mem _ (.head _)).1 ?_
          walk_at "m*"
          refine mAppend Fc (by simp) ?_
          intro s10 F10
          walk_at "m*"
          refine fin g1 _ _ _ e1 F10 ?_
          unfold keptStep; rw [if_pos hdd]; exact .cons (hvp.keeps e1) .nil
      · rw [List.concat_eq_append] at hcon
        subst hcon
        obtain ⟨yi, z, rfl, hyi, hz⟩ := pairedLast hys
        obtain ⟨za, zw, tz, rfl, hza, hzw⟩ := hz
        refine mTruthList (Fc.2.mem _ (.head _)).1 (by omega) ?_
        refine ite_t (by simp) ?_
        walk_at "m*"
        refine neg_int ?_
        refine mItemLast (vs := yi) (y := .ref za) (n := n) (Fc.2.mem _ (.head _)).1 ?_
        walk_at "m*"
        refine mItemTA (vs := [zw, .str q.2 tz]) (Fc.2.keep _ _ (e1 _ _ hza)) (by omega) (by omega) (y := zw) rfl ?_
        walk_at "m*"
        refine mTup Fc (small (Nat.le_of_ble_eq_true rfl)) ?_
        intro a2 g2 s2 e2 hn2 ha2 Fd
        have hw2 : IsWord s2.heap (.ref a2) ddW := (isWord_new (us := [(Str.ofString ".", _), (Str.ofString ".", _)]) ha2 rfl).keeps Fd.2.keep
        refine mNeW (hzw.keeps (e1.trans (e2.trans Fd.2.keep))) hw2 (hmemq q (by simp)) ddW_mem hu' ?_
        walk_at "m*"
        refine split_b ?_ ?_ <;> intro hb2
        · walk_at "m+"
          refine mGetPop (Fd.2.mem _ (.head _)).1 ?_
          walk_at "m*"
          refine mPop (vs := yi) (y := .ref za) Fd (by simp at hyl; omega) ?_
          intro s10 F10
          walk_at "m*"
          refine fin g2 _ _ _ (e1.trans e2) F10 ?_
          unfold keptStep
          rw [if_pos hdd, if_pos (by simpa using hb2)]
          simpa using pairedMono (fun _ _ x => x.keeps (e1.trans e2)) hyi
        · walk_at "m+"
          have hq2 : ¬ (Option.any (fun q => !decide (q.1 = ddW)) (ai ++ [q]).getLast?) = true := by simpa using hb2
          cases hrt : rt with
          | true =>
            subst hrt
            refine ite_f rfl ?_
            walk_at "m*"
            refine fin g2 _ _ _ (e1.trans e2) Fd ?_
            unfold keptStep
            rw [if_pos hdd, if_neg hq2, if_neg (by simp)]
            exact pairedMono (fun _ _ x => x.keeps (e1.trans e2)) hys
          | false =>
            subst hrt
            refine ite_t rfl ?_
            walk_at "m*"
            refine mGetAppend (Fd.2.mem _ (.head _)).1 ?_
            walk_at "m*"
            refine mAppend Fd (by omega) ?_
            intro s10 F10
            walk_at "m*"
            refine fin g2 _ _ _ (e1.trans e2) F10 ?_
            unfold keptStep
            rw [if_pos hdd, if_neg hq2, if_pos rfl]
            exact (pairedMono (fun _ _ x => x.keeps (e1.trans e2)) hys).snoc (hvp.keeps (e1.trans e2))
    · have hdd : p.1 ≠ ddW := by simpa using hb1
      walk_at "m*"
      refine mItemTA (vs := [wv, .str p.2 tp]) (Fc.2.keep _ _ (e1 _ _ (e' _ _ hpa))) (by omega) (by omega) (y := wv) rfl ?_
      walk_at "m*"
      refine mTup Fc (small (Nat.le_of_ble_eq_true rfl)) ?_
      intro a2 g2 s2 e2 hn2 ha2 Fd
      have hw2 : IsWord s2.heap (.ref a2) [] := (isWord_new (us := []) ha2 rfl).keeps Fd.2.keep
      refine mNeW (hwv.keeps (e'.trans (e1.trans (e2.trans Fd.2.keep)))) hw2 hpm nilW_mem hu' ?_
      walk_at "m*"
      refine split_b ?_ ?_ <;> intro hb2
      · have hne : p.1 ≠ [] := by simpa using hb2
        walk_at "m*"
        refine mItemTA (vs := [wv, .str p.2 tp]) (Fd.2.keep _ _ (e2 _ _ (e1 _ _ (e' _ _ hpa)))) (by omega) (by omega) (y := wv) rfl ?_
        walk_at "m*"
        refine mTup Fd (small (Nat.le_of_ble_eq_true rfl)) ?_
        intro a3 g3 s3 e3 hn3 ha3 Fe
        have hw3 : IsWord s3.heap (.ref a3) dW := (isWord_new (us := [(Str.ofString ".", _)]) ha3 rfl).keeps Fe.2.keep
        have e123 : Ext g' g3 := e1.trans (e2.trans e3)
        refine mNeW (hwv.keeps (e'.trans (e123.trans Fe.2.keep))) hw3 hpm dW_mem hu' ?_
        walk_at "m*"
        refine split_b ?_ ?_ <;> intro hb3
        · have hnd : p.1 ≠ dW := by simpa using hb3
          walk_at "m+"
          refine mGetAppend (Fe.2.mem _ (.head _)).1 ?_
          walk_at "m*"
          refine mAppend Fe (by omega) ?_
          intro s10 F10
          walk_at "m*"
          refine fin g3 _ _ _ e123 F10 ?_
          unfold keptStep
          rw [if_neg hdd, if_pos ⟨hne, hnd⟩]
          exact (pairedMono (fun _ _ x => x.keeps e123) hys).snoc (hvp.keeps e123)
        · walk_at "m+"
          refine fin g3 _ _ _ e123 Fe ?_
          unfold keptStep
          rw [if_neg hdd, if_neg (by rintro ⟨_, q⟩; exact q (by simpa using hb3))]
          exact pairedMono (fun _ _ x => x.keeps e123) hys
      · walk_at "m+"
        refine fin g2 _ _ _ (e1.trans e2) Fd ?_
        unfold keptStep
        rw [if_neg hdd, if_neg (by rintro ⟨q, _⟩; exact q (by simpa using hb2))]
        exact pairedMono (fun _ _ x => x.keeps (e1.trans e2)) hys
end
end PartMKept
section PartMEnum
open PySem PySem.W PySem.Calls PyProof.Rows
section
variable {g h h' : Heap} {L : Addr} {a b : List (Addr × Obj)} {m : Str → Option Value}
theorem Fx.turn2At {e i : Addr} {o1 o2 p1 p2 : Obj} (F : Fx g L (a ++ (e, o1) :: (i, o2) :: b) h m) (hs : ∀ q x, q ≠ e → q ≠ i → h.get? q = some x → h'.get? q = some x)
    (h1 : h'.get? e = some p1) (h2 : h'.get? i = some p2) : Fx g L (a ++ (e, p1) :: (i, p2) :: b) h' m := by
  have H1 := F.mem (e, o1) (List.mem_append_right _ (.head _))
  have H2 := F.mem (i, o2) (List.mem_append_right _ (.tail _ (.head _)))
  have hnd : (a.map (·.1) ++ e :: i :: b.map (·.1)).Nodup := by have := F.nd; rw [List.map_append, List.map_cons, List.map_cons] at this; exact this
  obtain ⟨n1, n2, n3⟩ := List.nodup_append.mp hnd
  refine ⟨F.ns.at' fun x q => hs _ x (Ne.symm H1.2.1) (Ne.symm H2.2.1) q, fun q x z => hs q x (fun y => by rw [y, H1.2.2] at z; cases z) (fun y => by rw [y, H2.2.2] at z; cases z) (F.keep q x z), F.off, fun p hp => ?_, by rw [List.map_append, List.map_cons, List.map_cons]; exact hnd⟩
  rcases List.mem_append.mp hp with hp | hp
  · have P := F.mem p (List.mem_append_left _ hp)
    exact ⟨hs _ _ (fun z => n3 p.1 (List.mem_map_of_mem hp) e (.head _) z) (fun z => n3 p.1 (List.mem_map_of_mem hp) i (.tail _ (.head _)) z) P.1, P.2⟩
  · rcases List.mem_cons.mp hp with rfl | hp
    · exact ⟨h1, H1.2⟩
    · rcases List.mem_cons.mp hp with rfl | hp
      · exact ⟨h2, H2.2⟩
      · have P := F.mem p (List.mem_append_right _ (.tail _ (.tail _ hp)))
        refine ⟨hs _ _ (fun z => ?_) (fun z => ?_) P.1, P.2⟩
        · exact (List.nodup_cons.mp n2).1 (.tail _ (List.mem_map.mpr ⟨p, hp, z⟩))
        · exact (List.nodup_cons.mp (List.nodup_cons.mp n2).2).1 (List.mem_map.mpr ⟨p, hp, z⟩)
theorem Fx.drop2At {e i : Addr} {o1 o2 : Obj} (F : Fx g L (a ++ (e, o1) :: (i, o2) :: b) h m) (hs : ∀ q x, q ≠ i → h.get? q = some x → h'.get? q = some x) : Fx g L (a ++ b) h' m := by
  have F1 : Fx g L ((a ++ [(e, o1)]) ++ (i, o2) :: b) h m := by rw [List.append_assoc]; exact F
  have F2 := F1.dropAt hs
  rw [List.append_assoc] at F2
  exact F2.dropAt (h' := h') fun q x _ z => z
end
section
variable {prog : Program} {w : World} {A : Around} {E : Value → Shared → Prop} {s s₀ : Shared} {env : Env} {g : Heap} {L l : Addr} {mu rest : List (Addr × Obj)} {m : Str → Option Value}
  {xi xv : Str} {pi pv pt : Pos} {x1 : Nat} {body : List Stmt} {items : List Value} {Q : Flow → Shared → Prop} {R' : Value → Shared → Prop}
noncomputable abbrev enumO (it : Addr) (i : Int) (old : Value) : Obj := { cls := .type "enumerate", dict := none, data := .fields #[.none, .bool false, .ref it, rawInt i, .none, old], slots := #[] }
/-- for xi, xv in enumerate(a list that stays) -/
theorem forEnum (J : Nat → Heap → (Str → Option Value) → List (Addr × Obj) → Prop) {n : Nat}
    (hl0 : g.get? l = some (lst items n)) (hh : A.handled = none) (F : St s₀ g L (mu ++ rest) m s) (h0 : J 0 g m mu)
    (turn : ∀ i v t g' m' mu' own s', items[i]? = some v → Ext g g' → J i g' m' mu' → St s₀ g' L (mu' ++ own) (upd (upd m' xi (.int (i : Int) t)) xv v) s' →
      wpAny (model prog w) A (execs body env) (TurnQ s₀ g' L own (J (i + 1)) Q) NoE s')
    (done : ∀ g' m' mu' s', Ext g g' → J items.length g' m' mu' → St s₀ g' L (mu' ++ rest) m' s' → Q .next s')
    (hk : env.scope.kind = .function := by kernel_rfl) (hxi : env.kindOf xi = some .local := by kernel_rfl) (hxv : env.kindOf xv = some .local := by kernel_rfl) (hL : env.locals = L := by kernel_rfl) :
    wpAny (model prog w) A (call (.type "enumerate") [.ref l]) (fun x s₁ => wpAny (model prog w) A (pyIter x) (fun it s₂ => codeAny (model prog w) A (.forLoop (.Tuple [.Name xi pi, .Name xv pv] x1 pt) it body [] env) (fun r s' => match r with | .ok f => Q f s' | .error e => R' e s') s₂) E s₁) E s := by
  subst hL
  have hp : (env.scope.kind == .class || (env.scope.kind == .module && env.locals != env.globals)) = false := by rw [hk]; rfl
  have hls : s.heap.IsList l items.toArray := isList_of (F.2.keep _ _ hl0)
  refine call_enumerate_list hls fun h1 he1 hit1 hz1 hk1 => ?_
  refine wpAny_pyIter_enum he1 ?_
  obtain ⟨oi, hoi, hoi'⟩ := id hit1
  have hlt : l < s.heap.objs.size := Heap.lt_size (F.2.keep _ _ hl0)
  have F1 : Fx g env.locals (mu ++ (s.heap.objs.size, oi) :: rest) h1 m := F.2.addAt hoi (get?_size_none _) hk1
  have hne : s.heap.objs.size + 1 ≠ s.heap.objs.size := Nat.succ_ne_self _
  have F2 : Fx g env.locals (mu ++ (s.heap.objs.size + 1, enumO s.heap.objs.size 0 .none) :: (s.heap.objs.size, oi) :: rest) h1 m := by
    have e0 : ∀ hx : Heap, hx = hideAll h1 [s.heap.objs.size + 1] → Fx g env.locals (mu ++ (s.heap.objs.size, oi) :: rest) hx m := fun hx ex => by
      subst ex
      have kk : ∀ q o, h1.get? q = some o → q ≠ s.heap.objs.size + 1 → (hideAll h1 [s.heap.objs.size + 1]).get? q = some o := fun q o e hq => hideAll_get _ e (by simpa using hq)
      have lt1 : ∀ q o, s.heap.get? q = some o → q ≠ s.heap.objs.size + 1 := fun q o e z => by have := Heap.lt_size e; rw [z] at this; exact absurd this (Nat.not_lt.mpr (Nat.le_succ _))
      obtain ⟨oL, es, ep, hL, hLr⟩ := F.2.ns
      refine ⟨⟨oL, es, ep, kk _ _ (hk1 _ _ hL) (lt1 _ _ hL), hLr⟩, fun q o e => kk _ _ (F1.keep _ _ e) (lt1 _ _ (F.2.keep _ _ e)), F1.off, fun q hq => ⟨kk _ _ (F1.mem q hq).1 ?_, (F1.mem q hq).2⟩, F1.nd⟩
      rcases List.mem_append.mp hq with hq | hq
      · exact lt1 _ _ (F.2.mem q (List.mem_append_left _ hq)).1
      · rcases List.mem_cons.mp hq with rfl | hq
        · exact Ne.symm hne
        · exact lt1 _ _ (F.2.mem q (List.mem_append_right _ hq)).1
    exact (e0 _ rfl).addAt he1 (hideAll_none _ (.head _)) fun q o e => of_hideAll _ e
  refine codeAny_forLoop_any
    (fun k s' => ∃ i g' m' mu' oe oi old, i ≤ items.length ∧ k = items.length + 1 - i ∧ Ext g g' ∧ J i g' m' mu' ∧ St s₀ g' env.locals (mu' ++ (s.heap.objs.size + 1, oe) :: (s.heap.objs.size, oi) :: rest) m' s' ∧
      IsEnum s'.heap (s.heap.objs.size + 1) s.heap.objs.size ((i : Nat) : Int) old ∧ s'.heap.IsListIter s.heap.objs.size l i) ?_ (items.length + 1)
    ⟨0, g, m, mu, enumO s.heap.objs.size 0 .none, oi, .none, Nat.zero_le _, rfl, Ext.refl _, h0, ⟨F.1, F2⟩, he1, hit1⟩
  rintro k s1 ⟨i, g', m', mu', oe, oi, old, hi, rfl, eg, hJ, Fa, he, hit⟩
  have hl1 : s1.heap.IsList l items.toArray := isList_of (Fa.2.keep _ _ (eg _ _ hl0))
  cases hv : items[i]? with
  | none =>
    have hsz : i = items.length := Nat.le_antisymm hi (by simpa using hv)
    subst hsz
    refine wpAny_pyNext_enum_end hh he hit hl1 (by simpa using hv) fun h2 he2 => wpAny_execs_nil ?_
    exact done g' m' mu' { s1 with heap := h2 } eg hJ ⟨Fa.1, Fa.2.drop2At fun q x hq z => he2 q x hq z⟩
  | some v =>
    have hlt : i < items.length := (List.getElem?_eq_some_iff.mp hv).1
    have heH : s.heap.objs.size + 1 < s1.heap.objs.size := Heap.lt_size he
    refine wpAny_pyNext_enum_item he hit hl1 (by simpa using hv) hne fun h2 heo hit2 ht2 hz2 hk2 => ?_
    refine wpAny_letOwnedTupleGo_enum heo fun h3 he3 hs3 => ?_
    replace hs3 : Heap.SameBut (s.heap.objs.size + 1) h2 h3 := hs3
    have ht3 : h3.IsTuple s1.heap.objs.size #[.int i s1.toks, v] := ⟨_, (hs3.2 _ (Nat.ne_of_gt heH)).trans ht2, rfl, _, rfl⟩
    have hit3 : h3.IsListIter s.heap.objs.size l (i + 1) := hit2.extBut hs3.extBut (Ne.symm hne)
    obtain ⟨oi3, hoi3, _⟩ := id hit3
    have F3 : Fx g' env.locals (mu' ++ (s.heap.objs.size + 1, enumO s.heap.objs.size ((i : Int) + 1) v) :: (s.heap.objs.size, oi3) :: rest) h3 m' := Fa.2.turn2At (fun q x h1 h2 z => (hs3.2 q h1).trans (hk2 q x h1 h2 z)) he3 hoi3
    refine wpAny_assign_Tuple hh ht3 rfl rfl fun h4 hx4 => ?_
    replace hx4 : Heap.ExtBut h3.objs.size h3 h4 := hx4
    have x4 : Ext h3 h4 := fun q x z => hx4 q x (fun y => by rw [y, get?_size_none] at z; cases z) z
    have F4 := F3.ext x4
    show wpAny _ A (do holding [v] (assign (.Name xi pi) env (.int i s1.toks)); do holding [] (assign (.Name xv pv) env v); pure ()) _ _ _
    refine wpAny_bind (wpAny_holding (wpAny_assign_Name (wpAny_storeName_local hxi F4.ns (fun h5 hn5 hs5 => ?_) hp)))
    have F5 := F4.set hn5 hs5
    refine wpAny_bind (wpAny_holding (wpAny_assign_Name (wpAny_storeName_local hxv F5.ns (fun h6 hn6 hs6 => wpAny_pure ?_) hp)))
    have F6 := F5.set hn6 hs6
    refine wpAny_mono (turn i v s1.toks g' m' mu' ((s.heap.objs.size + 1, enumO s.heap.objs.size ((i : Int) + 1) v) :: (s.heap.objs.size, oi3) :: rest) _ hv eg hJ ⟨Fa.1, F6⟩) (fun f s3 h3' => ?_) fun _ _ z => z.elim
    have fin : (∃ g'' m'' mu'', Ext g' g'' ∧ St s₀ g'' env.locals (mu'' ++ (s.heap.objs.size + 1, enumO s.heap.objs.size ((i : Int) + 1) v) :: (s.heap.objs.size, oi3) :: rest) m'' s3 ∧ J (i + 1) g'' m'' mu'') → ∃ mm, mm < items.length + 1 - i ∧ ∃ i g' m' mu' oe oi old, i ≤ items.length ∧ mm = items.length + 1 - i ∧ Ext g g' ∧ J i g' m' mu' ∧ St s₀ g' env.locals (mu' ++ (s.heap.objs.size + 1, oe) :: (s.heap.objs.size, oi) :: rest) m' s3 ∧
      IsEnum s3.heap (s.heap.objs.size + 1) s.heap.objs.size ((i : Nat) : Int) old ∧ s3.heap.IsListIter s.heap.objs.size l i := by
      rintro ⟨g'', m'', mu'', e2, F7, hJ'⟩
      refine ⟨items.length + 1 - (i + 1), by omega, i + 1, g'', m'', mu'', enumO s.heap.objs.size ((i : Int) + 1) v, oi3, v, hlt, rfl, eg.trans e2, hJ', F7, ?_, ?_⟩
      · have := (F7.2.mem (s.heap.objs.size + 1, enumO s.heap.objs.size ((i : Int) + 1) v) (List.mem_append_right _ (.head _))).1
        have e9 : ((i + 1 : Nat) : Int) = (i : Int) + 1 := by push_cast; rfl
        rw [e9]; exact this
      · have := (F7.2.mem (s.heap.objs.size, oi3) (List.mem_append_right _ (.tail _ (.head _)))).1
        exact hit3.at fun o z => by rw [hoi3] at z; cases z; exact this
    cases f with
    | ret v => exact h3'
    | brk => exact h3'
    | next => exact fin h3'
    | cont => exact fin h3'
end
end PartMEnum
section PartMTok
open PySem PySem.W PySem.Calls PyProof.Rows
noncomputable def tokBody : List Pr → List Str
  | [] => []
  | p :: r => p.1 ++ r.flatMap fun q => Str.ofString "/" :: q.1
theorem tokBody_snoc (l : List Pr) (p : Pr) : tokBody (l ++ [p]) = tokBody l ++ ((if l = [] then [] else [Str.ofString "/"]) ++ p.1) := by
  cases l with
  | nil => simp [tokBody]
  | cons q r => simp [tokBody]
noncomputable def tokensOf (rt : Bool) (ps : List Pr) : List Str :=
  let ts := (if rt = true then [Str.ofString "/"] else []) ++ tokBody ps
  if ts = [] then [Str.ofString "."] else ts
noncomputable def spelled (rt : Bool) (ts : List Str) : Str :=
  let x := (if rt = true then Str.ofString "/" else Str.ofString "") ++ Txt.join slash ts
  if x = Str.ofString "" then Str.ofString "." else x
section
variable {prog : Program} {w : World} {A : Around} {E : Value → Shared → Prop} {s s₀ : Shared} {g : Heap} {L l : Addr} {mu : List (Addr × Obj)} {m : Str → Option Value} {vs us : List Value} {n : Nat} {Q : Value → Shared → Prop}
theorem mExtendT {b : Addr} (F : St s₀ g L ((l, lst vs n) :: mu) m s) (hb : s.heap.get? b = some (tup us)) (h1 : vs.length ≤ 10000) (h2 : us.length ≤ 10000)
    (h : ∀ s' n', St s₀ g L ((l, lst (vs ++ us) n') :: mu) m s' → Q .none s') : wpAny (model prog w) A (call (.builtin "list.extend") [.ref l, .ref b]) Q E s := by
  have H := (F.2.mem _ (.head _)).1
  dsimp only at H
  refine call_meets PySem.F.slot_list_extend ⟨_, H, rfl⟩ PySem.F.entry_list_extend (PySem.F.args_list_extend_2 _ _) (AutoSeq1.list_extend_list_tuple_0 l vs.toArray n b us.toArray 0 ?_ ?_ ?_) ⟨H, hb, h { s with heap := _ } _ ⟨F.1, F.2.turn (o' := lst (vs ++ us) (if (vs ++ us).toArray.size == vs.toArray.size then n else n + 1)) (Heap.SameBut.update ..) ?_⟩⟩
  · exact extend_door (by rw [List.size_toArray, List.size_toArray]; exact small (by omega))
  · rw [List.size_toArray]; exact small (by omega)
  · rw [List.size_toArray, List.size_toArray]; exact Nat.le_succ_of_le (small (by omega))
  · have e1 : Obj.mapSeq (fun xs => xs ++ us.toArray) (lst vs n) = lst (vs ++ us) (if (vs ++ us).toArray.size == vs.toArray.size then n else n + 1) := by
      simp [Obj.mapSeq]
    rw [Heap.get?_update_self _ H (by rw [e1]; rfl), e1]

set_option maxHeartbeats 8000000 in
theorem spelled_spec {lt : Addr} {nt : Nat} {ts : List (Str × Tok)} {rt : Bool} (G : Gd w s.heap) (hd : A.depth + 2 < recursionLimit) (hah : A.handled = none)
    (hlt : s.heap.get? lt = some (lst (strValues ts) nt)) (h1 : ts.length ≤ 100) (h2 : ∀ z ∈ ts.map (·.1), z.length ≤ 100) :
    codeAny (model prog w) A (.call (.ref 134) ⟨[.ref lt, .bool rt], []⟩) (Ret s fun v _ => ∃ t, v = .str (spelled rt (ts.map (·.1))) t) s := by
  refine enter G (o := ?o) (fd := ?fd) (body := ?bd) (binds := [(Str.ofString "texts", .ref lt), (Str.ofString "rooted", .bool rt)]) ?ho ?hdata (by omega) ?hbody ?hbind ?hcd ?hcell ?hloc ?h ?hco ?hgen ?hk
  walk_at "ent"
  intro A' s' hh hdp hun F env
  change St s s.heap s.heap.objs.size [] (upd (upd (fun _ => none) (Str.ofString "texts") (.ref lt)) (Str.ofString "rooted") (.bool rt)) s' at F
  have hjl : (Txt.join (Str.ofString "/") (ts.map (·.1))).length ≤ 100000 := by
    unfold Txt.join
    rw [StrLaws.glued_eq_join]
    refine Nat.le_trans (StrLaws.join_length_le _ _) ?_
    have := StrLaws.sumLen_le _ h2
    have hn : (ts.map (·.1)).length ≤ 100 := by simpa using h1
    have h2 : (ts.map (·.1)).length * 100 ≤ 100 * 100 := Nat.mul_le_mul hn (Nat.le_refl _)
    have h3 : (ts.map (·.1)).length * (Str.ofString "/").length ≤ 100 * 1 := Nat.mul_le_mul hn (by decide)
    omega
  have hjo : JoinOk (Str.ofString "/") (ts.map (·.1)) = true := joinOk_of (by decide) (by simp; omega) (fun z hz => Nat.le_trans (h2 z hz) (by omega))
  cases hrt : rt with
  | true =>
    subst hrt
    walk_at "m*"
    refine ite_t rfl ?_
    walk_at "m*"
    refine mJoin (F.2.keep _ _ hlt) hjo ?_
    intro t7 k7
    refine PyProof.Rows.add_str ?_ (small (by have : (Str.ofString "/").length = 1 := (by decide); omega))
    intro t8 k8
    walk_at "m*"
    rename_i s1 F1
    refine PyProof.Rows.ne_str ?_
    walk_at "m*"
    refine split_b ?_ ?_ <;> intro hb
    · walk_at "m*"
      refine Ret.mk F1.2.keep F1.1 ⟨t8, ?_⟩
      unfold spelled
      dsimp only
      rw [if_pos rfl, if_neg (by simpa using hb)]
    · walk_at "m*"
      have hsp : spelled true (ts.map (·.1)) = Str.ofString "." := by
        unfold spelled
        dsimp only
        rw [if_pos rfl, if_pos (by simpa using hb)]
      exact Ret.mk F1.2.keep F1.1 ⟨_, by rw [hsp]⟩
  | false =>
    subst hrt
    walk_at "m*"
    refine ite_f rfl ?_
    walk_at "m*"
    refine mJoin (F.2.keep _ _ hlt) hjo ?_
    intro t7 k7
    refine PyProof.Rows.add_str ?_ (small (by have : (Str.ofString "").length = 0 := (by decide); omega))
    intro t8 k8
    walk_at "m*"
    rename_i s1 F1
    refine PyProof.Rows.ne_str ?_
    walk_at "m*"
    refine split_b ?_ ?_ <;> intro hb
    · walk_at "m*"
      refine Ret.mk F1.2.keep F1.1 ⟨t8, ?_⟩
      unfold spelled
      dsimp only
      rw [show (if (false = true) then Str.ofString "/" else Str.ofString "") = Str.ofString "" from rfl, if_neg (by simpa using hb)]
    · walk_at "m*"
      have hsp : spelled false (ts.map (·.1)) = Str.ofString "." := by
        unfold spelled
        dsimp only
        rw [show (if (false = true) then Str.ofString "/" else Str.ofString "") = Str.ofString "" from rfl, if_pos (by simpa using hb)]
      exact Ret.mk F1.2.keep F1.1 ⟨_, by rw [hsp]⟩

set_option maxHeartbeats 8000000 in
theorem tokens_spec {lk : Addr} {nk : Nat} {ks : List Value} {ps : List Pr} {rt : Bool} (G : Gd w s.heap) (hd : A.depth + 2 < recursionLimit) (hah : A.handled = none)
    (hlk : s.heap.get? lk = some (lst ks nk)) (hps : Paired (IsPair s.heap) ks ps) (h1 : ps.length ≤ 100) (h2 : ∀ p ∈ ps, p.1.length ≤ 10) :
    codeAny (model prog w) A (.call (.ref 141) ⟨[.ref lk, .bool rt], []⟩) (Ret s fun v h => ∃ l ts n, v = .ref l ∧ s.heap.get? l = none ∧ h.get? l = some (lst (strValues ts) n) ∧ ts.map (·.1) = tokensOf rt ps) s := by
  refine enter G (o := ?o) (fd := ?fd) (body := ?bd) (binds := [(Str.ofString "kept", .ref lk), (Str.ofString "rooted", .bool rt)]) ?ho ?hdata (by omega) ?hbody ?hbind ?hcd ?hcell ?hloc ?h ?hco ?hgen ?hk
  walk_at "ent"
  intro A' s' hh hdp hun F env
  change St s s.heap s.heap.objs.size [] (upd (upd (fun _ => none) (Str.ofString "kept") (.ref lk)) (Str.ofString "rooted") (.bool rt)) s' at F
  have tail : ∀ (s1 : Shared) (l : Addr) (ts0 : List (Str × Tok)), St s s.heap s.heap.objs.size [(l, lst (strValues ts0) 0)] (upd (upd (upd (fun _ => none) (Str.ofString "kept") (.ref lk)) (Str.ofString "rooted") (.bool rt)) (Str.ofString "tokens") (.ref l)) s1 →
      ts0.map (·.1) = (if rt = true then [Str.ofString "/"] else []) →
      wpAny (model prog w) A' (execs ((bodyAt w 141).drop 1) env) (fun fl s' => Ret s (fun v h => ∃ l ts n, v = .ref l ∧ s.heap.get? l = none ∧ h.get? l = some (lst (strValues ts) n) ∧ ts.map (·.1) = tokensOf rt ps) (.ok (.ret (match fl with | .ret v => v | _ => .none))) s') NoE s1 := by
    intro s1 l ts0 F1 hts0
    have hln : s.heap.get? l = none := (F1.2.mem _ (.head _)).2.2
    have hl0 : ts0.length ≤ 1 := by have := congrArg List.length hts0; rw [List.length_map] at this; rw [this]; split <;> simp
    with_unfolding_all refine wpAny_execs_cons ?_
    walk_at "m*"
    refine forEnum (mu := [(l, lst (strValues ts0) 0)]) (rest := []) (fun i g' m' mu' => ∃ ts n, mu' = [(l, lst (strValues ts) n)] ∧ ts.map (·.1) = ts0.map (·.1) ++ tokBody (ps.take i) ∧ ts.length ≤ 1 + 11 * i ∧
      m' (Str.ofString "tokens") = some (.ref l)) hlk (hh.trans hah) F1 ?h0 ?turn ?done
    case h0 => exact ⟨ts0, 0, rfl, by simp [tokBody], by omega, by walk_at "lk"⟩
    case turn =>
      rintro i v ti g' m' mu' own s9 hv e' ⟨ts, n, rfl, hts, htl, k1⟩ Fa
      obtain ⟨p, hp, hvp⟩ := pairedGet hps i v hv
      have hil : i < ps.length := (List.getElem?_eq_some_iff.mp hp).1
      have hpl := h2 p (List.mem_of_getElem? hp)
      obtain ⟨pa, wv, tp, rfl, hpa, hwv⟩ := hvp
      obtain ⟨wb, us, rfl, hwb, hus⟩ := hwv
      have hul : us.length ≤ 10 := by rw [← hus] at hpl; simpa using hpl
      have htk : ps.take (i + 1) = ps.take i ++ [p] := by rw [List.take_add_one, hp]; rfl
      have Fb : St s g' s.heap.objs.size ((l, lst (strValues ts) n) :: own) (upd (upd m' (Str.ofString "place") (.int (i : Int) ti)) (Str.ofString "pair") (.ref pa)) s9 := Fa
      clear Fa
      have ext2 : ∀ sz ts' n', St s g' s.heap.objs.size ((l, lst (strValues ts') n') :: own) (upd (upd m' (Str.ofString "place") (.int (i : Int) ti)) (Str.ofString "pair") (.ref pa)) sz → ts'.map (·.1) = ts.map (·.1) ++ (if ps.take i = [] then [] else [Str.ofString "/"]) ++ p.1 → ts'.length ≤ ts.length + 11 →
        ∃ g'' m'' mu'', Ext g' g'' ∧ St s g'' s.heap.objs.size (mu'' ++ own) m'' sz ∧ ∃ ts n, mu'' = [(l, lst (strValues ts) n)] ∧ ts.map (·.1) = ts0.map (·.1) ++ tokBody (ps.take (i + 1)) ∧ ts.length ≤ 1 + 11 * (i + 1) ∧ m'' (Str.ofString "tokens") = some (.ref l) := fun sz ts' n' Fz hz hzl =>
        ⟨g', _, [(l, _)], Ext.refl _, Fz, ts', n', rfl, by rw [hz, hts, htk, tokBody_snoc]; simp [List.append_assoc], by omega, by walk_at "lk"⟩
      walk_at "m*"
      refine PyProof.Rows.gt_int ?_
      walk_at "m*"
      refine split_b ?_ ?_ <;> intro hb
      · have hi0 : 0 < i := by simp at hb; omega
        walk_at "m*"
        refine mGetAppend (Fb.2.mem _ (.head _)).1 ?_
        walk_at "m*"
        refine mAppend Fb (by simp [strValues]; omega) ?_
        intro s10 F10
        walk_at "m*"
        refine mGetExtend (F10.2.mem _ (.head _)).1 ?_
        walk_at "m*"
        refine mItemTA (vs := [.ref wb, .str p.2 tp]) (F10.2.keep _ _ (e' _ _ hpa)) (by omega) (by omega) (y := .ref wb) rfl ?_
        walk_at "m*"
        refine mExtendT F10 (F10.2.keep _ _ (e' _ _ hwb)) (by simp [strValues]; omega) (by simp [strValues]; omega) ?_
        intro s11 n11 F11
        walk_at "m*"
        rw [strValues_append, show ∀ a b : List (Str × Tok), strValues a ++ strValues b = strValues (a ++ b) from fun a b => by simp [strValues]] at F11
        refine ext2 _ _ _ F11 ?_ (by simp only [List.length_append, List.length_cons, List.length_nil]; omega)
        have hne : ps.take i ≠ [] := by
          intro q
          have := congrArg List.length q
          rw [List.length_take, List.length_nil] at this; omega
        rw [if_neg hne, ← hus]; simp
      · have hi0 : i = 0 := by simp at hb; omega
        walk_at "m*"
        refine mGetExtend (Fb.2.mem _ (.head _)).1 ?_
        walk_at "m*"
        refine mItemTA (vs := [.ref wb, .str p.2 tp]) (Fb.2.keep _ _ (e' _ _ hpa)) (by omega) (by omega) (y := .ref wb) rfl ?_
        walk_at "m*"
        refine mExtendT Fb (Fb.2.keep _ _ (e' _ _ hwb)) (by simp [strValues]; omega) (by simp [strValues]; omega) ?_
        intro s11 n11 F11
        walk_at "m*"
        rw [show ∀ a b : List (Str × Tok), strValues a ++ strValues b = strValues (a ++ b) from fun a b => by simp [strValues]] at F11
        refine ext2 _ _ _ F11 ?_ (by simp only [List.length_append, List.length_cons, List.length_nil]; omega)
        subst hi0
        rw [if_pos (by simp), ← hus]; simp
    case done =>
      rintro g' m' mu' s9 e' ⟨ts, n, rfl, hts, htl, k1⟩ Fa
      have Fb : St s g' s.heap.objs.size ((l, lst (strValues ts) n) :: []) m' s9 := Fa
      clear Fa
      rw [hps.length] at htl
      rw [List.take_of_length_le (by rw [hps.length]; exact Nat.le_refl _), hts0] at hts
      walk_at "m*"
      refine mTruthList (Fb.2.mem _ (.head _)).1 (by simp [strValues]; omega) ?_
      refine split_b ?_ ?_ <;> intro hb
      · walk_at "m*"
        refine Ret.mk (e'.trans Fb.2.keep) Fb.1 ⟨l, ts, n, rfl, hln, (Fb.2.mem _ (.head _)).1, ?_⟩
        unfold tokensOf
        dsimp only
        rw [if_neg, hts]
        rw [← hts]
        intro q
        have : ts = [] := by simpa using q
        subst this
        simp [strValues] at hb
      · walk_at "m*"
        refine mListMu Fb (small (Nat.le_of_ble_eq_true rfl)) ?_
        intro l2 s10 F10
        refine Ret.mk (e'.trans F10.2.keep) F10.1 ⟨l2, [(Str.ofString ".", _)], 0, rfl, e'.none (F10.2.mem _ (.head _)).2.2, (F10.2.mem _ (.head _)).1, ?_⟩
        unfold tokensOf
        dsimp only
        have : ts = [] := by simpa [strValues] using hb
        subst this
        rw [if_pos (by simpa using hts.symm)]; rfl
  cases hrt : rt with
  | true =>
    subst hrt
    walk_at "m*"
    refine ite_t rfl ?_
    walk_at "m*"
    refine mListMu F (small (Nat.le_of_ble_eq_true rfl)) ?_
    intro l s1 F1
    walk_at "n*"
    rename_i s2 F2
    exact tail s2 l [(Str.ofString "/", _)] F2 rfl
  | false =>
    subst hrt
    walk_at "m*"
    refine ite_f rfl ?_
    walk_at "m*"
    refine mListMu F (small (Nat.le_of_ble_eq_true rfl)) ?_
    intro l s1 F1
    walk_at "n*"
    rename_i s2 F2
    exact tail s2 l [] F2 rfl
end
end PartMTok
section PartMCell
open PySem PySem.W PySem.Calls PyProof.Rows
section
variable {prog : Program} {w : World} {A : Around} {E : Value → Shared → Prop} {s s₀ : Shared} {env : Env} {g : Heap} {L I c : Addr} {mu rest : List (Addr × Obj)} {m : Str → Option Value}
  {x : Str} {px : Pos} {body : List Stmt} {n : Nat} {P : Nat → Value → Prop} {Stt : Nat → Heap → Prop} {fp : List Addr} {oI o : Obj} {Q : Flow → Shared → Prop} {R' : Value → Shared → Prop}

theorem ldC {pos : Pos} {v : Value} {Q : Value → Shared → Prop} (e : s.heap.get? c = some o) (ho : o.data = .cell (some v)) (h : Q v s)
    (hc : env.cells.lookup x = some c := by kernel_rfl)
    (hk : env.scope.kind = .function := by kernel_rfl) (hl : env.kindOf x = some .cell := by kernel_rfl)
    (hd : (x == ("__debug__" : Str)) = false := by kernel_rfl) :
    wpAny (model prog w) A (eval (.Name x pos) env) Q E s := wpAny_Name (wpAny_loadName_cell hk hl hc ⟨o, e, ho⟩ h) hd
theorem stC {a b : List (Addr × Obj)} {v : Value} {v₀ : Option Value} {Q : Unit → Shared → Prop} (F : St s₀ g L (a ++ (c, o) :: b) m s) (ho : o.data = .cell v₀)
    (h : ∀ o' s', o'.data = .cell (some v) → St s₀ g L (a ++ (c, o') :: b) m s' → Q () s')
    (hc : env.cells.lookup x = some c := by kernel_rfl)
    (hk : env.scope.kind = .function := by kernel_rfl) (hl : env.kindOf x = some .cell := by kernel_rfl) :
    wpAny (model prog w) A (storeName env x v) Q E s := by
  refine wpAny_storeName_cell hk hl hc ⟨o, (F.2.mem _ (List.mem_append_right _ (.head _))).1, ho⟩ fun h' hv hs => ?_
  obtain ⟨o', ho', hd'⟩ := hv
  exact h o' { s with heap := h' } hd' ⟨F.1, F.2.turnAt (fun q y hq e => (hs.2 q hq).trans e) ho'⟩

/-- for x in range(k), k small -/
theorem forRangeN (J : Nat → Heap → (Str → Option Value) → List (Addr × Obj) → Prop) {k : Nat} {kz : Int} {tk : Tok}
    (hkz : kz = (k : Int)) (hk : k ≤ 100) (hh : A.handled = none) (F : St s₀ g L (mu ++ rest) m s) (h0 : J 0 g m mu)
    (hnr : ∀ p ∈ rest, p.2.cls ≠ .type "tuple")
    (turn : ∀ i t g' m' mu' own s', (∀ p ∈ own, p.2.cls ≠ .type "tuple") → i < k → Ext g g' → J i g' m' mu' → St s₀ g' L (mu' ++ own) m' s' →
      wpAny (model prog w) A (storeName env x (.int (i : Int) t)) (fun _ s2 => wpAny (model prog w) A (execs body env) (TurnQ s₀ g' L own (J (i + 1)) Q) NoE s2) NoE s')
    (done : ∀ g' m' mu' s', Ext g g' → J k g' m' mu' → St s₀ g' L (mu' ++ rest) m' s' → Q .next s') :
    wpAny (model prog w) A (call (.type "range") [.int kz tk]) (fun y s₁ => wpAny (model prog w) A (pyIter y) (fun it s₂ => codeAny (model prog w) A (.forLoop (.Name x px) it body [] env) (fun r s' => match r with | .ok f => Q f s' | .error e => R' e s') s₂) E s₁) E s := by
  subst hkz
  refine call_range_1 ?_
  generalize hH : s.heap.push { cls := .type "range", data := .fields #[.int 0 s.toks, .int (k : Int) tk, .int 1 (s.toks + 1)] } = H
  have hr : IsRange H s.heap.objs.size 0 (k : Int) 1 s.toks tk (s.toks + 1) := by rw [← hH]; exact IsRange.new _ _ _ _ _ _ _
  have F0 : Fx g L (mu ++ rest) H m := F.2.ext (by rw [← hH]; exact Ext.push _ _)
  refine wpAny_pyIter_range hr (small_one (by omega) (by omega) (by omega) (by omega)) ?_
  have e0 : Builtin.Range.rangeSize 0 (k : Int) 1 = (k : Int) := by rw [rangeSize_one]; split <;> omega
  rw [e0]
  have F1 : Fx g L (mu ++ (H.objs.size, { cls := .type "range_iterator", data := .fields #[rawInt 0, rawInt (k : Int), rawInt 1] }) :: rest) (H.push { cls := .type "range_iterator", data := .fields #[rawInt 0, rawInt (k : Int), rawInt 1] }) m :=
    F0.addAt (Heap.get?_push_size _ rfl) (get?_size_none _) (Ext.push _ _)
  refine forMg (s := ⟨H.push _, _, _, _, _⟩) (fun o => o.cls ≠ .type "tuple") J (Walks.range hh H.objs.size 0 1 k) (fun q hq => .inl (List.mem_singleton.mp hq)) (fun i h st => ⟨_, st⟩) (fun i h o st ho => ?_) ⟨F.1, F1⟩ ?_ h0 (fun i v g' m' mu' o' s' hnt hi hP e hJ F' => ?_) done
  · have st : h.get? _ = _ := st
    rw [st] at ho
    rw [← Option.some.inj ho]
    exact fun z => absurd (Value.type.inj z) (by decide)
  · show IsRangeIter _ _ _ _ _
    have e1 : (0 : Int) + ((0 : Nat) : Int) * 1 = 0 := by omega
    have e2 : (k : Int) - ((0 : Nat) : Int) = (k : Int) := by omega
    rw [e1, e2]
    exact Heap.get?_push_size _ rfl
  · obtain ⟨t, rfl⟩ := hP
    have e1 : (0 : Int) + (i : Int) * 1 = (i : Int) := by omega
    rw [e1]
    refine turn i t g' m' mu' _ s' (fun p hp => ?_) hi e hJ F'
    rcases List.mem_cons.mp hp with rfl | hp
    · exact hnt
    · exact hnr p hp
/-- a def with two cells, c1 the first of its names -/
theorem enterC2 {f : Addr} {o : Obj} {fd : FuncData} {body : List Stmt} {args : List Value} {binds : List (Str × Value)} {P : Value → Heap → Prop} {n1 n2 : Str} {v1 v2 : Option Value} {m1 : Str → Option Value}
    (G : Gd w s.heap) (ho : (Kf w).lookup f = some o) (hdata : o.data = .func fd) (hroom : A.depth < recursionLimit)
    (hbody : fd.body = .stmts body) (hclo : fd.closure = []) (hbind : bindArgs fd ⟨args, []⟩ = pure binds) (hcd : codeIn (Kf w) fd.code fd.qualname = true)
    (hcs : ∀ n, cellsFrom n fd.scope.names [] = [(n2, n + 1), (n1, n)]) (hne : (n1 == n2) = false)
    (hkind : ∀ n, ∀ x ∈ binds, fd.scope.names.lookup x.1 = some .local ∨ (fd.scope.names.lookup x.1 = some .cell ∧ ((cellsFrom n fd.scope.names []).lookup x.1).isSome = true))
    (hm1 : bindL (fun x => fd.scope.names.lookup x) binds (fun _ => none) = m1) (hv1 : bindC (fun x => fd.scope.names.lookup x) binds (fun _ => none) n1 = v1) (hv2 : bindC (fun x => fd.scope.names.lookup x) binds (fun _ => none) n2 = v2)
    (h : ∀ (A' : Around) s' o1 o2, A'.handled = A.handled → A'.depth = A.depth + 1 → A'.units = A.units + 3 → o1.data = .cell v1 → o2.data = .cell v2 →
      St s s.heap s.heap.objs.size [(s.heap.objs.size + 1, o1), (s.heap.objs.size + 2, o2)] m1 s' →
      let env := newEnv fd.scope s.heap.objs.size fd.globals [(n2, s.heap.objs.size + 1 + 1), (n1, s.heap.objs.size + 1)] (fd.qualname ++ ".<locals>.") (some f) fd.code none fd.builtins
      wpAny (model prog w) A' (execs body env) (fun fl s' => Ret s P (.ok (.ret (match fl with | .ret v => v | _ => .none))) s') NoE s')
    (hco : fd.scope.isCoroutine = false) (hgen : fd.scope.isGenerator = false) (hk : fd.scope.kind = .function) :
    codeAny (model prog w) A (.call (.ref f) ⟨args, []⟩) (Ret s P) s := by
  refine codeAny_call_function hroom (G.k _ _ ho) hdata hco hgen hbody (codeRec_of G.k hcd) (BindsTo.of_eq hbind _ _ _ _ ?_)
  rw [hclo]
  refine wpAny_newFunctionEnv_cells hk (hkind _) fun env' he s' x => ?_
  rw [hcs] at he
  subst he
  refine ⟨G.lim.keeps x.toInCall.keep, codeAny_func ?_⟩
  obtain ⟨h₁, tk, hs'⟩ := x.toInCall.same
  obtain ⟨o1, ho1, hd1⟩ := x.cell n1 (s.heap.objs.size + 1) (by
    show List.lookup n1 [(n2, s.heap.objs.size + 1 + 1), (n1, s.heap.objs.size + 1)] = _
    rw [List.lookup_cons, hne, List.lookup_cons]; simp)
  obtain ⟨o2, ho2, hd2⟩ := x.cell n2 (s.heap.objs.size + 1 + 1) (by
    show List.lookup n2 [(n2, s.heap.objs.size + 1 + 1), (n1, s.heap.objs.size + 1)] = _
    rw [List.lookup_cons]; simp)
  have hns : s'.heap.Ns s.heap.objs.size m1 := by rw [← hm1]; exact x.toInCall.ns
  have fr : ∀ a, s.heap.objs.size ≤ a → s.heap.get? a = none := fun a ha => by
    cases q : s.heap.get? a with
    | none => rfl
    | some ob => exact absurd (Heap.lt_size q) (Nat.not_lt.mpr ha)
  refine wpAny_mono (h (A.deeper _) s' o1 o2 rfl rfl rfl (hd1.trans (congrArg _ hv1)) (hd2.trans (congrArg _ hv2)) ⟨by rw [hs']; exact ⟨rfl, rfl, rfl⟩, ⟨hns, x.toInCall.keep, fr _ (Nat.le_refl _), ?_, ?_⟩⟩) (fun _ _ y => y) fun _ _ y => y.elim
  · intro p hp
    rcases List.mem_cons.mp hp with rfl | hp
    · exact ⟨ho1, Nat.succ_ne_self _, fr _ (Nat.le_succ _)⟩
    · rw [List.mem_singleton.mp hp]
      exact ⟨ho2, Nat.ne_of_gt (Nat.lt_succ_of_lt (Nat.lt_succ_self _)), fr _ (Nat.le_succ_of_le (Nat.le_succ _))⟩
  · simp
end
end PartMCell
section PartMTupS
open PySem PySem.W PySem.Calls PyProof.Rows
/-- the texts of a written tuple of texts -/
noncomputable def strsOf : List Expr → Option (List Str)
  | [] => some []
  | .Constant (.str x) _ _ :: r => match strsOf r with | some ts => some (x :: ts) | none => none
  | _ => none
noncomputable def wordsOf : List Expr → Option (List (List Str))
  | [] => some []
  | .Tuple elts _ _ :: r => match strsOf elts, wordsOf r with | some ts, some tss => some (ts :: tss) | _, _ => none
  | _ => none
section
variable {prog : Program} {w : World} {A : Around} {E : Value → Shared → Prop} {s₀ : Shared} {env : Env} {L : Addr} {mu : List (Addr × Obj)} {m : Str → Option Value} {pos : Pos}
theorem mStrs : ∀ (elts : List Expr) {ts : List Str} {s : Shared} {Q : List Value → Shared → Prop}, strsOf elts = some ts →
    (∀ us k, us.map (·.1) = ts → Q (strValues us) { s with toks := k }) → wpAny (model prog w) A (spliced (backTo pos (starEach elts env))) Q E s
  | [], ts, s, Q, h, k => by
    cases h
    refine args_nil (k [] s.toks rfl)
  | e :: r, ts, s, Q, h, k => by
    cases e with
    | Constant c kk p =>
      cases c with
      | str x =>
        rw [strsOf] at h
        cases hr : strsOf r with
        | none => rw [hr] at h; cases h
        | some ts' =>
          rw [hr] at h; cases h
          refine mArgs (he := rfl) ?_
          refine Calls.Constant_str ?_
          refine mStrs r hr fun us kq hu => ?_
          exact k ((x, s.toks) :: us) kq (by simp [hu])
      | _ => simp [strsOf] at h
    | _ => simp [strsOf] at h
theorem mWords : ∀ (elts : List Expr) {tss : List (List Str)} {g : Heap} {s : Shared} {Q : List Value → Shared → Prop}, wordsOf elts = some tss → (∀ ts ∈ tss, ts.length ≤ 1000) → St s₀ g L mu m s →
    (∀ vs g' s', Ext g g' → Paired (IsWord g') vs tss → St s₀ g' L mu m s' → Q vs s') → wpAny (model prog w) A (spliced (backTo pos (starEach elts env))) Q E s
  | [], tss, g, s, Q, h, hl, F, k => by
    cases h
    exact args_nil (k [] g s (Ext.refl _) .nil F)
  | e :: r, tss, g, s, Q, h, hl, F, k => by
    cases e with
    | Tuple elts kk p =>
      rw [wordsOf] at h
      cases hs : strsOf elts with
      | none => rw [hs] at h; cases h
      | some ts =>
        cases hr : wordsOf r with
        | none => rw [hs, hr] at h; cases h
        | some tss' =>
          rw [hs, hr] at h; cases h
          refine mArgs (he := rfl) ?_
          refine Tuple_ ?_
          refine mStrs elts hs fun us k1 hu => ?_
          have hul : us.length ≤ 1000 := by
            have := hl ts (.head _)
            rw [← hu] at this; simpa using this
          refine mTup (s₀ := s₀) (g := g) (L := L) (mu := mu) (m := m) ⟨F.1, F.2⟩ (small (by simp [strValues]; omega)) fun a g1 s1 e1 hn ha F1 => ?_
          refine mWords r hr (fun ts hts => hl ts (.tail _ hts)) F1 fun vs g' s' e' hp F' => ?_
          refine k (.ref a :: vs) g' s' (e1.trans e') (.cons ⟨a, us, rfl, e' _ _ ha, hu⟩ hp) F'
    | _ => simp [wordsOf] at h
end
end PartMTupS
section PartMComp2
open PySem PySem.W PySem.Calls PyProof.Rows
section
variable {prog : Program} {w : World} {A : Around} {E : Value → Shared → Prop} {s s₀ : Shared} {env : Env} {g : Heap} {L : Addr} {mu rest : List (Addr × Obj)} {m : Str → Option Value}
  {scope : Scope} {cl : List (Str × Addr)} {x : Str} {ifs : List Expr} {elt iter : Expr} {items : List Value} {p : Value → Bool} {F : Value → Value → Prop} {px : Pos} {pos : Pos}
noncomputable def namesOk (names : List (Str × NameKind)) : Bool := names.all fun y => y.2 != .cell && (y.2 != .local || names.lookup y.1 == some .local)
theorem names1 {names : List (Str × NameKind)} (h : namesOk names = true) : ∀ y ∈ names, y.2 ≠ .cell := fun y hy q => by
  have := List.all_eq_true.mp h y hy
  rw [q] at this; cases this
theorem names2 {names : List (Str × NameKind)} (h : namesOk names = true) : ∀ y ∈ names, y.2 = .local → names.lookup y.1 = some .local := fun y hy q => by
  have := List.all_eq_true.mp h y hy
  rw [q] at this
  simpa using this
/-- [.. for x in ..] -/
theorem mComp {Q : Value → Shared → Prop} (p : Value → Bool) (F : Value → Value → Prop) (cl : List (Str × Addr))
    (h : wpAny (model prog w) A (eval iter env) (fun xv s₁ => wpAny (model prog w) A (pyIter xv) (fun it s₂ => ∃ I fp wr n P St, it = .ref I ∧ Walks prog w A I fp wr n P St ∧ n ≤ sizeLine ∧ St 0 s₂.heap ∧ (∀ b ∈ fp, b < s₂.heap.objs.size) ∧
      QuietOnC prog w A env scope cl x ifs elt wr P p F s₂ ∧
      (∀ D h' tk ys (vs : List Value), s₂.heap.get? D = none → h'.IsList D ys → h'.PlainList D ys → vs.length = n → (∀ j v, vs[j]? = some v → P j v) → Paired F (vs.filter p) ys.toList →
        (∀ b o, b ∉ wr → s₂.heap.get? b = some o → h'.get? b = some o) → Q (.ref D) { s₂ with heap := h', toks := tk })) E s₁) E s)
    (hclos : closureFor scope env = pure cl := by kernel_rfl) (hn : namesOk scope.names = true := by kernel_rfl) (hkind : scope.kind = .function := by kernel_rfl) (hx : scope.names.lookup x = some .local := by kernel_rfl)
    (hs : ∀ x, foldedSetIterable iter env x = pure x := by intro _; kernel_rfl) :
    wpAny (model prog w) A (eval (.ListComp elt [⟨.Name x px, iter, ifs, 0⟩] scope pos) env) Q E s :=
  wpAny_ListComp_free p F hclos (names1 hn) hkind (names2 hn) hx h hs
/-- y = [.. for x in ..] -/
theorem mACompS {y : Str} {py spos : Pos} {Q : Flow → Shared → Prop} (p : Value → Bool) (F : Value → Value → Prop) (cl : List (Str × Addr))
    (h : wpAny (model prog w) A (eval iter env) (fun xv s₁ => wpAny (model prog w) A (pyIter xv) (fun it s₂ => ∃ I fp wr n P St m, it = .ref I ∧ Walks prog w A I fp wr n P St ∧ n ≤ sizeLine ∧ St 0 s₂.heap ∧ (∀ b ∈ fp, b < s₂.heap.objs.size) ∧
      env.locals ∉ wr ∧ s₂.heap.Ns env.locals m ∧ QuietOnC prog w A env scope cl x ifs elt wr P p F s₂ ∧
      (∀ D h' tk ys (vs : List Value), s₂.heap.get? D = none → h'.IsList D ys → h'.PlainList D ys → vs.length = n → (∀ j v, vs[j]? = some v → P j v) → Paired F (vs.filter p) ys.toList →
        h'.Ns env.locals (fun z => if z = y then some (.ref D) else m z) → (∀ b o, b ≠ env.locals → b ∉ wr → s₂.heap.get? b = some o → h'.get? b = some o) → Q .next { s₂ with heap := h', toks := tk })) E s₁) E s)
    (hsw : swapsWith (.ListComp elt [⟨.Name x px, iter, ifs, 0⟩] scope pos) (some (.Name y py)) spos.line env = pure true := by kernel_rfl)
    (hclos : closureFor scope env = pure cl := by kernel_rfl) (hn : namesOk scope.names = true := by kernel_rfl) (hkind : scope.kind = .function := by kernel_rfl) (hx : scope.names.lookup x = some .local := by kernel_rfl)
    (hy : env.kindOf y = some .local := by kernel_rfl) (hk : env.scope.kind = .function := by kernel_rfl)
    (hs : ∀ x, foldedSetIterable iter env x = pure x := by intro _; kernel_rfl) :
    wpAny (model prog w) A (exec (.Assign [.Name y py] (.ListComp elt [⟨.Name x px, iter, ifs, 0⟩] scope pos) spos) env) Q E s :=
  wpAny_Assign_ListComp_free p F hsw hclos (names1 hn) hkind (names2 hn) hx hy (by rw [hk]; rfl) h hs
/-- [.. for x in (a tuple)] -/
theorem mCompTup {Q : Value → Shared → Prop} (p : Value → Bool) (F : Value → Value → Prop) (cl : List (Str × Addr)) (hh : A.handled = none)
    (h : wpAny (model prog w) A (eval iter env) (fun xv s₁ => ∃ l items g m mu, xv = .ref l ∧ s₁.heap.get? l = some (tup items) ∧ St s₀ g L mu m s₁ ∧ items.length ≤ 1000000 ∧ TurnsC prog w A env scope cl x ifs elt items p F s₁ ∧
      ∀ D ys n' g' s', Ext g g' → g.get? D = none → g'.get? D = some (lst ys n') → Paired F (items.filter p) ys → St s₀ g' L mu m s' → Q (.ref D) s') E s)
    (hclos : closureFor scope env = pure cl := by kernel_rfl) (hn : namesOk scope.names = true := by kernel_rfl) (hkind : scope.kind = .function := by kernel_rfl) (hx : scope.names.lookup x = some .local := by kernel_rfl)
    (hs : ∀ x, foldedSetIterable iter env x = pure x := by intro _; kernel_rfl) :
    wpAny (model prog w) A (eval (.ListComp elt [⟨.Name x px, iter, ifs, 0⟩] scope pos) env) Q E s := by
  refine mComp p F cl (wpAny_mono h (fun xv s₁ h₁ => ?_) fun _ _ y => y) hclos hn hkind hx hs
  obtain ⟨l, items, g, m, mu, rfl, hl, Fs, hsz, T, done⟩ := h₁
  exact mCompT (Q := Q) hh Fs hl hsz T done
/-- [.. for x in (a list)] -/
theorem mCompLst {Q : Value → Shared → Prop} (p : Value → Bool) (F : Value → Value → Prop) (cl : List (Str × Addr)) (hh : A.handled = none)
    (h : wpAny (model prog w) A (eval iter env) (fun xv s₁ => ∃ l n items g m mu, xv = .ref l ∧ s₁.heap.get? l = some (lst items n) ∧ St s₀ g L mu m s₁ ∧ items.length ≤ 1000000 ∧ TurnsC prog w A env scope cl x ifs elt items p F s₁ ∧
      ∀ D ys n' g' s', Ext g g' → g.get? D = none → g'.get? D = some (lst ys n') → Paired F (items.filter p) ys → St s₀ g' L mu m s' → Q (.ref D) s') E s)
    (hclos : closureFor scope env = pure cl := by kernel_rfl) (hn : namesOk scope.names = true := by kernel_rfl) (hkind : scope.kind = .function := by kernel_rfl) (hx : scope.names.lookup x = some .local := by kernel_rfl)
    (hs : ∀ x, foldedSetIterable iter env x = pure x := by intro _; kernel_rfl) :
    wpAny (model prog w) A (eval (.ListComp elt [⟨.Name x px, iter, ifs, 0⟩] scope pos) env) Q E s := by
  refine mComp p F cl (wpAny_mono h (fun xv s₁ h₁ => ?_) fun _ _ y => y) hclos hn hkind hx hs
  obtain ⟨l, n, items, g, m, mu, rfl, hl, Fs, hsz, T, done⟩ := h₁
  exact mCompL (Q := Q) hh Fs hl hsz T done
/-- y = [.. for x in (a list)] -/
theorem mACompLst {y : Str} {py spos : Pos} {Q : Flow → Shared → Prop} (p : Value → Bool) (F : Value → Value → Prop) (cl : List (Str × Addr)) (hh : A.handled = none)
    (h : wpAny (model prog w) A (eval iter env) (fun xv s₁ => ∃ l n items g m mu, xv = .ref l ∧ s₁.heap.get? l = some (lst items n) ∧ St s₀ g L mu m s₁ ∧ items.length ≤ 1000000 ∧ TurnsC prog w A env scope cl x ifs elt items p F s₁ ∧
      ∀ D ys n' g' s', Ext g g' → g.get? D = none → g'.get? D = some (lst ys n') → Paired F (items.filter p) ys → St s₀ g' L mu (upd m y (.ref D)) s' → Q .next s') E s)
    (hL : env.locals = L := by kernel_rfl)
    (hsw : swapsWith (.ListComp elt [⟨.Name x px, iter, ifs, 0⟩] scope pos) (some (.Name y py)) spos.line env = pure true := by kernel_rfl)
    (hclos : closureFor scope env = pure cl := by kernel_rfl) (hn : namesOk scope.names = true := by kernel_rfl) (hkind : scope.kind = .function := by kernel_rfl) (hx : scope.names.lookup x = some .local := by kernel_rfl)
    (hy : env.kindOf y = some .local := by kernel_rfl) (hk : env.scope.kind = .function := by kernel_rfl)
    (hs : ∀ x, foldedSetIterable iter env x = pure x := by intro _; kernel_rfl) :
    wpAny (model prog w) A (exec (.Assign [.Name y py] (.ListComp elt [⟨.Name x px, iter, ifs, 0⟩] scope pos) spos) env) Q E s := by
  refine mACompS p F cl (wpAny_mono h (fun xv s₁ h₁ => ?_) fun _ _ y => y) hsw hclos hn hkind hx hy hk hs
  obtain ⟨l, n, items, g, m, mu, rfl, hl, Fs, hsz, T, done⟩ := h₁
  exact mACompL (Q := Q) hh Fs hl hsz hL T done
theorem testsTrue {fc : Expr → Bool → Sem (ForInStep Bool)} {s₃ : Shared} {E' : Value → Shared → Prop} {b : Bool} (hb : b = true) : wpAny (model prog w) A (forIn ([] : List Expr) true fc) (fun ok s₄ => ok = b ∧ PySem.Keeps s₃ s₄) E' s₃ := by
  rw [List.forIn_nil]
  exact wpAny_pure ⟨hb.symm, s₃.heap, s₃.toks, rfl, fun _ _ e => e⟩
end
end PartMComp2
section PartMItems
open PySem PySem.W PySem.Calls PyProof.Rows
local macro_rules | `(tactic| walk_at "entc") => `(tactic| (
  (case ho => with_unfolding_all rfl); (case hdata => rfl); (case hbody => rfl); (case hclo => rfl); (case hbind => kernel_rfl); (case hcd => kernel_rfl); (case hcs => (intro _; kernel_rfl)); (case hne => kernel_rfl); (case hkind => exact kindsX (by kernel_rfl)); (case hm1 => kernel_rfl); (case hv1 => kernel_rfl); (case hv2 => kernel_rfl); (case hco => rfl); (case hgen => rfl); (case hk => rfl)))
noncomputable def stuffL : List Str := [Str.ofString "a", Str.ofString "b", Str.ofString "ab", Str.ofString ".b", Str.ofString "..."]
noncomputable def fillT (f : Nat) (t : Str) : Str := if t = Str.ofString "..." then stuffL.getD (f % 5) t else t
noncomputable def fillW (f : Nat) (ts : List Str) : Str := Txt.join (Str.ofString "") (ts.map (fillT f))
noncomputable def itemsGo : Nat → List Str → Nat → Nat → List Pr
  | 0, _, _, _ => []
  | k + 1, ts, n, f => (ts, fillW f ts) :: itemsGo k (allW.getD (n % 8) []) (n / 8) (f / 5)
noncomputable def itemsOf (n f : Nat) : List Pr := itemsGo 5 [Str.ofString "..."] n f
theorem allW_len : ∀ ts ∈ allW, ts.length ≤ 2 ∧ ∀ z ∈ ts, z.length ≤ 3 := by decide
theorem fillT_len (f : Nat) {t : Str} (h : t.length ≤ 3) : (fillT f t).length ≤ 3 := by
  unfold fillT
  split
  · have : ∀ i < 5, (stuffL.getD i t).length ≤ 3 := by
      intro i hi
      match i, hi with
      | 0, _ => show (Str.ofString "a").length ≤ 3; decide
      | 1, _ => show (Str.ofString "b").length ≤ 3; decide
      | 2, _ => show (Str.ofString "ab").length ≤ 3; decide
      | 3, _ => show (Str.ofString ".b").length ≤ 3; decide
      | 4, _ => show (Str.ofString "...").length ≤ 3; decide
    exact this _ (Nat.mod_lt _ (by omega))
  · exact h
theorem fmod_nat (a b : Nat) : (a : Int).fmod (b : Int) = ((a % b : Nat) : Int) := by
  rw [Int.fmod_eq_emod_of_nonneg _ (Int.natCast_nonneg b)]; exact (Int.natCast_emod a b).symm
theorem fdiv_nat (a b : Nat) : (a : Int).fdiv (b : Int) = ((a / b : Nat) : Int) := by
  rw [Int.fdiv_eq_ediv_of_nonneg _ (Int.natCast_nonneg b)]; exact (Int.natCast_ediv a b).symm
theorem pairedGet' {α β : Type} {F : α → β → Prop} : ∀ {l : List α} {r : List β}, Paired F l r → ∀ (i : Nat) b, r[i]? = some b → ∃ a, l[i]? = some a ∧ F a b
  | _, _, .nil, i, a, h => by simp at h
  | _, _, .cons x t, 0, a, h => by simp at h; subst h; exact ⟨_, rfl, x⟩
  | _, _, .cons x t, i + 1, a, h => pairedGet' t i a (by simpa using h)
/-- a token's filling -/
noncomputable def FillR (f : Nat) (v y : Value) : Prop := ∃ z t t', v = .str z t ∧ y = .str (fillT f z) t'
theorem fillR_texts {f : Nat} : ∀ {us : List (Str × Tok)} {ys : List Value}, Paired (FillR f) (strValues us) ys → ∃ us', ys = strValues us' ∧ us'.map (·.1) = (us.map (·.1)).map (fillT f)
  | [], _, h => by
    cases h; exact ⟨[], rfl, rfl⟩
  | u :: r, _, h => by
    cases h with
    | cons x t =>
      obtain ⟨us', rfl, e⟩ := fillR_texts t
      obtain ⟨z, t1, t2, e1, rfl⟩ := x
      obtain ⟨u1, u2⟩ := u
      cases e1
      exact ⟨(fillT f u1, t2) :: us', rfl, by simp [e]⟩
section
variable {prog : Program} {w : World} {A : Around} {E : Value → Shared → Prop} {s : Shared}
set_option maxHeartbeats 8000000 in
theorem items_spec {N F0 : Nat} {t1 t2 : Tok} (G : Gd w s.heap) (hd : A.depth + 2 < recursionLimit) (hah : A.handled = none) (hN : N ≤ 1000000) (hF : F0 ≤ 1000000) :
    codeAny (model prog w) A (.call (.ref 120) ⟨[.int (N : Int) t1, .int (F0 : Int) t2], []⟩) (Ret s fun v h => ∃ l ys n, v = .ref l ∧ s.heap.get? l = none ∧ h.get? l = some (lst ys n) ∧ Paired (IsPair h) ys (itemsOf N F0)) s := by
  refine enterC2 G (o := ?o) (fd := ?fd) (body := ?bd) (binds := [(Str.ofString "number", .int (N : Int) t1), (Str.ofString "fill", .int (F0 : Int) t2)]) (n1 := Str.ofString "fill") (n2 := Str.ofString "stuff")
    (v1 := some (.int (F0 : Int) t2)) (v2 := none) (m1 := upd (fun _ => none) (Str.ofString "number") (.int (N : Int) t1)) ?ho ?hdata (by omega) ?hbody ?hclo ?hbind ?hcd ?hcs ?hne ?hkind ?hm1 ?hv1 ?hv2 ?h ?hco ?hgen ?hk
  walk_at "entc"
  intro A' s' o1 o2 hh hdp hun hd1 hd2 F env
  refine wpAny_execs_cons ?_
  refine mAssign ?_
  refine Tuple_ ?_
  with_reducible refine mWords (tss := allW) _ ?a ?b F ?_
  (case a => kernel_rfl)
  (case b => decide)
  intro vsW g1 s1 e1 hW F1
  with_reducible refine mTup F1 ?a ?_
  (case a => exact small (by rw [hW.length]; decide))
  intro wt g2 s2 e2 n2 hwt F2
  with_reducible refine stL F2 ?_
  intro s3 F3
  refine wpAny_execs_cons ?_
  refine mAssign ?_
  refine Tuple_ ?_
  with_reducible refine mStrs (ts := stuffL) _ ?a ?_
  (case a => kernel_rfl)
  intro us k hus
  with_reducible refine mTup (s := { s3 with toks := k }) F3 ?a ?_
  (case a => (have := congrArg List.length hus; simp [stuffL] at this; exact small (by simp [strValues, this])))
  intro st g4 s4 e4 n4 hst F4
  refine stC (a := [(s.heap.objs.size + 1, o1)]) (b := []) F4 hd2 ?_
  intro o2' s5 hd2' F5
  walk_at "m*"
  with_reducible refine mListMu F5 (by simp) ?_
  intro l s6 F6
  have e04 : Ext s.heap g4 := e1.trans (e2.trans e4)
  have hln : s.heap.get? l = none := e04.none (F6.2.mem _ (.head _)).2.2
  with_reducible refine stL F6 ?_
  intro s7 F7
  refine wpAny_execs_cons ?_
  refine mAssign ?_
  refine Tuple_ ?_
  with_reducible refine mStrs (ts := [Str.ofString "..."]) _ ?a ?_
  (case a => kernel_rfl)
  intro ud kd hud
  with_reducible refine mTup (s := { s7 with toks := kd }) F7 ?a ?_
  (case a => (have := congrArg List.length hud; simp at this; exact small (by simp [strValues, this])))
  intro wd g8 s8 e8 n8 hwd F8
  with_reducible refine stL F8 ?_
  intro s9 F9
  have hst8 : g8.get? st = some (tup (strValues us)) := e8 _ _ hst
  have hwt8 : g8.get? wt = some (tup vsW) := (e4.trans e8) _ _ hwt
  have hW8 : Paired (IsWord g8) vsW allW := pairedMono (fun _ _ x => x.keeps (e2.trans (e4.trans e8))) hW
  refine wpAny_execs_cons ?_
  refine mFor ?_
  have G8 : Gd w g8 := G.keeps (e04.trans e8)
  have hhA : A'.handled = none := hh.trans hah
  clear hst hwt hW F8 F7 F6 F5 F4 F3 F2 F1 F
  walk_at "m*"
  have hwd8 : IsWord g8 (.ref wd) [Str.ofString "..."] := ⟨wd, ud, rfl, hwd, hud⟩
  have F10 : St s g8 s.heap.objs.size ([(l, lst [] 0), (s.heap.objs.size + 1, o1), (s.heap.objs.size + 2, o2')] ++ []) (upd (upd (upd (upd (fun _ => none) (Str.ofString "number") (.int (N : Int) t1)) (Str.ofString "words") (.ref wt)) (Str.ofString "items") (.ref l)) (Str.ofString "word") (.ref wd)) { s9 with toks := s9.toks + 1 } := F9
  refine forRangeN (k := 5) (fun i g' m' mu' => ∃ acc ts nn ff ys n oF oS tn tf wv, mu' = [(l, lst ys n), (s.heap.objs.size + 1, oF), (s.heap.objs.size + 2, oS)] ∧ itemsOf N F0 = acc ++ itemsGo (5 - i) ts nn ff ∧ acc.length = i ∧ ts ∈ allW ∧ nn ≤ 1000000 ∧ ff ≤ 1000000 ∧
    Paired (IsPair g') ys acc ∧ IsWord g' wv ts ∧ oF.data = .cell (some (.int (ff : Int) tf)) ∧ oS.data = .cell (some (.ref st)) ∧
    m' (Str.ofString "number") = some (.int (nn : Int) tn) ∧ m' (Str.ofString "words") = some (.ref wt) ∧ m' (Str.ofString "items") = some (.ref l) ∧ m' (Str.ofString "word") = some wv) ?hkz ?hk5 hhA F10 ?h0 ?hnr ?turn ?done
  case hkz => rfl
  case hk5 => omega
  case hnr => exact fun _ q => nomatch q
  case h0 => exact ⟨[], _, N, F0, [], 0, o1, o2', _, _, _, rfl, rfl, rfl, by decide, hN, hF, .nil, hwd8, hd1, hd2', by walk_at "lk", by walk_at "lk", by walk_at "lk", by walk_at "lk"⟩
  case done =>
    rintro g' m' mu' sz e' ⟨acc, ts, nn, ff, ys, n, oF, oS, tn, tf, wv, rfl, hacc, hal, hts, hnn, hff, hys, hwv, hdF, hdS, k1, k2, k3, k4⟩ Fa
    have Fb : St s g' s.heap.objs.size ([(l, lst ys n), (s.heap.objs.size + 1, oF), (s.heap.objs.size + 2, oS)] ++ []) m' sz := Fa
    walk_at "m*"
    refine Ret.mk ((e04.trans e8).trans (e'.trans Fb.2.keep)) Fb.1 ⟨l, ys, n, rfl, hln, (Fb.2.mem _ (.head _)).1, ?_⟩
    rw [hacc]
    show Paired _ _ (acc ++ [])
    rw [List.append_nil]
    exact pairedMono (fun _ _ x => x.keeps Fb.2.keep) hys
  case turn =>
    rintro i tp g' m' mu' own sz _ hi e' ⟨acc, ts, nn, ff, ys, n, oF, oS, tn, tf, wv, rfl, hacc, hal, hts, hnn, hff, hys, hwv, hdF, hdS, k1, k2, k3, k4⟩ Fa
    have Fb : St s g' s.heap.objs.size ((l, lst ys n) :: (s.heap.objs.size + 1, oF) :: (s.heap.objs.size + 2, oS) :: own) m' sz := Fa
    clear Fa
    have G' : Gd w g' := G8.keeps e'
    with_reducible refine stL Fb ?_
    intro s1 F1
    walk_at "m*"
    refine mGetAppend (F1.2.mem _ (.head _)).1 ?_
    walk_at "m*"
    obtain ⟨wb, uw, rfl, hwb, huw⟩ := hwv
    have hwl : uw.length ≤ 2 ∧ ∀ z ∈ uw.map (·.1), z.length ≤ 3 := by
      have := allW_len ts hts
      rw [← huw] at this
      simpa using this
    refine mCompTup (s₀ := s) (L := s.heap.objs.size) (fun _ => true) (FillR ff) [(Str.ofString "stuff", s.heap.objs.size + 2), (Str.ofString "fill", s.heap.objs.size + 1)] hhA ?_
    walk_at "m*"
    refine ⟨wb, strValues uw, g', _, _, rfl, F1.2.keep _ _ hwb, F1, ?hsz, ?T, ?done⟩
    case hsz => (simp [strValues]; omega)
    case T =>
      constructor
      · intro C v s₃ m₃ E' _ _ _ _ _
        exact testsTrue rfl
      · intro C v s₃ m₃ E' hv _ hC hN hx hE
        have K0 : StR s₃ s₃.heap s₃ := ⟨Same.refl _, Ext.refl _⟩
        obtain ⟨⟨z, tz⟩, hz, rfl⟩ := List.mem_map.mp hv
        have hc1 : s₃.heap.get? (s.heap.objs.size + 1) = some oF := hE _ _ (F1.2.mem _ (.tail _ (.head _))).1
        have hc2 : s₃.heap.get? (s.heap.objs.size + 2) = some oS := hE _ _ (F1.2.mem _ (.tail _ (.tail _ (.head _)))).1
        have hst3 : s₃.heap.get? st = some (tup (strValues us)) := hE _ _ (F1.2.keep _ _ (e' _ _ hst8))
        refine IfExp_ ?_
        refine mIsTrueCmp ?_
        refine ldR K0 hN hx ?_
        refine Calls.Constant_str ?_
        refine PyProof.Rows.eq_str ?_
        refine wpAny_truthy_bool ?_
        refine split_b ?_ ?_ <;> intro hb
        · have hzd : z = Str.ofString "..." := by simpa using hb
          have hlt5 : ff % 5 < us.length := by
            have h5 : us.length = 5 := by simpa [stuffL] using congrArg List.length hus
            rw [h5]; exact Nat.mod_lt _ (by decide)
          refine Subscript_ ?_
          refine ldCR hc2 hdS ?_ ?hc
          case hc => kernel_rfl
          refine wpAny_BinOp ?_
          refine ldCR hc1 hdF ?_ ?hc
          case hc => kernel_rfl
          refine wpAny_Constant_int ?_
          refine mod_int' (by decide) ?_
          rw [show (ff : Int).fmod 5 = ((ff % 5 : Nat) : Int) from fmod_nat ff 5]
          refine mItemTA (vs := strValues us) (y := .str us[ff % 5].1 us[ff % 5].2) hst3 (by omega) (by omega) (by rw [Int.toNat_natCast]; simp [strValues, hlt5]) ?_
          refine ⟨⟨z, tz, us[ff % 5].2, rfl, ?_⟩, StR.keeps ⟨⟨rfl, rfl, rfl⟩, Ext.refl _⟩⟩
          have hg : stuffL.getD (ff % 5) z = us[ff % 5].1 := by
            rw [← hus, List.getD_eq_getElem?_getD, List.getElem?_map, List.getElem?_eq_getElem hlt5]; rfl
          unfold fillT
          rw [if_pos hzd, hg]
        · have hzd : z ≠ Str.ofString "..." := by simpa using hb
          refine ldR ⟨⟨rfl, rfl, rfl⟩, Ext.refl _⟩ hN hx ?_
          refine ⟨⟨z, tz, tz, rfl, ?_⟩, StR.keeps ⟨⟨rfl, rfl, rfl⟩, Ext.refl _⟩⟩
          unfold fillT
          rw [if_neg hzd]
    case done =>
      intro D ysn nd g2 s2 e2 hD hDl hP F2
      rw [List.filter_eq_self.mpr (fun _ _ => rfl)] at hP
      obtain ⟨us', rfl, hus'⟩ := fillR_texts hP
      rw [huw] at hus'
      have hl3 := allW_len ts hts
      walk_at "m*"
      refine mJoin (F2.2.keep _ _ hDl) (joinOk_of (by decide) ?j1 ?j2) ?_
      case j1 => (rw [hus', List.length_map]; omega)
      case j2 =>
        intro y hy
        rw [hus'] at hy
        obtain ⟨z, hz, rfl⟩ := List.mem_map.mp hy
        have := fillT_len ff (hl3.2 z hz)
        omega
      intro tj kj
      walk_at "m*"
      with_reducible refine mTup (s := { s2 with toks := kj }) F2 ?a ?_
      case a => exact small (Nat.le_of_ble_eq_true rfl)
      intro pa g3 s3 e3 hn3 hpa F3
      have hpair : IsPair g3 (.ref pa) (ts, fillW ff ts) := ⟨pa, .ref wb, tj, rfl, by rw [hpa, hus']; rfl, wb, uw, rfl, e3 _ _ (e2 _ _ hwb), huw⟩
      walk_at "m*"
      refine mAppend F3 (by rw [hys.length, hal]; omega) ?_
      intro s4 F4
      walk_at "m*"
      refine mod_int' (by decide) ?_
      rw [show (nn : Int).fmod 8 = ((nn % 8 : Nat) : Int) from fmod_nat nn 8]
      have eg3 : Ext g8 g3 := e'.trans (e2.trans e3)
      have hn8 : nn % 8 < 8 := Nat.mod_lt _ (by decide)
      have hW3 : Paired (IsWord g3) vsW allW := pairedMono (fun _ _ x => x.keeps eg3) hW8
      have hvl : vsW.length = 8 := hW8.length
      have hwl8 : nn % 8 < allW.length := by rw [show allW.length = 8 from rfl]; exact hn8
      obtain ⟨wn, hwn, hwnw⟩ := pairedGet' hW3 (nn % 8) _ (List.getElem?_eq_getElem hwl8)
      refine mItemTA (vs := vsW) (y := wn) (F4.2.keep _ _ (eg3 _ _ hwt8)) (by omega) (by omega) (by rw [Int.toNat_natCast]; exact hwn) ?_
      have F5 : St s g3 s.heap.objs.size ((l, lst (ys ++ [.ref pa]) (n + 1)) :: (s.heap.objs.size + 1, oF) :: (s.heap.objs.size + 2, oS) :: own) (upd m' (Str.ofString "place") (.int (i : Int) tp)) { s4 with toks := s4.toks + 1 + 1 } := F4
      with_reducible refine stL F5 ?_
      intro s5 F6
      walk_at "m*"
      refine floordiv_int (by decide) ?_
      rw [show (nn : Int).fdiv 8 = ((nn / 8 : Nat) : Int) from fdiv_nat nn 8]
      with_reducible refine stL (s := { s5 with toks := s5.toks + 1 + 1 }) F6 ?_
      intro s6 F7
      walk_at "m*"
      have hcF : s6.heap.get? (s.heap.objs.size + 1) = some oF := (F7.2.mem _ (.tail _ (.head _))).1
      refine ldC hcF hdF ?_
      walk_at "m*"
      refine floordiv_int (by decide) ?_
      rw [show (ff : Int).fdiv 5 = ((ff / 5 : Nat) : Int) from fdiv_nat ff 5]
      refine stC (s := { s6 with toks := s6.toks + 1 + 1 }) (a := [(l, lst (ys ++ [.ref pa]) (n + 1))]) (b := (s.heap.objs.size + 2, oS) :: own) F7 hdF ?_
      intro oF' s7 hdF' F8
      walk_at "m*"

      refine ⟨g3, _, [(l, lst (ys ++ [.ref pa]) (n + 1)), (s.heap.objs.size + 1, oF'), (s.heap.objs.size + 2, oS)], e2.trans e3, F8, acc ++ [(ts, fillW ff ts)], allW.getD (nn % 8) [], nn / 8, ff / 5, _, _, oF', oS, s5.toks + 1, _, wn, rfl, ?_, ?_, ?_, ?_, ?_, ?_, ?_, hdF', hdS, ?_, ?_, ?_, ?_⟩
      · rw [hacc, List.append_assoc, show 5 - i = (5 - (i + 1)) + 1 by omega]; rfl
      · simp [hal]
      · rw [List.getD_eq_getElem?_getD, List.getElem?_eq_getElem hwl8]; exact List.getElem_mem _
      · exact Nat.le_trans (Nat.div_le_self _ _) hnn
      · exact Nat.le_trans (Nat.div_le_self _ _) hff
      · exact (pairedMono (fun _ _ x => x.keeps (e2.trans e3)) hys).snoc hpair
      · rw [List.getD_eq_getElem?_getD, List.getElem?_eq_getElem hwl8]; exact hwnw
      · walk_at "lk"
      · walk_at "lk"
      · walk_at "lk"
      · walk_at "lk"
end
end PartMItems
section PartMPl1
/-! the plain law, upon lists of signs: none stands for three dots -/
noncomputable def Mt : List (Option Nat) → List Nat → Prop
  | [], t => t = []
  | some c :: r, t => ∃ t', t = c :: t' ∧ Mt r t'
  | none :: r, t => ∃ u v, t = u ++ v ∧ Mt r v
noncomputable def segs : List (Option Nat) → List Nat × List (List Nat)
  | [] => ([], [])
  | none :: r => ([], (segs r).1 :: (segs r).2)
  | some c :: r => (c :: (segs r).1, (segs r).2)
noncomputable def MS : List Nat → List (List Nat) → List Nat → Prop
  | s, [], t => t = s
  | s, s2 :: r, t => ∃ u v, t = s ++ (u ++ v) ∧ MS s2 r v
theorem mt_segs : ∀ (tk : List (Option Nat)) (t : List Nat), Mt tk t ↔ MS (segs tk).1 (segs tk).2 t
  | [], t => Iff.rfl
  | none :: r, t => by
    constructor
    · rintro ⟨u, v, e, h⟩
      exact ⟨u, v, e, (mt_segs r v).mp h⟩
    · rintro ⟨u, v, e, h⟩
      exact ⟨u, v, e, (mt_segs r v).mpr h⟩
  | some c :: r, t => by
    have ih := mt_segs r
    have e1 : (segs (some c :: r)).1 = c :: (segs r).1 := rfl
    have e2 : (segs (some c :: r)).2 = (segs r).2 := rfl
    rw [e1, e2]
    generalize (segs r).1 = a at ih
    generalize (segs r).2 = b at ih
    cases b with
    | nil =>
      constructor
      · rintro ⟨t', e, h⟩; rw [e, (ih t').mp h]; rfl
      · intro h; exact ⟨a, h, (ih a).mpr rfl⟩
    | cons s2 q =>
      constructor
      · rintro ⟨t', e, h⟩
        obtain ⟨u, v, e', h'⟩ := (ih t').mp h
        exact ⟨u, v, by rw [e, e']; rfl, h'⟩
      · rintro ⟨u, v, e, h⟩
        exact ⟨a ++ (u ++ v), e, (ih _).mpr ⟨u, v, rfl, h⟩⟩
theorem mt_append : ∀ (a b : List (Option Nat)) (x y : List Nat), Mt a x → Mt b y → Mt (a ++ b) (x ++ y)
  | [], b, x, y, h, k => by cases h; exact k
  | some c :: r, b, x, y, h, k => by
    obtain ⟨t', rfl, h'⟩ := h
    exact ⟨t' ++ y, rfl, mt_append r b t' y h' k⟩
  | none :: r, b, x, y, h, k => by
    obtain ⟨u, v, rfl, h'⟩ := h
    exact ⟨u, v ++ y, by simp, mt_append r b v y h' k⟩
theorem mt_lit : ∀ (l : List Nat) (t : List Nat), Mt (l.map some) t ↔ t = l
  | [], t => Iff.rfl
  | c :: r, t => by
    constructor
    · rintro ⟨t', rfl, h⟩; rw [(mt_lit r t').mp h]
    · rintro rfl; exact ⟨r, rfl, (mt_lit r r).mpr rfl⟩
theorem mt_star (u : List Nat) : Mt [none] u := ⟨u, [], by simp, rfl⟩

/-- the words one behind the other, from sp on, all ahead of ep -/
noncomputable def Chain (got : List Nat) (ep : Nat) : Nat → List (List Nat) → Prop
  | _, [] => True
  | sp, w :: r => ∃ k, sp ≤ k ∧ k + w.length ≤ ep ∧ w <+: got.drop k ∧ Chain got ep (k + w.length) r
theorem Chain.mono {got : List Nat} {ep : Nat} : ∀ {ws : List (List Nat)} {a b : Nat}, a ≤ b → Chain got ep b ws → Chain got ep a ws
  | [], _, _, _, _ => trivial
  | _ :: _, _, _, h, ⟨k, h1, h2⟩ => ⟨k, Nat.le_trans h h1, h2⟩
theorem chain_nil_front {got : List Nat} {ep sp : Nat} {ws : List (List Nat)} (h : sp ≤ ep) : Chain got ep sp ([] :: ws) ↔ Chain got ep sp ws := by
  constructor
  · rintro ⟨k, h1, _, _, h4⟩
    exact h4.mono (by simpa using h1)
  · intro h4
    exact ⟨sp, Nat.le_refl _, by simpa using h, List.nil_prefix, by simpa using h4⟩
theorem chain_nil_end {got : List Nat} {ep : Nat} : ∀ {ws : List (List Nat)} {sp : Nat}, sp ≤ ep → (Chain got ep sp (ws ++ [[]]) ↔ Chain got ep sp ws)
  | [], sp, h => chain_nil_front h
  | w :: r, sp, h => by
    constructor
    · rintro ⟨k, h1, h2, h3, h4⟩
      exact ⟨k, h1, h2, h3, (chain_nil_end h2).mp h4⟩
    · rintro ⟨k, h1, h2, h3, h4⟩
      exact ⟨k, h1, h2, h3, (chain_nil_end h2).mpr h4⟩
theorem ms_chain (got wl : List Nat) : ∀ (mid : List (List Nat)) (s2 : List Nat) (r : List (List Nat)) (sp : Nat), s2 :: r = mid ++ [wl] →
    ((∃ p, sp ≤ p ∧ p ≤ got.length ∧ MS s2 r (got.drop p)) ↔ (wl <:+ got ∧ sp + wl.length ≤ got.length ∧ Chain got (got.length - wl.length) sp mid))
  | [], s2, r, sp, he => by
    cases he
    constructor
    · rintro ⟨p, h1, h2, h3⟩
      have h3 : got.drop p = wl := h3
      refine ⟨h3 ▸ List.drop_suffix _ _, ?_, trivial⟩
      have := congrArg List.length h3
      rw [List.length_drop] at this; omega
    · rintro ⟨⟨x, rfl⟩, h2, _⟩
      refine ⟨x.length, by simp at h2; omega, by simp, ?_⟩
      show _ = _
      simp
  | w :: mid, s2, r, sp, he => by
    obtain ⟨h1, h2⟩ : s2 = w ∧ r = mid ++ [wl] := by simpa using he
    subst h2
    subst h1
    obtain ⟨s3, r3, e3⟩ : ∃ s3 r3, s3 :: r3 = mid ++ [wl] := by
      cases mid with
      | nil => exact ⟨_, _, rfl⟩
      | cons a b => exact ⟨_, _, rfl⟩
    have ih := fun sp => ms_chain got wl mid s3 r3 sp e3
    rw [← e3]
    constructor
    · rintro ⟨p, h1, h2, u, v, h3, h4⟩
      have hp : s2 <+: got.drop p := ⟨u ++ v, h3.symm⟩
      have hl : s2.length + (u.length + v.length) = got.length - p := by
        have := congrArg List.length h3
        rw [List.length_drop] at this; simp at this; omega
      have hv : got.drop (p + (s2.length + u.length)) = v := by
        rw [← List.drop_drop, h3]; simp
      obtain ⟨k1, k2, k3⟩ := (ih (p + s2.length)).mp ⟨p + (s2.length + u.length), by omega, by omega, by rw [hv]; exact h4⟩
      exact ⟨k1, by omega, p, h1, by omega, hp, k3⟩
    · rintro ⟨k1, k2, p, h1, h2, ⟨z, hz⟩, h4⟩
      obtain ⟨q, j1, j2, j3⟩ := (ih (p + s2.length)).mpr ⟨k1, by omega, h4⟩
      refine ⟨p, h1, by omega, (got.drop (p + s2.length)).take (q - (p + s2.length)), got.drop q, ?_, j3⟩
      have e1 : got.drop (p + s2.length) = z := by rw [← List.drop_drop, ← hz]; simp
      have e2 : got.drop q = (got.drop (p + s2.length)).drop (q - (p + s2.length)) := by rw [List.drop_drop]; congr 1; omega
      rw [e2, List.take_append_drop, e1, hz]
theorem ms_head {s s2 : List Nat} {r : List (List Nat)} {got : List Nat} : MS s (s2 :: r) got ↔ s <+: got ∧ ∃ p, s.length ≤ p ∧ p ≤ got.length ∧ MS s2 r (got.drop p) := by
  constructor
  · rintro ⟨u, v, rfl, h⟩
    refine ⟨⟨_, rfl⟩, s.length + u.length, by omega, by simp, ?_⟩
    have : (s ++ (u ++ v)).drop (s.length + u.length) = v := by rw [← List.drop_drop]; simp
    rw [this]; exact h
  · rintro ⟨⟨z, rfl⟩, p, h1, h2, h3⟩
    refine ⟨z.take (p - s.length), z.drop (p - s.length), by rw [List.take_append_drop], ?_⟩
    have : (s ++ z).drop p = z.drop (p - s.length) := by
      rw [List.drop_append, List.drop_eq_nil_of_le (by omega)]; rfl
    rw [← this]; exact h3
theorem ms_all {got wl s : List Nat} {mid : List (List Nat)} : MS s (mid ++ [wl]) got ↔ (s <+: got ∧ wl <:+ got ∧ s.length + wl.length ≤ got.length ∧ Chain got (got.length - wl.length) s.length mid) := by
  obtain ⟨s3, r3, e3⟩ : ∃ s3 r3, s3 :: r3 = mid ++ [wl] := by
    cases mid with
    | nil => exact ⟨_, _, rfl⟩
    | cons a b => exact ⟨_, _, rfl⟩
  rw [← e3, ms_head, ms_chain got wl mid s3 r3 _ e3]

/-- a text cut at y -/
noncomputable def prs (y : List Nat) : Nat → List Nat → List (Option Nat)
  | _, [] => []
  | k + 1, _ :: r => prs y k r
  | 0, c :: r => if y <+: c :: r then none :: prs y (y.length - 1) r else some c :: prs y 0 r
noncomputable def occF (y : List Nat) : Nat → Nat → List Nat → List Nat
  | _, _, [] => []
  | free, i, c :: r => if free ≤ i ∧ y <+: c :: r then i :: occF y (i + y.length) (i + 1) r else occF y free (i + 1) r
noncomputable def partsF (x : List Nat) (w : Nat) : Nat → List Nat → List (List Nat)
  | a, [] => [x.drop a]
  | a, c :: r => (x.drop a).take (c - a) :: partsF x w (c + w) r
theorem parts_prs (x y : List Nat) (hy : y ≠ []) : ∀ (l : List Nat) (i k a : Nat), x.drop i = l → i ≤ x.length → i + k ≤ x.length → a ≤ i + k → (0 < k → a = i + k) →
    partsF x y.length a (occF y (i + k) i l) = ((x.drop a).take (i + k - a) ++ (segs (prs y k l)).1) :: (segs (prs y k l)).2
  | [], i, k, a, hl, hi, hk, ha, hak => by
    have : x.length ≤ i := by simpa using hl
    have hik : k = 0 := by omega
    subst hik
    have e1 : occF y (i + 0) i [] = [] := by simp [occF]
    have e2 : prs y 0 [] = [] := by simp [prs]
    rw [e1, e2]
    show [x.drop a] = [(x.drop a).take (i + 0 - a) ++ []]
    rw [List.append_nil, List.take_of_length_le (by rw [List.length_drop]; omega)]
  | c :: r, i, 0, a, hl, hi, hk, ha, hak => by
    have hlt : i < x.length := by
      have := congrArg List.length hl
      simp at this; omega
    have hr : x.drop (i + 1) = r := by rw [← List.drop_drop, hl]; rfl
    rw [occF, prs]
    by_cases hp : y <+: c :: r
    · rw [if_pos ⟨by omega, hp⟩, if_pos hp]
      have hyl : 0 < y.length := List.length_pos_iff.mpr hy
      have hle : i + y.length ≤ x.length := by
        have := hp.length_le
        rw [← hl, List.length_drop] at this; omega
      have ih := parts_prs x y hy r (i + 1) (y.length - 1) (i + y.length) hr (by omega) (by omega) (by omega) (by omega)
      rw [show i + 1 + (y.length - 1) = i + y.length by omega] at ih
      show (x.drop a).take (i - a) :: partsF x y.length (i + y.length) (occF y (i + y.length) (i + 1) r) = _
      rw [ih]
      simp [segs]
    · rw [if_neg (fun z => hp z.2), if_neg hp]
      have ih := parts_prs x y hy r (i + 1) 0 a hr (by omega) (by omega) (by omega) (by omega)
      have e1 : ∀ f, occF y f (i + 1) r = occF y f (i + 1) r := fun _ => rfl
      have hf : ∀ (l : List Nat) (i f f' : Nat), f ≤ i → f' ≤ i → occF y f i l = occF y f' i l := by
        intro l
        induction l with
        | nil => intro i f f' _ _; simp [occF]
        | cons d q ihq =>
          intro i f f' h1 h2
          rw [occF, occF]
          by_cases hq : y <+: d :: q
          · rw [if_pos ⟨h1, hq⟩, if_pos ⟨h2, hq⟩]
          · rw [if_neg (fun z => hq z.2), if_neg (fun z => hq z.2)]
            exact ihq (i + 1) f f' (by omega) (by omega)
      rw [hf r (i + 1) (i + 0) (i + 1 + 0) (by omega) (by omega), ih]
      have e2 : (x.drop a).take (i + 1 + 0 - a) = (x.drop a).take (i + 0 - a) ++ [c] := by
        have hc : (x.drop a)[i - a]? = some c := by
          rw [List.getElem?_drop, show a + (i - a) = i by omega]
          have := congrArg (·[0]?) hl
          simpa using this
        rw [show i + 1 + 0 - a = (i - a) + 1 by omega, List.take_add_one, hc]; rfl
      rw [e2]
      simp [segs]
  | c :: r, i, k + 1, a, hl, hi, hk, ha, hak => by
    have hr : x.drop (i + 1) = r := by rw [← List.drop_drop, hl]; rfl
    rw [occF, prs, if_neg (fun z => by omega)]
    have ih := parts_prs x y hy r (i + 1) k a hr (by omega) (by omega) (by omega) (fun _ => by omega)
    rw [show i + 1 + k = i + (k + 1) by omega] at ih
    exact ih
theorem prs_none (y : List Nat) : ∀ (l : List Nat), none ∉ prs y 0 l → (∀ i, y ≠ [] → ¬ y <+: l.drop i) ∧ prs y 0 l = l.map some
  | [], _ => ⟨fun i hy h => hy (by simpa using h), by simp [prs]⟩
  | c :: r, h => by
    rw [prs] at h ⊢
    by_cases hp : y <+: c :: r
    · rw [if_pos hp] at h; simp at h
    · rw [if_neg hp] at h ⊢
      obtain ⟨h1, h2⟩ := prs_none y r (fun q => h (.tail _ q))
      refine ⟨fun i hy => ?_, by rw [h2]; rfl⟩
      cases i with
      | zero => exact hp
      | succ i => exact h1 i hy
theorem prs_some (y : List Nat) : ∀ (l : List Nat) (k : Nat), none ∈ prs y k l → ∃ i, y <+: l.drop i
  | [], _, h => by simp [prs] at h
  | c :: r, 0, h => by
    rw [prs] at h
    by_cases hp : y <+: c :: r
    · exact ⟨0, hp⟩
    · rw [if_neg hp] at h
      rcases List.mem_cons.mp h with q | q
      · cases q
      · obtain ⟨i, hi⟩ := prs_some y r 0 q
        exact ⟨i + 1, hi⟩
  | c :: r, k + 1, h => by
    rw [prs] at h
    obtain ⟨i, hi⟩ := prs_some y r k h
    exact ⟨i + 1, hi⟩
theorem segs_some : ∀ (tk : List (Option Nat)), none ∈ tk → (segs tk).2 ≠ []
  | none :: r, _ => by simp [segs]
  | some c :: r, h => by
    rcases List.mem_cons.mp h with q | q
    · cases q
    · exact segs_some r q
end PartMPl1
section PartMPl2
open PySem PySem.W PySem.Calls PyProof.Rows PySem.Builtin PySem.Builtin.Str
theorem sub_prefix (x y : Str) (i : Nat) : subAt x y i = true ↔ tl y <+: (tl x).drop i := by
  rw [StrLaws.subAt_eq, beq_iff_eq, List.prefix_iff_eq_take, tl_len]
  exact ⟨fun h => h.symm, fun h => h.symm⟩
theorem fnd_spec (x y : Str) (a b : Nat) :
    (fnd x y a b = none ∧ ∀ j, a ≤ j → j + y.length ≤ b → ¬ tl y <+: (tl x).drop j) ∨
    ∃ k, fnd x y a b = some k ∧ a ≤ k ∧ k + y.length ≤ b ∧ tl y <+: (tl x).drop k ∧ ∀ j, a ≤ j → j < k → j + y.length ≤ b → ¬ tl y <+: (tl x).drop j := by
  unfold fnd
  rw [StrLaws.occ_eq]
  have hm : ∀ i ∈ List.range' a (b + 1 - a), a ≤ i := fun i hi => by rw [List.mem_range'] at hi; omega
  rcases StrLaws.occ_first x y b 1 (Nat.le_refl _) (List.range' a (b + 1 - a)) a hm with ⟨h0, hn⟩ | ⟨pre, k, post, e, h0, hk, hn⟩
  · left
    rw [h0]
    refine ⟨rfl, fun j h1 h2 h3 => hn j ?_ ⟨h2, (sub_prefix x y j).mpr h3⟩⟩
    rw [List.mem_range']; exact ⟨j - a, by omega, by omega⟩
  · right
    generalize (forIn (List.range' a (b + 1 - a)) ((#[] : Array Nat), a) (StrLaws.occBody x y b 1)).run.fst = arr at h0
    refine ⟨k, ?_, ?_, hk.1, (sub_prefix x y k).mp hk.2, fun j h1 h2 h3 h4 => ?_⟩
    · rw [List.head?_eq_getElem?]; simpa using h0
    · exact hm k (by rw [e]; simp)
    · refine hn j ?_ ⟨h3, (sub_prefix x y j).mpr h4⟩
      have hlen : (b + 1 - a) = pre.length + (post.length + 1) := by simpa using congrArg List.length e
      have hkk : (List.range' a (b + 1 - a))[pre.length]? = some k := by rw [e]; simp
      rw [List.getElem?_range' (by omega)] at hkk
      have hk2 : a + pre.length = k := by simpa using hkk
      have hj : (List.range' a (b + 1 - a))[j - a]? = some j := by
        rw [List.getElem?_range' (by omega)]; simp; omega
      rw [e, List.getElem?_append_left (by omega)] at hj
      exact List.mem_of_getElem? hj
theorem ellGo_chain (got : Str) (ep : Nat) : ∀ (ws : List Str) (sp : Nat), ellGo got ep sp ws = true ↔ Chain (tl got) ep sp (ws.map tl)
  | [], sp => ⟨fun _ => trivial, fun _ => rfl⟩
  | w :: r, sp => by
    have ih := fun sp => ellGo_chain got ep r sp
    have e0 : ellGo got ep sp (w :: r) = (match fnd got w sp ep with | none => false | some k => ellGo got ep (k + w.length) r) := rfl
    rw [e0]
    rcases fnd_spec got w sp ep with ⟨h0, hn⟩ | ⟨k, h0, h1, h2, h3, h4⟩
    · rw [h0]
      refine ⟨fun h => (by cases h), ?_⟩
      rintro ⟨j, j1, j2, j3, _⟩
      exact absurd j3 (hn j j1 (by rw [← tl_len]; exact j2))
    · rw [h0]
      dsimp only
      rw [ih]
      constructor
      · intro h
        exact ⟨k, h1, by rw [tl_len]; exact h2, h3, by rw [tl_len]; exact h⟩
      · rintro ⟨j, j1, j2, j3, j4⟩
        rw [tl_len] at j2 j4
        refine j4.mono ?_
        rcases Nat.lt_or_ge j k with q | q
        · exact absurd j3 (h4 j j1 q j2)
        · omega
theorem occ_occF (x y : Str) (hy : tl y ≠ []) : ∀ (l : List Nat) (i free : Nat) (found : Array Nat), (tl x).drop i = l → i ≤ x.length → found.size ≤ i →
    ((forIn (List.range' i (x.length + 1 - i)) (found, free) (StrLaws.occBody x y x.length (x.length + 1))).run.fst.toList = found.toList ++ occF (tl y) free i l)
  | [], i, free, found, hl, hi, hf => by
    have : x.length ≤ i := by rw [← tl_len]; simpa using hl
    have hyl : 0 < y.length := by rw [← tl_len]; exact List.length_pos_iff.mpr hy
    rw [show x.length + 1 - i = 0 + 1 by omega, List.range'_succ, List.forIn_cons]
    unfold StrLaws.occBody
    rw [if_neg (fun z => by have := z.1.2; omega)]
    simp [occF]
  | c :: r, i, free, found, hl, hi, hf => by
    have hlt : i < x.length := by
      rw [← tl_len]
      have := congrArg List.length hl
      simp at this; simp; omega
    have hr : (tl x).drop (i + 1) = r := by rw [← List.drop_drop, hl]; rfl
    rw [show x.length + 1 - i = (x.length + 1 - (i + 1)) + 1 by omega, List.range'_succ, List.forIn_cons]
    rw [occF]
    have hsub : (((found, free).fst.size < x.length + 1 ∧ (found, free).snd ≤ i) ∧ i + y.length ≤ x.length) ∧ subAt x y i = true ↔ free ≤ i ∧ tl y <+: c :: r := by
      rw [sub_prefix, hl]
      constructor
      · rintro ⟨⟨⟨_, h1⟩, _⟩, h2⟩; exact ⟨h1, h2⟩
      · rintro ⟨h1, h2⟩
        refine ⟨⟨⟨by show found.size < _; omega, h1⟩, ?_⟩, h2⟩
        have := h2.length_le
        rw [← hl, List.length_drop, tl_len, tl_len] at this; omega
    by_cases hc : free ≤ i ∧ tl y <+: c :: r
    · rw [if_pos hc]
      have eb : StrLaws.occBody x y x.length (x.length + 1) i (found, free) = pure (ForInStep.yield (found.push i, i + y.length)) := by
        unfold StrLaws.occBody; rw [if_pos (hsub.mpr hc)]
      rw [eb]
      have ih := occ_occF x y hy r (i + 1) (i + y.length) (found.push i) hr (by omega) (by simp; omega)
      show (forIn (List.range' (i + 1) _) (found.push i, i + y.length) (StrLaws.occBody x y x.length (x.length + 1))).run.fst.toList = _
      rw [ih, tl_len]; simp
    · rw [if_neg hc]
      have eb : StrLaws.occBody x y x.length (x.length + 1) i (found, free) = pure (ForInStep.yield (found, free)) := by
        unfold StrLaws.occBody; rw [if_neg (fun z => hc (hsub.mp z))]
      rw [eb]
      have ih := occ_occF x y hy r (i + 1) free found hr (by omega) (by omega)
      show (forIn (List.range' (i + 1) _) (found, free) (StrLaws.occBody x y x.length (x.length + 1))).run.fst.toList = _
      exact ih
theorem parts_partsF (x : Str) (w : Nat) : ∀ (cuts : List Nat) (a : Nat), (((a :: cuts.map (· + w)).zip (cuts ++ [x.length])).map fun p => tl (strSub x p.1 p.2)) = partsF (tl x) w a cuts
  | [], a => by
    show [tl (strSub x a x.length)] = [(tl x).drop a]
    unfold tl
    rw [StrLaws.strSub_toList, List.take_of_length_le]
    rw [List.length_drop]; have := tl_len x; unfold tl at this; omega
  | c :: r, a => by
    have ih := parts_partsF x w r (c + w)
    show tl (strSub x a c) :: ((((c + w) :: r.map (· + w)).zip (r ++ [x.length])).map fun p => tl (strSub x p.1 p.2)) = _
    rw [ih]
    show _ = ((tl x).drop a).take (c - a) :: _
    unfold tl
    rw [StrLaws.strSub_toList]
theorem split_parts (x y : Str) : Txt.split x y = partsBetween x (occurrences x y 0 x.length (x.length + 1)) y.length := by
  unfold Txt.split
  split
  · rename_i h
    rw [occ_nil_of_no x y _ fun i hi => ?_, parts_nil]
    rcases Bool.or_eq_true_iff.mp h with h | h
    · have := of_decide_eq_true h; omega
    · cases e : subAt x y i
      · rfl
      · have := kind_le x y e; have := of_decide_eq_true h; omega
  · split
    · rename_i h; rw [List.isEmpty_iff.mp h, parts_nil]
    · rfl
theorem split_prs (x y : Str) (hy : tl y ≠ []) : (Txt.split x y).map tl = (segs (prs (tl y) 0 (tl x))).1 :: (segs (prs (tl y) 0 (tl x))).2 := by
  rw [split_parts]
  unfold partsBetween
  dsimp only
  rw [List.map_map]
  have e1 := parts_partsF x y.length (occurrences x y 0 x.length (x.length + 1)) 0
  refine Eq.trans ?_ (e1.trans ?_)
  · rfl
  rw [StrLaws.occ_eq]
  have e2 := occ_occF x y hy (tl x) 0 0 #[] rfl (Nat.zero_le _) (Nat.le_refl _)
  rw [e2]
  have e3 := parts_prs (tl x) (tl y) hy (tl x) 0 0 0 rfl (Nat.zero_le _) (Nat.zero_le _) (Nat.le_refl _) (fun h => absurd h (Nat.lt_irrefl _))
  rw [tl_len] at e3
  simpa using e3
theorem occ_none_prs (x y : Str) (hy : tl y ≠ []) : (occurrences x y 0 x.length 1).isEmpty = true ↔ none ∉ prs (tl y) 0 (tl x) := by
  have h := StrLaws.found_iff x y
  constructor
  · intro he hm
    obtain ⟨i, hi⟩ := prs_some _ _ _ hm
    have : (!(occurrences x y 0 x.length 1).isEmpty) = true := h.mpr ⟨i, ?_, (sub_prefix x y i).mpr hi⟩
    · rw [he] at this; cases this
    · have h1 := hi.length_le
      have h2 : 0 < (tl y).length := List.length_pos_iff.mpr hy
      rw [List.length_drop, tl_len, tl_len] at h1
      rw [tl_len] at h2
      omega
  · intro hn
    cases he : (occurrences x y 0 x.length 1).isEmpty with
    | true => rfl
    | false =>
      obtain ⟨i, _, h2⟩ := h.mp (by rw [he]; rfl)
      exact absurd ((sub_prefix x y i).mp h2) ((prs_none _ _ hn).1 i hy)
theorem starts_iff (x y : Str) : Txt.startswith x y = true ↔ tl y <+: tl x := by
  unfold Txt.startswith
  constructor
  · intro h
    have : subAt x y 0 = true := by
      revert h; cases subAt x y 0 <;> simp
    exact (sub_prefix x y 0).mp this
  · intro h
    have h1 : subAt x y 0 = true := (sub_prefix x y 0).mpr h
    have h2 := h.length_le
    rw [tl_len, tl_len] at h2
    simp [h1, h2]
theorem ends_iff (x y : Str) : Txt.endswith x y = true ↔ tl y <:+ tl x := by
  unfold Txt.endswith
  rw [List.suffix_iff_eq_drop, tl_len, tl_len]
  constructor
  · intro h
    have h' : y.length ≤ x.length ∧ subAt x y (x.length - y.length) = true := by simpa using h
    obtain ⟨z, hz⟩ := (sub_prefix x y _).mp h'.2
    have hl := congrArg List.length hz
    rw [List.length_append, List.length_drop, tl_len, tl_len] at hl
    have : z = [] := List.length_eq_zero_iff.mp (by omega)
    rw [← hz, this]; simp
  · intro h
    have hl := congrArg List.length h
    rw [List.length_drop, tl_len, tl_len] at hl
    have h1 : subAt x y (x.length - y.length) = true := (sub_prefix x y _).mpr ⟨[], by rw [List.append_nil]; exact h⟩
    have h2 : y.length ≤ x.length := by omega
    simp [h1, h2]
theorem tl_dots : tl dotsS = [46, 46, 46] := by decide
theorem tl_beq (x y : Str) : (x == y) = true ↔ tl x = tl y := by
  rw [beq_iff_eq]
  exact ⟨fun h => by rw [h], tl_inj⟩
theorem ellB_ms (ws : List Str) (got : Str) (s : List Nat) (ss : List (List Nat)) (h : ws.map tl = s :: ss) (hne : ss ≠ []) : ellB ws got = true ↔ MS s ss (tl got) := by
  obtain ⟨w0, ws1, rfl⟩ : ∃ w0 ws1, ws = w0 :: ws1 := by
    cases ws with
    | nil => cases h
    | cons a b => exact ⟨a, b, rfl⟩
  have h' : tl w0 = s ∧ ws1.map tl = ss := by simpa using h
  obtain ⟨rfl, rfl⟩ := h'
  have hw1 : ws1 ≠ [] := fun q => hne (by rw [q]; rfl)
  obtain ⟨mid, wl, rfl⟩ : ∃ mid wl, ws1 = mid ++ [wl] := by
    rcases List.eq_nil_or_concat ws1 with q | ⟨a, b, q⟩
    · exact absurd q hw1
    · exact ⟨a, b, by rw [q, List.concat_eq_append]⟩
  rw [List.map_append, List.map_cons, List.map_nil, ms_all]
  have eh : (w0 :: (mid ++ [wl])).head? = some w0 := rfl
  have el : (w0 :: (mid ++ [wl])).getLast? = some wl := by rw [← List.cons_append, List.getLast?_append]; rfl
  unfold ellB
  rw [eh, el]
  dsimp only
  rw [Bool.and_eq_true, Bool.and_eq_true, Bool.and_eq_true, starts_iff, ends_iff, decide_eq_true_iff, ellGo_chain, tl_len, tl_len, tl_len]
  have hcut : w0.length ≤ got.length - wl.length → (Chain (tl got) (got.length - wl.length) w0.length ((cutEnds w0 wl (w0 :: (mid ++ [wl]))).map tl) ↔ Chain (tl got) (got.length - wl.length) w0.length (mid.map tl)) := by
    intro hle
    unfold cutEnds
    by_cases h0 : tl w0 = []
    · rw [if_pos h0]
      by_cases h1 : tl wl = []
      · rw [if_pos h1]
        simp only [List.map_cons, List.map_append, List.map_nil]
        rw [h0, h1, chain_nil_front hle, chain_nil_end hle]
      · rw [if_neg h1]
        rw [show (w0 :: (mid ++ [wl])).dropLast = w0 :: mid from List.dropLast_concat (l₁ := w0 :: mid)]
        simp only [List.map_cons]
        rw [h0, chain_nil_front hle]
    · rw [if_neg h0]
      by_cases h1 : tl wl = []
      · rw [if_pos h1]
        simp only [List.tail_cons, List.map_append, List.map_cons, List.map_nil]
        rw [h1, chain_nil_end hle]
      · rw [if_neg h1]
        simp
  constructor
  · rintro ⟨h1, h2, h3, h4⟩
    have := h2.length_le
    rw [tl_len, tl_len] at this
    exact ⟨h1, h2, by omega, (hcut h3).mp h4⟩
  · rintro ⟨h1, h2, h3, h4⟩
    have h5 : w0.length ≤ got.length - wl.length := by omega
    exact ⟨h1, h2, h5, (hcut h5).mpr h4⟩
/-- what the match says, of any mask and any text -/
theorem ellM_mt (want got : Str) : ellM want got = true ↔ Mt (prs [46, 46, 46] 0 (tl want)) (tl got) := by
  have hd : tl dotsS ≠ [] := by rw [tl_dots]; decide
  have ho := occ_none_prs want dotsS hd
  have hs := split_prs want dotsS hd
  rw [tl_dots] at ho hs
  unfold ellM
  by_cases hc : (occurrences want dotsS 0 want.length 1).isEmpty = true
  · rw [if_pos hc]
    have h1 := (prs_none _ _ (ho.mp hc)).2
    rw [h1, mt_lit, tl_beq]
    exact ⟨fun h => h.symm, fun h => h.symm⟩
  · rw [if_neg hc]
    have hm : none ∈ prs [46, 46, 46] 0 (tl want) := Classical.byContradiction fun q => hc (ho.mpr q)
    rw [mt_segs]
    exact ellB_ms _ _ _ _ hs (segs_some _ hm)
end PartMPl2
section PartMTaken
open PySem PySem.W PySem.Calls PyProof.Rows
local macro_rules | `(tactic| walk_at "entc") => `(tactic| (
  (case ho => with_unfolding_all rfl); (case hdata => rfl); (case hbody => rfl); (case hclo => rfl); (case hbind => kernel_rfl); (case hcd => kernel_rfl); (case hcs => (intro _; kernel_rfl)); (case hne => kernel_rfl); (case hkind => exact kindsX (by kernel_rfl)); (case hm1 => kernel_rfl); (case hv1 => kernel_rfl); (case hv2 => kernel_rfl); (case hco => rfl); (case hgen => rfl); (case hk => rfl)))
noncomputable def takenStep (text : Str) (R : List Nat) (tok : Str) : List Nat :=
  if tok = Str.ofString "..." then (match R with | [] => [] | p :: _ => List.range' p (text.length + 1 - p))
  else (R.filter fun (p : Nat) => Txt.slice text (some (p : Int)) (some ((p : Int) + 1)) == tok).map (· + 1)
noncomputable def takenR (ts : List Str) (text : Str) : List Nat := ts.foldl (takenStep text) [0]
noncomputable def takenB (ts : List Str) (text : Str) : Bool := ((takenR ts text).map Int.ofNat).any (· == (text.length : Int))
noncomputable def IsNum (v : Value) (p : Nat) : Prop := ∃ t, v = .int (p : Int) t
theorem isNums_ints : ∀ {ys : List Value} {R : List Nat}, Paired IsNum ys R → IntsAre ys (R.map Int.ofNat)
  | _, _, .nil => .nil
  | _, _, .cons x t => by
    obtain ⟨k, rfl⟩ := x
    exact .cons _ k (isNums_ints t)
noncomputable def textTest (text tok : Str) (v : Value) : Bool := match v with | .int a _ => Txt.slice text (some a) (some (a + 1)) == tok | _ => false
noncomputable def PlusOne (v y : Value) : Prop := ∃ a t t', v = .int a t ∧ y = .int (a + 1) t'
theorem nums_step {text tok : Str} : ∀ {ys zs : List Value} {R : List Nat}, Paired IsNum ys R → Paired PlusOne (ys.filter (textTest text tok)) zs →
    Paired IsNum zs ((R.filter fun (p : Nat) => Txt.slice text (some (p : Int)) (some ((p : Int) + 1)) == tok).map (· + 1))
  | [], zs, R, h, k => by
    cases h
    cases k
    exact .nil
  | v :: ys, zs, R, h, k => by
    cases h with
    | @cons _ p _ R' x t =>
      obtain ⟨tk, rfl⟩ := x
      have e1 : textTest text tok (.int (p : Int) tk) = (Txt.slice text (some (p : Int)) (some ((p : Int) + 1)) == tok) := rfl
      rw [List.filter_cons, e1] at k
      rw [List.filter_cons]
      by_cases hb : (Txt.slice text (some (p : Int)) (some ((p : Int) + 1)) == tok) = true
      · rw [if_pos hb] at k ⊢
        cases k with
        | cons y q =>
          obtain ⟨a, t1, t2, e, rfl⟩ := y
          cases e
          exact .cons ⟨t2, by push_cast; rfl⟩ (nums_step t q)
      · rw [if_neg hb] at k ⊢
        exact nums_step t k
theorem paired_range' {ys : List Value} {p n : Nat} (hl : ys.length = n) (h : ∀ (j : Nat) v, ys[j]? = some v → ∃ t, v = .int ((p : Int) + (j : Int) * 1) t) : Paired IsNum ys (List.range' p n) := by
  induction ys generalizing p n with
  | nil => subst hl; exact .nil
  | cons v r ih =>
    subst hl
    rw [List.length_cons, List.range'_succ]
    refine .cons ?_ (ih rfl fun j v hv => ?_)
    · obtain ⟨t, e⟩ := h 0 v rfl
      exact ⟨t, by rw [e]; congr 1⟩
    · obtain ⟨t, e⟩ := h (j + 1) v (by simpa using hv)
      exact ⟨t, by rw [e]; congr 1; push_cast; omega⟩
section
variable {prog : Program} {w : World} {A : Around} {E : Value → Shared → Prop} {s s₀ : Shared} {g : Heap} {L : Addr} {mu : List (Addr × Obj)} {m : Str → Option Value} {Q : Value → Shared → Prop}
theorem mRange2 {a b : Int} {t u : Tok} (F : St s₀ g L mu m s) (h : ∀ r v g' s', Ext g g' → IsRange g' r a b 1 t u v → St s₀ g' L mu m s' → Q (.ref r) s') :
    wpAny (model prog w) A (call (.type "range") [.int a t, .int b u]) Q E s := by
  obtain ⟨g', e1, F', k⟩ := F.2.push { cls := .type "range", data := .fields #[.int a t, .int b u, .int 1 s.toks] } rfl
  exact call_range_2 (h _ s.toks g' { s with heap := s.heap.push _, toks := s.toks + 1 } e1 k ⟨F.1, F'⟩)
theorem mListRange {a n : Nat} {r : Addr} {b : Int} {t u v : Tok} (F : St s₀ g L mu m s) (hh : A.handled = none) (hr : IsRange s.heap r (a : Int) b 1 t u v) (hb : b < 100000) (ha : (a : Int) < 100000) (hb0 : 0 ≤ b) (hn : n = (b - (a : Int)).toNat)
    (h : ∀ D ys c g' s', Ext g g' → g'.get? D = some (lst ys c) → Paired IsNum ys (List.range' a n) → St s₀ g' L mu m s' → Q (.ref D) s') :
    wpAny (model prog w) A (call (.type "list") [.ref r]) Q E s := by
  refine call_list_range (n := n) hh hr (small_one (by omega) (by omega) (by omega) (by omega)) (by rw [rangeSize_one]; split <;> omega) (Nat.le_trans (by omega : n ≤ 100000) (by decide)) fun h' tk acc' c' hk hD hI => ?_
  have hx : Ext s.heap h' := fun b o e => hk b o e
  obtain ⟨g', e1, F', k⟩ := F.2.fresh hx
  refine h _ acc'.toList c' g' { s with heap := h', toks := tk } e1 (k _ _ (get?_size_none _) (by rw [hD])) ?_ ⟨F.1, F'⟩
  exact paired_range' (by simpa using hI.1) fun j v hv => hI.2 j v (by simpa using hv)
theorem tests1 {c : Expr} {env' : Env} {s₃ : Shared} {E' : Value → Shared → Prop} {b : Bool} (h : wpAny (model prog w) A (isTrue c env' (eval c env')) (fun ok s₄ => ok = b ∧ PySem.Keeps s₃ s₄) E' s₃) :
    wpAny (model prog w) A (forIn [c] true fun c r => if r = true then do let ok ← isTrue c env' (eval c env'); pure (ForInStep.yield ok) else pure (ForInStep.yield r)) (fun ok s₄ => ok = b ∧ PySem.Keeps s₃ s₄) E' s₃ := by
  rw [List.forIn_cons]
  refine wpAny_bind ?_
  rw [if_pos rfl]
  refine wpAny_bind (wpAny_mono h (fun ok s₄ hk => wpAny_pure ?_) fun _ _ x => x)
  show wpAny _ _ (forIn [] ok _) _ _ _
  rw [List.forIn_nil]
  exact wpAny_pure hk
theorem keptStR {g₀ : Heap} : KeptByPush (fun s => StR s₀ g₀ s) := fun _ _ _ F => ⟨F.1, F.2.trans (Ext.push _ _)⟩
theorem mSliceSSR {g₀ : Heap} {x : Str} {t : Tok} {value slice : Expr} {i j : Int} {ui uj : Tok} (F : StR s₀ g₀ s) (hsz : x.length ≤ 1000000) (h : ∀ s' t', StR s₀ g₀ s' → Q (.str (Txt.slice x (some i) (some j)) t') s')
    (hs : subscripted slice false (.str x t) (.ref s.heap.objs.size) = operate [.ref s.heap.objs.size, .str x t] (getItem (.str x t) (.ref s.heap.objs.size)) := by kernel_rfl)
    (ht : ∀ r, letTemporaryGo value (.str x t) r = pure () := by intro _; kernel_rfl) :
    wpAny (model prog w) A (subscriptTail value slice (.str x t) (.ref s.heap.objs.size)) Q E { s with heap := s.heap.push { cls := .type "slice", data := .fields #[.int i ui, .int j uj, .none] } } :=
  tail_of_ItemOn (SBG.sliceItem_ss keptStR F h (small hsz)) hs ht
end
section
variable {prog : Program} {w : World} {A : Around} {E : Value → Shared → Prop} {s : Shared}
set_option maxHeartbeats 8000000 in
theorem taken_spec {lt : Addr} {nt : Nat} {ts : List (Str × Tok)} {text : Str} {tt : Tok} (G : Gd w s.heap) (hd : A.depth + 2 < recursionLimit) (hah : A.handled = none)
    (hlt : s.heap.get? lt = some (lst (strValues ts) nt)) (h1 : ts.length ≤ 1000) (h2 : text.length ≤ 1000) :
    codeAny (model prog w) A (.call (.ref 146) ⟨[.ref lt, .str text tt], []⟩) (Ret s fun v _ => v = .bool (takenB (ts.map (·.1)) text)) s := by
  refine enterC2 G (o := ?o) (fd := ?fd) (body := ?bd) (binds := [(Str.ofString "tokens", .ref lt), (Str.ofString "text", .str text tt)]) (n1 := Str.ofString "text") (n2 := Str.ofString "token")
    (v1 := some (.str text tt)) (v2 := none) (m1 := upd (fun _ => none) (Str.ofString "tokens") (.ref lt)) ?ho ?hdata (by omega) ?hbody ?hclo ?hbind ?hcd ?hcs ?hne ?hkind ?hm1 ?hv1 ?hv2 ?h ?hco ?hgen ?hk
  walk_at "entc"
  intro A' s' o1 o2 hh hdp hun hd1 hd2 F env
  have hhA : A'.handled = none := hh.trans hah
  walk_at "m*"
  with_reducible refine mList F ?a ?_
  case a => exact small (Nat.le_of_ble_eq_true rfl)
  intro lr g1 s1 e1 n1 hlr F1
  walk_at "m*"
  rename_i s2 F2
  refine forListG (mu := [(s.heap.objs.size + 1, o1), (s.heap.objs.size + 2, o2)]) (rest := []) (fun i g' m' mu' => ∃ R ys nR lr oX oT ov, mu' = [(s.heap.objs.size + 1, oX), (s.heap.objs.size + 2, oT)] ∧ R = ((ts.map (·.1)).take i).foldl (takenStep text) [0] ∧
    Paired IsNum ys R ∧ g'.get? lr = some (lst ys nR) ∧ m' (Str.ofString "reached") = some (.ref lr) ∧ oX.data = .cell (some (.str text tt)) ∧ oT.data = .cell ov ∧ (∀ p ∈ R, p ≤ 1000 + i) ∧ R.length ≤ 1001) (isList_of (e1 _ _ hlt)) hhA F2 ?h0 ?turn ?done
  case h0 => exact ⟨[0], _, _, lr, o1, o2, none, rfl, rfl, .cons ⟨_, rfl⟩ .nil, hlr, by walk_at "lk", hd1, hd2, by simp, by simp⟩
  case done =>
    rintro g' m' mu' sz e' ⟨R, ys, nR, lr', oX, oT, ov, rfl, hR, hys, hlr', k1, hdX, hdT, hb1, hb2⟩ Fa
    have Fb : St s g' s.heap.objs.size ([(s.heap.objs.size + 1, oX), (s.heap.objs.size + 2, oT)] ++ []) m' sz := Fa
    have G' : Gd w g' := G.keeps (e1.trans e')
    walk_at "m*"
    have hcX : sz.heap.get? (s.heap.objs.size + 1) = some oX := (Fb.2.mem _ (.head _)).1
    refine ldC hcX hdX ?_
    walk_at "m*"
    refine mLenStr (by omega) ?_
    intro tl1 kl1
    walk_at "m*"
    refine in_list_ints (isList_of (Fb.2.keep _ _ hlr')) (isNums_ints hys) ?_
    refine Ret.mk (s' := { sz with toks := kl1 }) (e1.trans (e'.trans Fb.2.keep)) Fb.1 ?_
    have hRf : R = takenR (ts.map (·.1)) text := by
      rw [hR, List.take_of_length_le (by simp [strValues])]; rfl
    rw [hRf]; rfl
  case turn =>
    rintro i v g' m' mu' own sz hv e' ⟨R, ys, nR, lr', oX, oT, ov, rfl, hR, hys, hlr', k1, hdX, hdT, hb1, hb2⟩ Fa
    obtain ⟨c, tc, rfl, hc⟩ := strValues_get (cs := ts.map (·.1)) rfl hv
    have hil : i < ts.length := by simpa using (List.getElem?_eq_some_iff.mp hc).1
    have hst : ((ts.map (·.1)).take (i + 1)).foldl (takenStep text) [0] = takenStep text R c := by rw [take_step' _ _ hc, hR]
    have Fb : St s g' s.heap.objs.size ((s.heap.objs.size + 1, oX) :: (s.heap.objs.size + 2, oT) :: own) m' sz := Fa
    clear Fa
    have G' : Gd w g' := G.keeps (e1.trans e')
    refine stC (a := [(s.heap.objs.size + 1, oX)]) (b := own) Fb hdT ?_
    intro oT' s3 hdT' F3
    walk_at "m*"
    have hcT : s3.heap.get? (s.heap.objs.size + 2) = some oT' := (F3.2.mem _ (.tail _ (.head _))).1
    have hcX : s3.heap.get? (s.heap.objs.size + 1) = some oX := (F3.2.mem _ (.head _)).1
    refine ldC hcT hdT' ?_
    walk_at "m*"
    refine PyProof.Rows.ne_str ?_
    walk_at "m*"
    refine split_b ?_ ?_ <;> intro hb
    · have hcd : c ≠ Str.ofString "..." := by simpa using hb
      have hstc : takenStep text R c = (R.filter fun (p : Nat) => Txt.slice text (some (p : Int)) (some ((p : Int) + 1)) == c).map (· + 1) := by unfold takenStep; rw [if_neg hcd]
      refine wpAny_execs_cons ?_
      refine mACompLst (s₀ := s) (L := s.heap.objs.size) (textTest text c) PlusOne [(Str.ofString "token", s.heap.objs.size + 2), (Str.ofString "text", s.heap.objs.size + 1)] hhA ?_
      walk_at "m*"
      refine ⟨lr', nR, ys, g', _, _, rfl, F3.2.keep _ _ hlr', F3, ?hsz, ?T, ?done⟩
      case hsz => rw [hys.length]; omega
      case T =>
        constructor
        · intro C v s₃ m₃ E' hv hC hN hx hE
          obtain ⟨k, hk⟩ := List.getElem?_of_mem hv
          obtain ⟨p, hp, tp, rfl⟩ := pairedGet hys k v hk
          have K0 : StR s₃ s₃.heap s₃ := ⟨Same.refl _, Ext.refl _⟩
          have hc1 : s₃.heap.get? (s.heap.objs.size + 1) = some oX := hE _ _ hcX
          have hc2 : s₃.heap.get? (s.heap.objs.size + 2) = some oT' := hE _ _ hcT
          refine tests1 ?_
          refine mIsTrueCmp ?_
          refine Subscript_ ?_
          refine ldCR hc1 hdX ?_ ?hc
          case hc => kernel_rfl
          refine wpAny_Slice ?_
          refine evalPart_some_step ?_
          refine ldR K0 hN hx ?_
          refine evalPart_some_step ?_
          refine wpAny_BinOp ?_
          refine ldR K0 hN hx ?_
          refine wpAny_Constant_int ?_
          refine PyProof.Rows.add_int ?_
          refine evalPart_none_step ?_
          refine mSliceSSR (s := { s₃ with toks := s₃.toks + 1 + 1 }) (s₀ := s₃) (g₀ := s₃.heap) ⟨⟨rfl, rfl, rfl⟩, Ext.refl _⟩ (by omega) ?_
          intro s4 t4 K4
          refine ldCR (K4.2 _ _ hc2) hdT' ?_ ?hc
          case hc => kernel_rfl
          refine PyProof.Rows.eq_str ?_
          refine wpAny_truthy_bool ?_
          exact ⟨rfl, StR.keeps K4⟩
        · intro C v s₃ m₃ E' hv hpv hC hN hx hE
          obtain ⟨k, hk⟩ := List.getElem?_of_mem hv
          obtain ⟨p, hp, tp, rfl⟩ := pairedGet hys k v hk
          have K0 : StR s₃ s₃.heap s₃ := ⟨Same.refl _, Ext.refl _⟩
          refine wpAny_BinOp ?_
          refine ldR K0 hN hx ?_
          refine wpAny_Constant_int ?_
          refine PyProof.Rows.add_int ?_
          exact ⟨⟨_, tp, _, rfl, rfl⟩, StR.keeps ⟨⟨rfl, rfl, rfl⟩, Ext.refl _⟩⟩
      case done =>
        intro D zs nd g4 s4 e4 hD hDl hP F4
        have hzs := nums_step hys hP
        rw [← hstc] at hzs
        walk_at "m*"
        refine ⟨g4, _, [(s.heap.objs.size + 1, oX), (s.heap.objs.size + 2, oT')], e4, F4, takenStep text R c, zs, nd, D, oX, oT', _, rfl, hst.symm, hzs, hDl, by walk_at "lk", hdX, hdT', ?_, ?_⟩
        · intro q hq
          rw [hstc] at hq
          obtain ⟨p, hp, rfl⟩ := List.mem_map.mp hq
          have := hb1 p (List.mem_filter.mp hp).1
          omega
        · rw [hstc, List.length_map]
          exact Nat.le_trans (List.length_filter_le _ _) hb2
    · have hcd : c = Str.ofString "..." := by simpa using hb
      walk_at "m*"
      refine mTruthList (F3.2.keep _ _ hlr') (by rw [hys.length]; omega) ?_
      refine split_b ?_ ?_ <;> intro hb2'
      · cases hys with
        | nil => simp at hb2'
        | @cons v0 p ys' R' x hys' =>
          obtain ⟨tp, rfl⟩ := x
          walk_at "m*"
          refine mItem (vs := .int (p : Int) tp :: ys') (y := .int (p : Int) tp) (F3.2.keep _ _ hlr') (by decide) (by decide) rfl ?_
          walk_at "m*"
          refine ldC hcX hdX ?_
          walk_at "m*"
          refine mLenStr (by omega) ?_
          intro tl1 kl1
          walk_at "m*"
          refine PyProof.Rows.add_int ?_
          walk_at "m*"
          have F4 : St s g' s.heap.objs.size ((s.heap.objs.size + 1, oX) :: (s.heap.objs.size + 2, oT') :: own) m' { s3 with toks := kl1 + 1 + 1 } := F3
          refine mRange2 (s₀ := s) (g := g') (L := s.heap.objs.size) (mu := (s.heap.objs.size + 1, oX) :: (s.heap.objs.size + 2, oT') :: own) (m := m') F3 ?_
          intro r vr g5 s5 e5 hr F5
          walk_at "m*"
          have hpb := hb1 p (.head _)
          refine mListRange (n := text.length + 1 - p) F5 hhA (F5.2.keep _ _ hr) (by omega) (by omega) (by omega) (by omega) ?_
          intro D zs nd g6 s6 e6 hDl hzs F6
          walk_at "m*"
          rename_i s7 F7
          have hstc : takenStep text (p :: R') c = List.range' p (text.length + 1 - p) := by unfold takenStep; rw [if_pos hcd]
          refine ⟨g6, _, [(s.heap.objs.size + 1, oX), (s.heap.objs.size + 2, oT')], e5.trans e6, F7, takenStep text (p :: R') c, zs, nd, D, oX, oT', _, rfl, hst.symm, by rw [hstc]; exact hzs, hDl, by walk_at "lk", hdX, hdT', ?_, ?_⟩
          · intro q hq
            rw [hstc, List.mem_range'] at hq
            obtain ⟨j, h3, rfl⟩ := hq
            omega
          · rw [hstc, List.length_range']; omega
      · cases hys with
        | cons x hys' => simp at hb2'
        | nil =>
          walk_at "m*"
          refine ⟨g', _, [(s.heap.objs.size + 1, oX), (s.heap.objs.size + 2, oT')], Ext.refl _, F3, takenStep text [] c, [], nR, lr', oX, oT', _, rfl, hst.symm, ?_, hlr', by walk_at "lk", hdX, hdT', ?_, ?_⟩
          · unfold takenStep; rw [if_pos hcd]; exact .nil
          · unfold takenStep; rw [if_pos hcd]; simp
          · unfold takenStep; rw [if_pos hcd]; simp
end
end PartMTaken
section PartMPl3
open PySem PySem.W PySem.Calls PyProof.Rows PySem.Builtin PySem.Builtin.Str
/-! words, fillings -/
noncomputable def mText (p : Pr) : Str := Txt.join (Str.ofString "") p.1
noncomputable def fText (p : Pr) : Str := p.2
noncomputable def PrOk (p : Pr) : Prop := p.1 ∈ allW ∧ ∃ f, p.2 = fillW f p.1
/-- what a text of a word may be -/
noncomputable abbrev textOk (ts : List Str) (x : Str) : Prop := (tl x = [] ↔ ts = []) ∧ (x = dotS ↔ ts = dW) ∧ (x = dotdotS ↔ ts = ddW) ∧ 47 ∉ tl x ∧ x.length ≤ 6
theorem mText_ok0 : ∀ ts ∈ allW, textOk ts (Txt.join (Str.ofString "") ts) := by decide +kernel
theorem fill_ok0 : ∀ i ∈ List.range 5, ∀ ts ∈ allW, textOk ts (fillW i ts) := by decide +kernel
theorem fillT_mod (f : Nat) (t : Str) : fillT (f % 5) t = fillT f t := by
  unfold fillT; rw [Nat.mod_mod]
theorem fillW_mod (f : Nat) (ts : List Str) : fillW (f % 5) ts = fillW f ts := by
  unfold fillW
  congr 1
  exact List.map_congr_left fun t _ => fillT_mod f t
theorem mText_ok {p : Pr} (h : PrOk p) : textOk p.1 (mText p) := mText_ok0 _ h.1
theorem fText_ok {p : Pr} (h : PrOk p) : textOk p.1 (fText p) := by
  obtain ⟨h1, f, h2⟩ := h
  unfold fText
  rw [h2, ← fillW_mod]
  exact fill_ok0 _ (List.mem_range.mpr (Nat.mod_lt _ (by decide))) _ h1
theorem itemsGo_ok : ∀ (k : Nat) (ts : List Str) (n f : Nat), ts ∈ allW → ∀ p ∈ itemsGo k ts n f, PrOk p
  | 0, _, _, _, _, p, hp => by simp [itemsGo] at hp
  | k + 1, ts, n, f, h, p, hp => by
    rw [itemsGo] at hp
    rcases List.mem_cons.mp hp with rfl | hp
    · exact ⟨h, f, rfl⟩
    · refine itemsGo_ok k _ _ _ ?_ p hp
      have hwl8 : n % 8 < allW.length := Nat.mod_lt _ (by decide)
      rw [List.getD_eq_getElem?_getD, List.getElem?_eq_getElem hwl8]; exact List.getElem_mem _
theorem itemsOf_ok (N F : Nat) : ∀ p ∈ itemsOf N F, PrOk p := itemsGo_ok 5 _ N F (by decide)
theorem itemsGo_len : ∀ (k : Nat) (ts : List Str) (n f : Nat), (itemsGo k ts n f).length = k
  | 0, _, _, _ => rfl
  | k + 1, ts, n, f => by rw [itemsGo, List.length_cons, itemsGo_len]
/-- normpath keeps the words that the law's walk keeps -/
theorem np_step {f : Pr → Str} {rt : Bool} {acc : List Pr} {p : Pr} (hf : ∀ q ∈ acc, textOk q.1 (f q)) (hp : textOk p.1 (f p)) (hr : rt = true → ∀ q ∈ acc, q.1 ≠ ddW) :
    npStep rt (acc.map f) (f p) = (keptStep rt acc p).map f := by
  obtain ⟨p1, p2, p3, _⟩ := hp
  unfold npStep keptStep
  by_cases h1 : tl (f p) = [] ∨ f p = dotS
  · rw [if_pos h1]
    have hdd : p.1 ≠ ddW := by
      intro q
      rcases h1 with h1 | h1
      · rw [p1.mp h1] at q; exact absurd q (by decide)
      · rw [p2.mp h1] at q; exact absurd q (by decide)
    rw [if_neg hdd, if_neg]
    rintro ⟨a, b⟩
    rcases h1 with h1 | h1
    · exact a (p1.mp h1)
    · exact b (p2.mp h1)
  · rw [if_neg h1]
    have h1a : p.1 ≠ [] := fun q => h1 (.inl (p1.mpr q))
    have h1b : p.1 ≠ dW := fun q => h1 (.inr (p2.mpr q))
    by_cases h2 : p.1 = ddW
    · have h2' : f p = dotdotS := p3.mpr h2
      rw [if_pos h2]
      rcases List.eq_nil_or_concat acc with hnil | ⟨ai, q, hcon⟩
      · subst hnil
        cases rt with
        | true => simp [h2']
        | false => simp
      · rw [List.concat_eq_append] at hcon
        subst hcon
        obtain ⟨_, _, q3, _⟩ := hf q (by simp)
        by_cases h3 : q.1 = ddW
        · have h3' : f q = dotdotS := q3.mpr h3
          cases rt with
          | true => exact absurd h3 (hr rfl q (by simp))
          | false =>
            rw [if_pos (.inr (.inr (by simp [h3']))), if_neg (by simp [h3]), if_pos rfl]
            simp
        · have h3' : f q ≠ dotdotS := fun z => h3 (q3.mp z)
          rw [if_neg, if_pos (by simp [h3])]
          · simp
          · rintro (z | z | z)
            · exact z h2'
            · simp at z
            · simp at z; exact h3' z
    · have h2' : f p ≠ dotdotS := fun z => h2 (p3.mp z)
      rw [if_pos (.inl h2'), if_neg h2, if_pos ⟨h1a, h1b⟩]
      simp
theorem keptStep_dd {acc : List Pr} {p : Pr} (h : ∀ q ∈ acc, q.1 ≠ ddW) : ∀ q ∈ keptStep true acc p, q.1 ≠ ddW := by
  intro q hq
  unfold keptStep at hq
  by_cases h1 : p.1 = ddW
  · rw [if_pos h1] at hq
    split at hq
    · exact h q (List.dropLast_subset _ hq)
    · rw [if_neg (by decide)] at hq; exact h q hq
  · rw [if_neg h1] at hq
    split at hq
    · rcases List.mem_append.mp hq with z | z
      · exact h q z
      · rw [List.mem_singleton.mp z]; exact h1
    · exact h q hq
theorem np_go {f : Pr → Str} {rt : Bool} : ∀ (ps acc : List Pr), (∀ q ∈ acc, textOk q.1 (f q)) → (∀ q ∈ ps, textOk q.1 (f q)) → (rt = true → ∀ q ∈ acc, q.1 ≠ ddW) →
    (ps.map f).foldl (npStep rt) (acc.map f) = (ps.foldl (keptStep rt) acc).map f
  | [], acc, _, _, _ => rfl
  | p :: r, acc, h1, h2, h3 => by
    have hp := h2 p (.head _)
    rw [List.map_cons, List.foldl_cons, List.foldl_cons, np_step h1 hp h3]
    refine np_go r (keptStep rt acc p) (fun q hq => ?_) (fun q hq => h2 q (.tail _ hq)) (fun hr q hq => ?_)
    · rcases keptStep_mem hq with z | z
      · exact h1 q z
      · rw [z]; exact hp
    · subst hr; exact keptStep_dd (h3 rfl) q hq
theorem np_kept {f : Pr → Str} {rt : Bool} {ps : List Pr} (h : ∀ q ∈ ps, textOk q.1 (f q)) : npComps rt (ps.map f) = (keptOf rt ps).map f :=
  np_go ps [] (fun _ q => nomatch q) h (fun _ _ q => nomatch q)
theorem kept_good {rt : Bool} : ∀ (ps acc : List Pr), (∀ q ∈ acc, q.1 ≠ [] ∧ q.1 ≠ dW) → ∀ q ∈ ps.foldl (keptStep rt) acc, q.1 ≠ [] ∧ q.1 ≠ dW
  | [], acc, h, q, hq => h q hq
  | p :: r, acc, h, q, hq => by
    refine kept_good r (keptStep rt acc p) (fun z hz => ?_) q hq
    unfold keptStep at hz
    by_cases h1 : p.1 = ddW
    · rw [if_pos h1] at hz
      split at hz
      · exact h z (List.dropLast_subset _ hz)
      · split at hz
        · rcases List.mem_append.mp hz with y | y
          · exact h z y
          · rw [List.mem_singleton.mp y, h1]; exact ⟨by decide, by decide⟩
        · exact h z hz
    · rw [if_neg h1] at hz
      split at hz
      · rename_i h2
        rcases List.mem_append.mp hz with y | y
        · exact h z y
        · rw [List.mem_singleton.mp y]; exact h2
      · exact h z hz
/-! texts joined -/
noncomputable def jl : List (List Nat) → List Nat
  | [] => []
  | x :: r => x ++ r.flatMap fun y => 47 :: y
theorem tl_append (a b : Str) : tl (a ++ b) = tl a ++ tl b := by
  show (a.cps ++ b.cps).toList = _
  simp
theorem tl_empty' : tl Str.empty = [] := by decide
theorem tl_sjoin (sep : Str) : ∀ (x : Str) (r : List Str), tl (Str.join sep (x :: r)) = tl x ++ r.flatMap fun y => tl sep ++ tl y
  | x, [] => by simp [Str.join]
  | x, y :: r => by
    rw [Str.join, tl_append, tl_append, tl_sjoin sep y r]
    simp
    simp
theorem tl_join (xs : List Str) : tl (Txt.join slash xs) = jl (xs.map tl) := by
  unfold Txt.join
  rw [StrLaws.glued_eq_join]
  cases xs with
  | nil => exact tl_empty'
  | cons x r =>
    rw [tl_sjoin]
    show _ = tl x ++ (r.map tl).flatMap fun y => 47 :: y
    rw [List.flatMap_map, show tl slash = [47] from tl_slash]; rfl
theorem tl_joinE (xs : List Str) : tl (Txt.join (Str.ofString "") xs) = xs.flatMap tl := by
  unfold Txt.join
  rw [StrLaws.glued_eq_join]
  cases xs with
  | nil => exact tl_empty'
  | cons x r => rw [tl_sjoin, show tl (Str.ofString "") = [] from tl_empty]; simp
theorem prs47_word {x l : List Nat} (h : 47 ∉ x) : prs [47] 0 (x ++ l) = x.map some ++ prs [47] 0 l := by
  induction x with
  | nil => rfl
  | cons c r ih =>
    have hc : 47 ≠ c := fun q => h (q ▸ .head _)
    rw [List.cons_append, prs, if_neg (by rw [List.cons_prefix_cons]; exact fun z => hc z.1), ih (fun q => h (.tail _ q))]
    rfl
theorem prs47_slash (l : List Nat) : prs [47] 0 (47 :: l) = none :: prs [47] 0 l := by
  rw [prs, if_pos (by rw [List.cons_prefix_cons]; exact ⟨rfl, List.nil_prefix⟩)]; rfl
theorem segs_lit : ∀ (x : List Nat) (tk : List (Option Nat)), segs (x.map some ++ tk) = (x ++ (segs tk).1, (segs tk).2)
  | [], tk => rfl
  | c :: r, tk => by
    rw [List.map_cons, List.cons_append, segs, segs_lit r tk]; rfl
theorem segs_jl : ∀ (r : List (List Nat)) (x : List Nat), 47 ∉ x → (∀ y ∈ r, 47 ∉ y) → segs (prs [47] 0 (jl (x :: r))) = (x, r)
  | [], x, hx, _ => by
    show segs (prs [47] 0 (x ++ [])) = _
    rw [prs47_word hx, segs_lit]
    simp [prs, segs]
  | y :: r, x, hx, hr => by
    have ih := segs_jl r y (hr y (.head _)) (fun z hz => hr z (.tail _ hz))
    have e : jl (x :: y :: r) = x ++ (47 :: jl (y :: r)) := by simp [jl]
    rw [e, prs47_word hx, prs47_slash, segs_lit, segs, ih]
    simp
theorem split_slash {q : Str} {xs : List Str} (hne : xs ≠ []) (hq : tl q = jl (xs.map tl)) (h : ∀ x ∈ xs, 47 ∉ tl x) : Txt.split q slash = xs := by
  have hs := split_prs q slash (by rw [show tl slash = [47] from tl_slash]; decide)
  rw [show tl slash = [47] from tl_slash, hq] at hs
  cases xs with
  | nil => exact absurd rfl hne
  | cons x r =>
    rw [List.map_cons, segs_jl _ _ (h x (.head _)) (fun y hy => by obtain ⟨z, hz, rfl⟩ := List.mem_map.mp hy; exact h z (.tail _ hz))] at hs
    dsimp only at hs
    rw [← List.map_cons] at hs
    exact (List.map_inj_right fun a b h => tl_inj h).mp hs
theorem npText_spelled {rt : Bool} {cs : List Str} : npText (if rt = true then Str.ofString "/" else Str.ofString "") cs = spelled rt (npComps rt cs) := by
  have e : (!(tl (if rt = true then Str.ofString "/" else Str.ofString "")).isEmpty) = rt := by
    cases rt
    · rw [if_neg (by decide), show tl (Str.ofString "") = [] from tl_empty]; rfl
    · rw [if_pos rfl, show tl (Str.ofString "/") = [47] from tl_slash]; rfl
  unfold npText spelled
  rw [e]
  dsimp only
  have h0 : ∀ x : Str, tl x = [] ↔ x = Str.ofString "" := fun x => by
    rw [← show tl (Str.ofString "") = [] from tl_empty]
    exact ⟨fun h => tl_inj h, fun h => by rw [h]⟩
  by_cases hx : tl ((if rt = true then Str.ofString "/" else Str.ofString "") ++ Txt.join slash (npComps rt cs)) = []
  · rw [if_pos hx, if_pos ((h0 _).mp hx)]
  · rw [if_neg hx, if_neg (fun z => hx ((h0 _).mpr z))]
end PartMPl3
section PartMPl4
open PySem PySem.W PySem.Calls PyProof.Rows PySem.Builtin PySem.Builtin.Str
/-! a mask's tokens -/
noncomputable def tokN (t : Str) : Option Nat := if t = Str.ofString "..." then none else (tl t).head?
noncomputable abbrev D3 : List Nat := [46, 46, 46]
theorem prs_dots (l : List Nat) : prs D3 0 (46 :: 46 :: 46 :: l) = none :: prs D3 0 l := by
  rw [prs, if_pos ⟨l, rfl⟩]; rfl
theorem prs_lit {c : Nat} (l : List Nat) (h : c ≠ 46) : prs D3 0 (c :: l) = some c :: prs D3 0 l := by
  rw [prs, if_neg (fun z => h (List.cons_prefix_cons.mp z).1.symm)]
theorem prs_dot1 {l : List Nat} (h : l.head? ≠ some 46) : prs D3 0 (46 :: l) = some 46 :: prs D3 0 l := by
  rw [prs, if_neg]
  intro z
  have h1 := (List.cons_prefix_cons.mp z).2
  cases l with
  | nil => simp at h1
  | cons d r => exact h (by rw [(List.cons_prefix_cons.mp h1).1]; rfl)
theorem prs_dot2 {l : List Nat} (h : l.head? ≠ some 46) : prs D3 0 (46 :: 46 :: l) = some 46 :: some 46 :: prs D3 0 l := by
  rw [prs, if_neg, prs_dot1 h]
  intro z
  have h1 := (List.cons_prefix_cons.mp (List.cons_prefix_cons.mp z).2).2
  cases l with
  | nil => simp at h1
  | cons d r => exact h (by rw [(List.cons_prefix_cons.mp h1).1]; rfl)
theorem goodW_cases {ts : List Str} (h : ts ∈ allW) (h1 : ts ≠ []) (h2 : ts ≠ dW) :
    ts = [Str.ofString "a"] ∨ ts = [Str.ofString ".", Str.ofString "."] ∨ ts = [Str.ofString "..."] ∨ ts = [Str.ofString "a", Str.ofString "..."] ∨ ts = [Str.ofString "...", Str.ofString "b"] ∨ ts = [Str.ofString "b"] := by
  unfold allW at h
  simp only [List.mem_cons, List.not_mem_nil, or_false] at h
  rcases h with h | h | h | h | h | h | h | h
  · exact .inl h
  · exact .inr (.inl h)
  · exact .inr (.inr (.inl h))
  · exact .inr (.inr (.inr (.inl h)))
  · exact absurd h h1
  · exact absurd h h2
  · exact .inr (.inr (.inr (.inr (.inl h))))
  · exact .inr (.inr (.inr (.inr (.inr h))))
theorem prs_word {ts : List Str} (h : ts ∈ allW) (h1 : ts ≠ []) (h2 : ts ≠ dW) {l : List Nat} (hl : l.head? ≠ some 46) : prs D3 0 (tl (Txt.join (Str.ofString "") ts) ++ l) = ts.map tokN ++ prs D3 0 l := by
  have eA : tokN (Str.ofString "a") = some 97 := by decide
  have eB : tokN (Str.ofString "b") = some 98 := by decide
  have eD : tokN (Str.ofString ".") = some 46 := by decide
  have eS : tokN (Str.ofString "...") = none := by decide
  have tA : tl (Str.ofString "a") = [97] := by decide
  have tB : tl (Str.ofString "b") = [98] := by decide
  have tD : tl (Str.ofString ".") = [46] := by decide
  have tS : tl (Str.ofString "...") = [46, 46, 46] := by decide
  rw [tl_joinE]
  rcases goodW_cases h h1 h2 with rfl | rfl | rfl | rfl | rfl | rfl
  · simp only [List.flatMap_cons, List.flatMap_nil, tA, List.map_cons, List.map_nil, eA, List.append_nil, List.cons_append, List.nil_append]
    rw [prs_lit _ (by decide)]
  · simp only [List.flatMap_cons, List.flatMap_nil, tD, List.map_cons, List.map_nil, eD, List.append_nil, List.cons_append, List.nil_append]
    rw [prs_dot2 hl]
  · simp only [List.flatMap_cons, List.flatMap_nil, tS, List.map_cons, List.map_nil, eS, List.append_nil, List.cons_append, List.nil_append]
    rw [prs_dots]
  · simp only [List.flatMap_cons, List.flatMap_nil, tA, tS, List.map_cons, List.map_nil, eA, eS, List.append_nil, List.cons_append, List.nil_append]
    rw [prs_lit _ (by decide), prs_dots]
  · simp only [List.flatMap_cons, List.flatMap_nil, tB, tS, List.map_cons, List.map_nil, eB, eS, List.append_nil, List.cons_append, List.nil_append]
    rw [prs_dots, prs_lit _ (by decide)]
  · simp only [List.flatMap_cons, List.flatMap_nil, tB, List.map_cons, List.map_nil, eB, List.append_nil, List.cons_append, List.nil_append]
    rw [prs_lit _ (by decide)]
noncomputable def GoodP (p : Pr) : Prop := PrOk p ∧ p.1 ≠ [] ∧ p.1 ≠ dW
theorem tok_slash : tokN (Str.ofString "/") = some 47 := by decide
theorem prs_body : ∀ (r : List Pr) (p : Pr), GoodP p → (∀ q ∈ r, GoodP q) → prs D3 0 (jl ((p :: r).map fun q => tl (mText q))) = (tokBody (p :: r)).map tokN
  | [], p, hp, _ => by
    have := prs_word hp.1.1 hp.2.1 hp.2.2 (l := []) (by simp)
    rw [List.append_nil] at this
    show prs D3 0 (tl (mText p) ++ []) = (p.1 ++ []).map tokN
    rw [List.append_nil, List.append_nil]
    unfold mText
    rw [this]; simp [prs]
  | q :: r, p, hp, hr => by
    have ih := prs_body r q (hr q (.head _)) (fun z hz => hr z (.tail _ hz))
    have e1 : jl ((p :: q :: r).map fun q => tl (mText q)) = tl (mText p) ++ (47 :: jl ((q :: r).map fun q => tl (mText q))) := by simp [jl]
    have e2 : tokBody (p :: q :: r) = p.1 ++ (Str.ofString "/" :: tokBody (q :: r)) := by simp [tokBody]
    rw [e1, e2]
    have := prs_word hp.1.1 hp.2.1 hp.2.2 (l := 47 :: jl ((q :: r).map fun q => tl (mText q))) (by simp)
    unfold mText at this ⊢
    rw [this, prs_lit _ (by decide)]
    unfold mText at ih
    rw [ih, List.map_append, List.map_cons, tok_slash]
theorem word_ne {p : Pr} (h : GoodP p) {f : Pr → Str} (hf : textOk p.1 (f p)) : tl (f p) ≠ [] := fun q => h.2.1 (hf.1.mp q)
theorem jl_ne {x : List Nat} {r : List (List Nat)} (h : x ≠ []) : jl (x :: r) ≠ [] := by
  cases x with
  | nil => exact absurd rfl h
  | cons c q => simp [jl]
theorem tl_spelled {rt : Bool} {f : Pr → Str} {ps : List Pr} (h : ∀ p ∈ ps, GoodP p) (hf : ∀ p ∈ ps, textOk p.1 (f p)) :
    tl (spelled rt (ps.map f)) = if rt = false ∧ ps = [] then [46] else (if rt = true then [47] else []) ++ jl (ps.map fun q => tl (f q)) := by
  have e : tl ((if rt = true then Str.ofString "/" else Str.ofString "") ++ Txt.join slash (ps.map f)) = (if rt = true then [47] else []) ++ jl (ps.map fun q => tl (f q)) := by
    rw [tl_append, tl_join, List.map_map]
    cases rt
    · rw [if_neg (by decide), if_neg (by decide), show tl (Str.ofString "") = [] from tl_empty]; rfl
    · rw [if_pos rfl, if_pos rfl, show tl (Str.ofString "/") = [47] from tl_slash]; rfl
  unfold spelled
  dsimp only
  by_cases hc : rt = false ∧ ps = []
  · rw [if_pos hc]
    obtain ⟨rfl, rfl⟩ := hc
    rw [if_pos]
    · decide
    · apply tl_inj
      rw [e, show tl (Str.ofString "") = [] from tl_empty]; rfl
  · rw [if_neg hc, if_neg, e]
    intro z
    have := congrArg tl z
    rw [e, show tl (Str.ofString "") = [] from tl_empty] at this
    cases rt with
    | true => rw [if_pos rfl] at this; simp at this
    | false =>
      cases ps with
      | nil => exact hc ⟨rfl, rfl⟩
      | cons p r =>
        rw [if_neg (by decide), List.nil_append, List.map_cons] at this
        exact jl_ne (word_ne (h p (.head _)) (hf p (.head _))) this
theorem tokBody_ne {p : Pr} {r : List Pr} (h : GoodP p) : tokBody (p :: r) ≠ [] := by
  intro q
  have : p.1 = [] := (List.append_eq_nil_iff.mp q).1
  exact h.2.1 this
theorem tokensOf_f : tokensOf false [] = [Str.ofString "."] := rfl
theorem tokensOf_t (ps : List Pr) : tokensOf true ps = Str.ofString "/" :: tokBody ps := by simp [tokensOf]
theorem tokensOf_fc {ps : List Pr} (h : tokBody ps ≠ []) : tokensOf false ps = tokBody ps := by simp [tokensOf, h]
theorem tl_spelled_t {f : Pr → Str} {ps : List Pr} (h : ∀ p ∈ ps, GoodP p) (hf : ∀ p ∈ ps, textOk p.1 (f p)) : tl (spelled true (ps.map f)) = 47 :: jl (ps.map fun q => tl (f q)) := by
  rw [tl_spelled h hf]; simp
theorem tl_spelled_f {f : Pr → Str} : tl (spelled false (([] : List Pr).map f)) = [46] := by
  rw [tl_spelled (ps := []) (by simp) (by simp)]; simp
theorem tl_spelled_fc {f : Pr → Str} {ps : List Pr} (h : ∀ p ∈ ps, GoodP p) (hf : ∀ p ∈ ps, textOk p.1 (f p)) (hn : ps ≠ []) : tl (spelled false (ps.map f)) = jl (ps.map fun q => tl (f q)) := by
  rw [tl_spelled h hf]; simp [hn]
theorem mask_prs {rt : Bool} {ps : List Pr} (h : ∀ p ∈ ps, GoodP p) : prs D3 0 (tl (spelled rt (ps.map mText))) = (tokensOf rt ps).map tokN := by
  have hf : ∀ p ∈ ps, textOk p.1 (mText p) := fun p hp => mText_ok (h p hp).1
  cases ps with
  | nil =>
    cases rt with
    | false =>
      rw [tl_spelled_f, tokensOf_f, prs_dot1 (by simp), show ([Str.ofString "."].map tokN) = [some 46] by decide]
      simp [prs]
    | true =>
      rw [tl_spelled_t h hf, tokensOf_t, prs_lit _ (by decide), List.map_cons, tok_slash]
      simp [prs, tokBody, jl]
  | cons p r =>
    have hb := prs_body r p (h p (.head _)) (fun z hz => h z (.tail _ hz))
    have hn := tokBody_ne (r := r) (h p (.head _))
    cases rt with
    | false => rw [tl_spelled_fc h hf (by simp), tokensOf_fc hn, hb]
    | true => rw [tl_spelled_t h hf, tokensOf_t, prs_lit _ (by decide), hb, List.map_cons, tok_slash]
/-! the filling is of the mask's -/
theorem mt_token {f : Nat} {t : Str} (h : t = Str.ofString "..." ∨ ∃ c, tl t = [c]) : Mt [tokN t] (tl (fillT f t)) := by
  unfold tokN fillT
  by_cases hd : t = Str.ofString "..."
  · rw [if_pos hd, if_pos hd]; exact mt_star _
  · rw [if_neg hd, if_neg hd]
    obtain ⟨c, hc⟩ := h.resolve_left hd
    rw [hc]
    exact ⟨[], rfl, rfl⟩
theorem tok_shape : ∀ ts ∈ allW, ∀ t ∈ ts, t = Str.ofString "..." ∨ tl t = [(tl t).headD 0] := by decide +kernel
theorem mt_word {f : Nat} : ∀ (ts : List Str), (∀ t ∈ ts, t = Str.ofString "..." ∨ ∃ c, tl t = [c]) → Mt (ts.map tokN) ((ts.map (fillT f)).flatMap tl)
  | [], _ => rfl
  | t :: r, h => by
    rw [List.map_cons, List.map_cons, List.flatMap_cons]
    exact mt_append [tokN t] _ _ _ (mt_token (h t (.head _))) (mt_word r fun z hz => h z (.tail _ hz))
theorem mt_pair {p : Pr} (h : PrOk p) : Mt (p.1.map tokN) (tl (fText p)) := by
  obtain ⟨h1, f, h2⟩ := h
  unfold fText
  rw [h2, fillW, tl_joinE]
  exact mt_word _ fun t ht => (tok_shape _ h1 t ht).imp id fun e => ⟨_, e⟩
theorem mt_body : ∀ (r : List Pr) (p : Pr), PrOk p → (∀ q ∈ r, PrOk q) → Mt ((tokBody (p :: r)).map tokN) (jl ((p :: r).map fun q => tl (fText q)))
  | [], p, hp, _ => by
    show Mt ((p.1 ++ []).map tokN) (tl (fText p) ++ [])
    rw [List.append_nil, List.append_nil]; exact mt_pair hp
  | q :: r, p, hp, hr => by
    have ih := mt_body r q (hr q (.head _)) (fun z hz => hr z (.tail _ hz))
    have e1 : jl ((p :: q :: r).map fun q => tl (fText q)) = tl (fText p) ++ (47 :: jl ((q :: r).map fun q => tl (fText q))) := by simp [jl]
    have e2 : tokBody (p :: q :: r) = p.1 ++ (Str.ofString "/" :: tokBody (q :: r)) := by simp [tokBody]
    rw [e1, e2, List.map_append, List.map_cons, tok_slash]
    exact mt_append _ _ _ _ (mt_pair hp) ⟨_, rfl, ih⟩
theorem mt_self {rt : Bool} {ps : List Pr} (h : ∀ p ∈ ps, GoodP p) : Mt ((tokensOf rt ps).map tokN) (tl (spelled rt (ps.map fText))) := by
  have hf : ∀ p ∈ ps, textOk p.1 (fText p) := fun p hp => fText_ok (h p hp).1
  cases ps with
  | nil =>
    cases rt with
    | false =>
      rw [tl_spelled_f, tokensOf_f, show ([Str.ofString "."].map tokN) = [some 46] by decide]
      exact ⟨[], rfl, rfl⟩
    | true =>
      rw [tl_spelled_t h hf, tokensOf_t, List.map_cons, tok_slash]
      exact ⟨[], rfl, rfl⟩
  | cons p r =>
    have hb := mt_body r p (h p (.head _)).1 (fun z hz => (h z (.tail _ hz)).1)
    have hn := tokBody_ne (r := r) (h p (.head _))
    cases rt with
    | false => rw [tl_spelled_fc h hf (by simp), tokensOf_fc hn]; exact hb
    | true =>
      rw [tl_spelled_t h hf, tokensOf_t, List.map_cons, tok_slash]
      exact ⟨_, rfl, hb⟩
theorem ell_self {rt : Bool} {ps : List Pr} (h : ∀ p ∈ ps, GoodP p) : ellM (spelled rt (ps.map mText)) (spelled rt (ps.map fText)) = true := by
  rw [ellM_mt]
  show Mt (prs D3 0 _) _
  rw [mask_prs h]; exact mt_self h
/-! what the law's own walk along a text says -/
noncomputable def Tok1 (t : Str) : Prop := t = Str.ofString "..." ∨ ∃ c, tl t = [c]
theorem slice1 (x : Str) (p : Nat) : tl (Txt.slice x (some (p : Int)) (some ((p : Int) + 1))) = ((tl x).drop p).take 1 := by
  have := slice_ss x p (p + 1) (by omega)
  rw [show ((p + 1 : Nat) : Int) = (p : Int) + 1 by push_cast; rfl] at this
  rw [this]; congr 1; omega
theorem taken_mt (text : Str) : ∀ (ts : List Str) (R : List Nat), (∀ t ∈ ts, Tok1 t) → R.Pairwise (· < ·) → (∀ p ∈ R, p ≤ text.length) →
    (text.length ∈ ts.foldl (takenStep text) R ↔ ∃ p ∈ R, Mt (ts.map tokN) ((tl text).drop p))
  | [], R, _, _, hb => by
    constructor
    · intro h
      exact ⟨_, h, by rw [List.drop_eq_nil_of_le (by rw [tl_len]; exact Nat.le_refl _)]; rfl⟩
    · rintro ⟨p, hp, h⟩
      have h : (tl text).drop p = [] := h
      have h1 : text.length ≤ p := by rw [← tl_len]; simpa using h
      have : p = text.length := Nat.le_antisymm (hb p hp) h1
      rw [← this]; exact hp
  | t :: r, R, ht, hs, hb => by
    rw [List.foldl_cons, List.map_cons]
    have htr : ∀ z ∈ r, Tok1 z := fun z hz => ht z (.tail _ hz)
    by_cases hd : t = Str.ofString "..."
    · have e1 : tokN t = none := by unfold tokN; rw [if_pos hd]
      rw [e1]
      cases R with
      | nil =>
        have e2 : takenStep text [] t = [] := by unfold takenStep; rw [if_pos hd]
        rw [e2, taken_mt text r [] htr .nil (fun _ q => nomatch q)]
        simp
      | cons p0 R' =>
        have e2 : takenStep text (p0 :: R') t = List.range' p0 (text.length + 1 - p0) := by unfold takenStep; rw [if_pos hd]
        have h0 := hb p0 (.head _)
        rw [e2, taken_mt text r _ htr (List.pairwise_lt_range') (fun q hq => by rw [List.mem_range'] at hq; omega)]
        constructor
        · rintro ⟨q, hq, h⟩
          rw [List.mem_range'] at hq
          refine ⟨p0, .head _, ((tl text).drop p0).take (q - p0), (tl text).drop q, ?_, h⟩
          rw [show (tl text).drop q = ((tl text).drop p0).drop (q - p0) by rw [List.drop_drop]; congr 1; omega, List.take_append_drop]
        · rintro ⟨p, hp, u, v, he, h⟩
          have hle : p0 ≤ p := by
            rcases List.mem_cons.mp hp with rfl | hp
            · exact Nat.le_refl _
            · exact Nat.le_of_lt ((List.pairwise_cons.mp hs).1 p hp)
          have hpl := hb p hp
          have hl := congrArg List.length he
          rw [List.length_drop, tl_len, List.length_append] at hl
          refine ⟨p + u.length, by rw [List.mem_range']; exact ⟨p + u.length - p0, by omega, by omega⟩, ?_⟩
          rw [← List.drop_drop, he]; simpa using h
    · obtain ⟨c, hc⟩ := (ht t (.head _)).resolve_left hd
      have e1 : tokN t = some c := by unfold tokN; rw [if_neg hd, hc]; rfl
      have e2 : takenStep text R t = (R.filter fun (p : Nat) => Txt.slice text (some (p : Int)) (some ((p : Int) + 1)) == t).map (· + 1) := by unfold takenStep; rw [if_neg hd]
      have hf : ∀ p : Nat, (Txt.slice text (some (p : Int)) (some ((p : Int) + 1)) == t) = true ↔ ((tl text).drop p).take 1 = [c] := fun p => by
        rw [tl_beq, slice1, hc]
      rw [e1, e2, taken_mt text r _ htr ?_ ?_]
      · constructor
        · rintro ⟨q, hq, h⟩
          obtain ⟨p, hp, rfl⟩ := List.mem_map.mp hq
          obtain ⟨hp1, hp2⟩ := List.mem_filter.mp hp
          have h3 := (hf p).mp hp2
          refine ⟨p, hp1, (tl text).drop (p + 1), ?_, h⟩
          rw [← List.take_append_drop 1 ((tl text).drop p), h3, List.drop_drop]; rfl
        · rintro ⟨p, hp, t', he, h⟩
          have h3 : ((tl text).drop p).take 1 = [c] := by rw [he]; rfl
          refine ⟨p + 1, List.mem_map.mpr ⟨p, List.mem_filter.mpr ⟨hp, (hf p).mpr h3⟩, rfl⟩, ?_⟩
          rw [← List.drop_drop, he]; exact h
      · refine List.Pairwise.map (R := (· < ·)) _ (fun a b hab => by omega) (hs.filter _)
      · intro q hq
        obtain ⟨p, hp, rfl⟩ := List.mem_map.mp hq
        have h3 := (hf p).mp (List.mem_filter.mp hp).2
        have := congrArg List.length h3
        rw [List.length_take, List.length_drop, tl_len] at this
        simp at this; omega
theorem taken_ell {rt : Bool} {ps : List Pr} (h : ∀ p ∈ ps, GoodP p) (text : Str) (ht : ∀ t ∈ tokensOf rt ps, Tok1 t) : ellM (spelled rt (ps.map mText)) text = takenB (tokensOf rt ps) text := by
  rw [Bool.eq_iff_iff, ellM_mt]
  show Mt (prs D3 0 _) _ ↔ _
  rw [mask_prs h]
  have h1 := taken_mt text (tokensOf rt ps) [0] ht (by simp) (by simp)
  unfold takenB takenR
  rw [List.any_eq_true]
  constructor
  · intro hm
    have := h1.mpr ⟨0, .head _, by simpa using hm⟩
    exact ⟨_, List.mem_map_of_mem this, by simp⟩
  · rintro ⟨x, hx, he⟩
    obtain ⟨p, hp, rfl⟩ := List.mem_map.mp hx
    have hpe : p = text.length := by
      have : (Int.ofNat p) = (text.length : Int) := by simpa using he
      exact Int.ofNat.inj this
    rw [hpe] at hp
    obtain ⟨q, hq, hm⟩ := h1.mp hp
    rw [List.mem_singleton.mp hq] at hm
    simpa using hm
theorem tokens_tok1 {rt : Bool} {ps : List Pr} (h : ∀ p ∈ ps, PrOk p) : ∀ t ∈ tokensOf rt ps, Tok1 t := by
  have hs : Tok1 (Str.ofString "/") := .inr ⟨47, tl_slash⟩
  have hw : ∀ p ∈ ps, ∀ t ∈ p.1, Tok1 t := fun p hp t ht => (tok_shape _ (h p hp).1 t ht).imp id fun e => ⟨_, e⟩
  have hbody : ∀ t ∈ tokBody ps, Tok1 t := by
    cases ps with
    | nil => intro t ht; cases ht
    | cons p r =>
      intro t ht
      have ht : t ∈ p.1 ++ r.flatMap fun q => Str.ofString "/" :: q.1 := ht
      rcases List.mem_append.mp ht with z | z
      · exact hw p (.head _) t z
      · obtain ⟨q, hq, hz⟩ := List.mem_flatMap.mp z
        rcases List.mem_cons.mp hz with rfl | hz
        · exact hs
        · exact hw q (.tail _ hq) t hz
  have hdot : Tok1 (Str.ofString ".") := .inr ⟨46, tl_dot⟩
  intro t ht
  cases rt with
  | true =>
    rw [tokensOf_t] at ht
    rcases List.mem_cons.mp ht with rfl | z
    · exact hs
    · exact hbody t z
  | false =>
    by_cases hn : tokBody ps = []
    · have e : tokensOf false ps = [Str.ofString "."] := by simp [tokensOf, hn]
      rw [e] at ht
      rw [List.mem_singleton.mp ht]; exact hdot
    · rw [tokensOf_fc hn] at ht; exact hbody t ht
end PartMPl4
section PartMAg1
open PySem PySem.W PySem.Calls PyProof.Rows
/-- behind a call: what is new stays, tuples stay -/
theorem Fx.after {g h h' : Heap} {L : Addr} {mu : List (Addr × Obj)} {m : Str → Option Value} (F : Fx g L mu h m) (x : Ext h h') (hmu : ∀ p ∈ mu, p.2.cls ≠ .type "tuple") :
    ∃ g', Ext g g' ∧ Fx g' L mu h' m ∧ (∀ b vs, h'.get? b = some (tup vs) → g'.get? b = some (tup vs)) ∧ (∀ b o, h.get? b = none → h'.get? b = some o → g'.get? b = some o) := by
  obtain ⟨g', e1, F', k⟩ := (F.ext x).rebase
  refine ⟨g', e1, F', fun b vs hb => k b _ (fun q => ?_) (fun q => ?_) hb, fun b o hn ho => k b o (fun q => ?_) (fun q => ?_) ho⟩
  · obtain ⟨oL, es, ep, hL, hd, _⟩ := F'.ns
    rw [← q, hb] at hL
    cases hL
    cases hd
  · obtain ⟨p, hp, rfl⟩ := List.mem_map.mp q
    have h1 := (F'.mem p hp).1
    rw [hb] at h1
    have h2 := hmu p hp
    rw [← Option.some.inj h1] at h2
    exact h2 rfl
  · obtain ⟨oL, _, _, hL, _⟩ := F.ns
    rw [← q, hn] at hL; cases hL
  · obtain ⟨p, hp, rfl⟩ := List.mem_map.mp q
    rw [(F.mem p hp).1] at hn; cases hn
theorem IsWord.to {h h' : Heap} {v : Value} {ts : List Str} (k : ∀ b vs, h.get? b = some (tup vs) → h'.get? b = some (tup vs)) (x : IsWord h v ts) : IsWord h' v ts :=
  let ⟨b, us, e, o, q⟩ := x; ⟨b, us, e, k _ _ o, q⟩
theorem IsPair.to {h h' : Heap} {v : Value} {p : Pr} (k : ∀ b vs, h.get? b = some (tup vs) → h'.get? b = some (tup vs)) (x : IsPair h v p) : IsPair h' v p :=
  let ⟨a, wv, t, e, o, q⟩ := x; ⟨a, wv, t, e, k _ _ o, q.to k⟩
theorem strValues_inj {a b : List (Str × Tok)} (h : strValues a = strValues b) : a = b := by
  unfold strValues at h
  refine (List.map_inj_right (fun x y e => ?_)).mp h
  obtain ⟨x1, x2⟩ := x
  obtain ⟨y1, y2⟩ := y
  cases e; rfl
theorem tup_inj {a b : List Value} (h : tup a = tup b) : a = b := by
  have := congrArg Obj.data h
  injection this with h1 _
  simpa using h1
theorem IsPair.uniq {h : Heap} {v : Value} {p q : Pr} (x : IsPair h v p) (y : IsPair h v q) : p = q := by
  obtain ⟨a, wv, t, rfl, o, b, us, rfl, o2, e⟩ := x
  obtain ⟨a', wv', t', e1, o', b', us', rfl, o2', e'⟩ := y
  cases e1
  rw [o] at o'
  have h1 := tup_inj (Option.some.inj o')
  simp only [List.cons.injEq, Value.ref.injEq, Value.str.injEq, and_true] at h1
  obtain ⟨rfl, h2, _⟩ := h1
  rw [o2] at o2'
  have h3 := strValues_inj (tup_inj (Option.some.inj o2'))
  rw [h3, e'] at e
  exact Prod.ext e.symm h2
theorem strsAre_strValues : ∀ us : List (Str × Tok), StrsAre (strValues us) (us.map (·.1))
  | [] => .nil
  | u :: r => .cons _ _ (strsAre_strValues r)
/-- what a comprehension makes of pairs -/
noncomputable def MadeOf (g : Heap) (f : Pr → Str) (v y : Value) : Prop := ∀ p, IsPair g v p → ∃ t, y = .str (f p) t
theorem madeOf_texts {g : Heap} {f : Pr → Str} : ∀ {vs ys : List Value} {ps : List Pr}, Paired (IsPair g) vs ps → Paired (MadeOf g f) vs ys → ∃ us, ys = strValues us ∧ us.map (·.1) = ps.map f
  | [], _, _, h, k => by
    cases h; cases k; exact ⟨[], rfl, rfl⟩
  | v :: vs, _, _, h, k => by
    cases h with
    | cons x t =>
      cases k with
      | cons y r =>
        obtain ⟨tk, rfl⟩ := y _ x
        obtain ⟨us, rfl, e⟩ := madeOf_texts t r
        exact ⟨(_, tk) :: us, rfl, by rw [List.map_cons, List.map_cons, e]⟩
section
variable {prog : Program} {w : World} {A : Around} {E : Value → Shared → Prop} {s s₀ : Shared} {env : Env} {g : Heap} {L : Addr} {mu : List (Addr × Obj)} {m : Str → Option Value}
theorem mJoinT {D : Addr} {sep : Str} {t : Tok} {us : List (Str × Tok)} {Q : Value → Shared → Prop} (e : s.heap.get? D = some (tup (strValues us))) (hok : ((us.map (·.1)).map (·.length)).sum + (us.map (·.1)).length * sep.length ≤ 16777216)
    (h : ∀ t' k, Q (.str (Txt.join sep (us.map (·.1))) t') { s with toks := k }) : wpAny (model prog w) A (call (.builtin "str.join") [.str sep t, .ref D]) Q E s :=
  join_tuple (isTup_of e) (strsAre_strValues us) hok h
theorem ifStr {b : Bool} {x y : Str} {p1 p2 : Pos} {k1 k2 : Nat} {Q : Value → Shared → Prop} (h : ∀ t k, Q (.str (if b = true then x else y) t) { s with toks := k }) :
    if b = true then wpAny (model prog w) A (eval (.Constant (.str x) k1 p1) env) Q E s else wpAny (model prog w) A (eval (.Constant (.str y) k2 p2) env) Q E s := by
  cases b with
  | true =>
    rw [if_pos rfl]
    refine Calls.Constant_str ?_
    have := h s.toks (s.toks + 1)
    rw [if_pos rfl] at this; exact this
  | false =>
    rw [if_neg (by decide)]
    refine Calls.Constant_str ?_
    have := h s.toks (s.toks + 1)
    rw [if_neg (by decide)] at this; exact this
theorem words_total {ts : List Str} (h : ts ∈ allW) (us : List (Str × Tok)) (e : us.map (·.1) = ts) : ((us.map (·.1)).map (·.length)).sum + (us.map (·.1)).length * (Str.ofString "").length ≤ 16777216 := by
  rw [e]
  have : ∀ ts ∈ allW, (ts.map (·.length)).sum + ts.length * (Str.ofString "").length ≤ 100 := by decide +kernel
  exact Nat.le_trans (this ts h) (by decide)
/-- the frame of such a comprehension -/
noncomputable abbrev pairSc : Scope := { kind := .function, names := [(Str.ofString ".0", .local), (Str.ofString "pair", .local)], isGenerator := false, isCoroutine := false, more := [] }
/-- [''.join(pair[0]) for pair in ..] -/
theorem compMask {iter : Expr} {px p1 p2 p3 p4 p5 p6 pos : Pos} {Q : Value → Shared → Prop} {l : Addr} {n : Nat} {items : List Value} {ps : List Pr} (hh : A.handled = none) (_ : St s₀ g L mu m s)
    (hps : Paired (IsPair g) items ps) (hok : ∀ p ∈ ps, PrOk p) (hlen : ps.length ≤ 1000)
    (h : wpAny (model prog w) A (eval iter env) (fun xv s₁ => xv = .ref l ∧ s₁.heap.get? l = some (lst items n) ∧ St s₀ g L mu m s₁) E s)
    (done : ∀ D us n' g' s', Ext g g' → g.get? D = none → g'.get? D = some (lst (strValues us) n') → us.map (·.1) = ps.map mText → St s₀ g' L mu m s' → Q (.ref D) s')
    (he : ∀ C, eval (.Call (.Attribute (.Constant (.str (Str.ofString "")) 0 p1) (Str.ofString "join") p2) [.Subscript (.Name (Str.ofString "pair") p3) (.Constant (.int 0) 0 p4) p5] [] p6) (compEnvC pairSc [] C env) = (do
      let ov ← eval (.Constant (.str (Str.ofString "")) 0 p1) (compEnvC pairSc [] C env)
      standAt p2.atName
      let (f, first) ← holding [ov] (getMethod ov (Str.ofString "join") (do return (← importBound (.Constant (.str (Str.ofString "")) 0 p1) (compEnvC pairSc [] C env)).getD true))
      callWith p6 f first (backTo p6 (starEach [.Subscript (.Name (Str.ofString "pair") p3) (.Constant (.int 0) 0 p4) p5] (compEnvC pairSc [] C env))) []) := by intro _; kernel_rfl)
    (hs : ∀ x, foldedSetIterable iter env x = pure x := by intro _; kernel_rfl) :
    wpAny (model prog w) A (eval (.ListComp (.Call (.Attribute (.Constant (.str (Str.ofString "")) 0 p1) (Str.ofString "join") p2) [.Subscript (.Name (Str.ofString "pair") p3) (.Constant (.int 0) 0 p4) p5] [] p6)
      [⟨.Name (Str.ofString "pair") px, iter, [], 0⟩] pairSc pos) env) Q E s := by
  have hf : ∀ l : List Value, l.filter (fun _ => true) = l := fun l => List.filter_eq_self.mpr (fun _ _ => rfl)
  refine mCompLst (s₀ := s₀) (L := L) (fun _ => true) (MadeOf g mText) [] hh (wpAny_mono h (fun xv s₁ h₁ => ?_) fun _ _ y => y) (hs := hs)
  obtain ⟨rfl, hl, F1⟩ := h₁
  refine ⟨l, n, items, g, m, mu, rfl, hl, F1, by rw [hps.length]; omega, ⟨?_, ?_⟩, ?_⟩
  · intro C v s₃ m₃ E' _ _ _ _ _
    exact testsTrue rfl
  · intro C v s₃ m₃ E' hv _ hC hN hx hE
    obtain ⟨k, hk⟩ := List.getElem?_of_mem hv
    obtain ⟨p, hp, hvp⟩ := pairedGet hps k v hk
    have hvp' := hvp
    have hpo := hok p (List.mem_of_getElem? hp)
    obtain ⟨a, wv, t, rfl, ha, b, us, rfl, hb, hus⟩ := hvp
    have hgx : Ext g s₃.heap := F1.2.keep.trans hE
    have K0 : StR s₃ s₃.heap s₃ := ⟨Same.refl _, Ext.refl _⟩
    refine mMethod (he := he C) ?_
    refine Calls.Constant_str ?_
    refine GM.join ?_
    refine mBuiltin ?_
    refine mArgs ?_
    refine Subscript_ ?_
    refine ldR K0 hN hx ?_
    refine wpAny_Constant_int ?_
    refine mItemTA (vs := [.ref b, .str p.2 t]) (hgx _ _ ha) (by omega) (by omega) (y := .ref b) rfl ?_
    refine args_nil ?_
    refine mJoinT (us := us) (hgx _ _ hb) (words_total hpo.1 us hus) ?_
    intro t' k'
    refine ⟨fun q hq => ⟨t', ?_⟩, StR.keeps ⟨⟨rfl, rfl, rfl⟩, Ext.refl _⟩⟩
    rw [hq.uniq hvp', hus]; rfl
  · intro D ys n' g' s' e' hD hDl hP F'
    rw [hf] at hP
    obtain ⟨us, rfl, hus⟩ := madeOf_texts hps hP
    exact done D us n' g' s' e' hD hDl hus F'
/-- [pair[1] for pair in ..] -/
theorem compFill {iter : Expr} {px p3 p4 p5 pos : Pos} {Q : Value → Shared → Prop} {l : Addr} {n : Nat} {items : List Value} {ps : List Pr} (hh : A.handled = none) (_ : St s₀ g L mu m s)
    (hps : Paired (IsPair g) items ps) (hlen : ps.length ≤ 1000)
    (h : wpAny (model prog w) A (eval iter env) (fun xv s₁ => xv = .ref l ∧ s₁.heap.get? l = some (lst items n) ∧ St s₀ g L mu m s₁) E s)
    (done : ∀ D us n' g' s', Ext g g' → g.get? D = none → g'.get? D = some (lst (strValues us) n') → us.map (·.1) = ps.map fText → St s₀ g' L mu m s' → Q (.ref D) s')
    (hs : ∀ x, foldedSetIterable iter env x = pure x := by intro _; kernel_rfl) :
    wpAny (model prog w) A (eval (.ListComp (.Subscript (.Name (Str.ofString "pair") p3) (.Constant (.int 1) 0 p4) p5)
      [⟨.Name (Str.ofString "pair") px, iter, [], 0⟩] pairSc pos) env) Q E s := by
  have hf : ∀ l : List Value, l.filter (fun _ => true) = l := fun l => List.filter_eq_self.mpr (fun _ _ => rfl)
  refine mCompLst (s₀ := s₀) (L := L) (fun _ => true) (MadeOf g fText) [] hh (wpAny_mono h (fun xv s₁ h₁ => ?_) fun _ _ y => y) (hs := hs)
  obtain ⟨rfl, hl, F1⟩ := h₁
  refine ⟨l, n, items, g, m, mu, rfl, hl, F1, by rw [hps.length]; omega, ⟨?_, ?_⟩, ?_⟩
  · intro C v s₃ m₃ E' _ _ _ _ _
    exact testsTrue rfl
  · intro C v s₃ m₃ E' hv _ hC hN hx hE
    obtain ⟨k, hk⟩ := List.getElem?_of_mem hv
    obtain ⟨p, hp, hvp⟩ := pairedGet hps k v hk
    have hvp' := hvp
    obtain ⟨a, wv, t, rfl, ha, b, us, rfl, hb, hus⟩ := hvp
    have hgx : Ext g s₃.heap := F1.2.keep.trans hE
    have K0 : StR s₃ s₃.heap s₃ := ⟨Same.refl _, Ext.refl _⟩
    refine Subscript_ ?_
    refine ldR K0 hN hx ?_
    refine wpAny_Constant_int ?_
    refine mItemTA (vs := [.ref b, .str p.2 t]) (hgx _ _ ha) (by omega) (by omega) (y := .str p.2 t) rfl ?_
    refine ⟨fun q hq => ⟨t, ?_⟩, StR.keeps ⟨⟨rfl, rfl, rfl⟩, Ext.refl _⟩⟩
    rw [hq.uniq hvp']; rfl
  · intro D ys n' g' s' e' hD hDl hP F'
    rw [hf] at hP
    obtain ⟨us, rfl, hus⟩ := madeOf_texts hps hP
    exact done D us n' g' s' e' hD hDl hus F'
end
end PartMAg1
section PartMAg2
open PySem PySem.W PySem.Calls PyProof.Rows
theorem jl_len : ∀ (xs : List (List Nat)), (∀ x ∈ xs, x.length ≤ 6) → (jl xs).length ≤ xs.length * 7
  | [], _ => Nat.zero_le _
  | x :: r, h => by
    have h1 := h x (.head _)
    have h2 : ∀ r : List (List Nat), (∀ x ∈ r, x.length ≤ 6) → (r.flatMap fun y => 47 :: y).length ≤ r.length * 7 := by
      intro r
      induction r with
      | nil => intro _; exact Nat.zero_le _
      | cons y q ih =>
        intro h
        have h3 := h y (.head _)
        have h4 := ih fun z hz => h z (.tail _ hz)
        rw [List.flatMap_cons, List.length_append, List.length_cons, List.length_cons]; omega
    have h3 := h2 r fun z hz => h z (.tail _ hz)
    show (x ++ _).length ≤ _
    rw [List.length_append, List.length_cons]; omega
section
variable {prog : Program} {w : World} {A : Around} {E : Value → Shared → Prop} {s : Shared}
theorem norm_call {rt : Bool} {xs : List Str} {p : Str} {t : Tok} (G : Gd w s.heap) (hd : A.depth + 2 < recursionLimit) (hah : A.handled = none)
    (hne : ∃ x r, xs = x :: r ∧ tl x ≠ []) (h47 : ∀ x ∈ xs, 47 ∉ tl x) (hl : xs.length ≤ 5) (hl2 : ∀ x ∈ xs, x.length ≤ 6) (hp : tl p = (if rt = true then [47] else []) ++ jl (xs.map tl)) :
    codeAny (model prog w) A (.call (.ref 115) ⟨[.str p t], []⟩) (Ret s fun v _ => ∃ t', v = .str (spelled rt (npComps rt xs)) t') s := by
  obtain ⟨x0, r0, hx0, hx1⟩ := hne
  have hjl : (jl (xs.map tl)).length ≤ 35 := by
    have := jl_len (xs.map tl) fun z hz => by obtain ⟨y, hy, rfl⟩ := List.mem_map.mp hz; rw [tl_len]; exact hl2 y hy
    rw [List.length_map] at this; omega
  have hjne : jl (xs.map tl) ≠ [] := by rw [hx0]; exact jl_ne hx1
  have hj47 : (jl (xs.map tl)).head? ≠ some 47 := by
    rw [hx0]
    have h1 := h47 x0 (by rw [hx0]; exact .head _)
    show (tl x0 ++ _).head? ≠ _
    cases hc : tl x0 with
    | nil => exact absurd hc hx1
    | cons c q =>
      rw [hc] at h1
      intro z
      have : c = 47 := by simpa using z
      exact h1 (this ▸ .head _)
  have hpl : p.length ≤ 36 := by
    rw [← tl_len, hp, List.length_append]
    cases rt <;> simp <;> omega
  rw [← npText_spelled]
  refine normpath_spec (q := jl (xs.map tl)) G hd hah ?_ ?_ (by omega) (by omega) ?_ ?_ (by omega) ?_
  · intro A s t G hd
    cases rt with
    | true => exact splitroot_root G hd (by omega) (by rw [hp]; rfl) hj47
    | false =>
      have e : tl p = jl (xs.map tl) := by rw [hp]; rfl
      have := splitroot_plain (prog := prog) (t := t) G hd (by omega : p.length ≤ 1000000) (by rw [e]; exact hj47)
      rw [e] at this; exact this
  · rw [hp]; intro z
    exact hjne (List.append_eq_nil_iff.mp z).2
  · cases rt <;> decide
  · intro q' hq'
    exact split_slash (by rw [hx0]; simp) hq' h47
  · intro c hc; have := hl2 c hc; omega
end
/-- a draw's mask, its filling, its tokens -/
noncomputable def rtOf (m : Nat) : Bool := decide (m % 2 = 1)
noncomputable def keptO (n m : Nat) : List Pr := keptOf (rtOf m) (itemsOf n (m / 2))
noncomputable def maskS (n m : Nat) : Str := spelled (rtOf m) ((keptO n m).map mText)
noncomputable def pathS (n m : Nat) : Str := spelled (rtOf m) ((keptO n m).map fText)
noncomputable def tokS (n m : Nat) : List Str := tokensOf (rtOf m) (keptO n m)
noncomputable def IsMask (h : Heap) (v : Value) (n m : Nat) : Prop := ∃ a t1 t2 lt us k, v = .ref a ∧ h.get? a = some (tup [.str (maskS n m) t1, .str (pathS n m) t2, .ref lt]) ∧ h.get? lt = some (lst (strValues us) k) ∧ us.map (·.1) = tokS n m
theorem IsMask.keeps {h h' : Heap} {v : Value} {n m : Nat} (x : Ext h h') (y : IsMask h v n m) : IsMask h' v n m :=
  let ⟨a, t1, t2, lt, us, k, e, o, q, z⟩ := y; ⟨a, t1, t2, lt, us, k, e, x _ _ o, x _ _ q, z⟩
theorem keptO_mem {n m : Nat} : ∀ p ∈ keptO n m, p ∈ itemsOf n (m / 2) := fun p hp => (kept_mem _ _ _ p hp).resolve_left (by simp)
theorem keptO_good {n m : Nat} : ∀ p ∈ keptO n m, GoodP p := fun p hp => ⟨itemsOf_ok _ _ p (keptO_mem p hp), kept_good _ [] (fun _ q => nomatch q) p hp⟩
theorem keptO_len {n m : Nat} : (keptO n m).length ≤ 5 := by
  have h := kept_len (rtOf m) (itemsOf n (m / 2)) []
  have h2 : (itemsOf n (m / 2)).length = 5 := itemsGo_len 5 _ _ _
  rw [h2] at h; exact Nat.le_trans h (by decide)
theorem tl_ahead {rt : Bool} (xs : List Str) : tl ((if rt = true then Str.ofString "/" else Str.ofString "") ++ Txt.join (Str.ofString "/") xs) = (if rt = true then [47] else []) ++ jl (xs.map tl) := by
  rw [tl_append, show Txt.join (Str.ofString "/") xs = Txt.join slash xs from rfl, tl_join]
  cases rt
  · rw [if_neg (by decide), if_neg (by decide), show tl (Str.ofString "") = [] from tl_empty]
  · rw [if_pos rfl, if_pos rfl, show tl (Str.ofString "/") = [47] from tl_slash]
theorem norm_items {prog : Program} {w : World} {A : Around} {s : Shared} {f : Pr → Str} {N F0 : Nat} {rt : Bool} {xs : List Str} {t : Tok} (G : Gd w s.heap) (hd : A.depth + 2 < recursionLimit) (hah : A.handled = none)
    (hf : ∀ q, PrOk q → textOk q.1 (f q)) (hx : xs = (itemsOf N F0).map f) :
    codeAny (model prog w) A (.call (.ref 115) ⟨[.str ((if rt = true then Str.ofString "/" else Str.ofString "") ++ Txt.join (Str.ofString "/") xs) t], []⟩) (Ret s fun v _ => ∃ t', v = .str (spelled rt ((keptOf rt (itemsOf N F0)).map f)) t') s := by
  have hok : ∀ q ∈ itemsOf N F0, textOk q.1 (f q) := fun q hq => hf q (itemsOf_ok _ _ q hq)
  rw [← np_kept hok, ← hx]
  refine norm_call G hd hah ?_ ?_ ?_ ?_ (tl_ahead xs)
  · have e : itemsOf N F0 = ([Str.ofString "..."], fillW F0 [Str.ofString "..."]) :: itemsGo 4 (allW.getD (N % 8) []) (N / 8) (F0 / 5) := rfl
    refine ⟨f ([Str.ofString "..."], fillW F0 [Str.ofString "..."]), _, by rw [hx, e]; rfl, fun z => ?_⟩
    have := (hok _ (by rw [e]; exact .head _)).1.mp z
    cases this
  · intro x hxx
    rw [hx] at hxx
    obtain ⟨q, hq, rfl⟩ := List.mem_map.mp hxx
    exact (hok q hq).2.2.2.1
  · rw [hx, List.length_map, show (itemsOf N F0).length = 5 from itemsGo_len 5 _ _ _]; exact Nat.le_refl _
  · intro x hxx
    rw [hx] at hxx
    obtain ⟨q, hq, rfl⟩ := List.mem_map.mp hxx
    exact (hok q hq).2.2.2.2
theorem texts_le {f : Pr → Str} {ps : List Pr} {xs : List Str} (hok : ∀ p ∈ ps, PrOk p) (hf : ∀ q, PrOk q → textOk q.1 (f q)) (hx : xs = ps.map f) : ∀ z ∈ xs, z.length ≤ 6 := fun z hz => by
  rw [hx] at hz
  obtain ⟨q, hq, rfl⟩ := List.mem_map.mp hz
  exact (hf q (hok q hq)).2.2.2.2
theorem ahead_len {rt : Bool} {xs : List Str} (h1 : xs.length ≤ 5) (h2 : ∀ z ∈ xs, z.length ≤ 6) : (if rt = true then Str.ofString "/" else Str.ofString "").length + (Txt.join (Str.ofString "/") xs).length ≤ 1000 := by
  have h := tl_ahead (rt := rt) xs
  have hj := jl_len (xs.map tl) fun z hz => by obtain ⟨y, hy, rfl⟩ := List.mem_map.mp hz; rw [tl_len]; exact h2 y hy
  rw [List.length_map] at hj
  have := congrArg List.length h
  rw [tl_len, Str.length_append, List.length_append] at this
  rw [this]
  cases rt <;> simp <;> omega
theorem told_meant (n m n' m' : Nat) : ellM (maskS n m) (pathS n' m') = takenB (tokS n m) (pathS n' m') :=
  taken_ell keptO_good _ (tokens_tok1 fun p hp => (keptO_good p hp).1)
theorem told_self (n m : Nat) : ellM (maskS n m) (pathS n m) = true := ell_self keptO_good
theorem spelled_len {rt : Bool} {f : Pr → Str} {ps : List Pr} (h : ∀ p ∈ ps, GoodP p) (hf : ∀ p ∈ ps, textOk p.1 (f p)) (hl : ps.length ≤ 5) : (spelled rt (ps.map f)).length ≤ 40 := by
  rw [← tl_len, tl_spelled h hf]
  have hj := jl_len (ps.map fun q => tl (f q)) fun z hz => by obtain ⟨y, hy, rfl⟩ := List.mem_map.mp hz; rw [tl_len]; exact (hf y hy).2.2.2.2
  rw [List.length_map] at hj
  split
  · decide
  · rw [List.length_append]
    cases rt <;> simp <;> omega
theorem maskS_len (n m : Nat) : (maskS n m).length ≤ 40 := spelled_len keptO_good (fun p hp => mText_ok (keptO_good p hp).1) keptO_len
theorem pathS_len (n m : Nat) : (pathS n m).length ≤ 40 := spelled_len keptO_good (fun p hp => fText_ok (keptO_good p hp).1) keptO_len
theorem segs_len : ∀ tk : List (Option Nat), (segs tk).1.length ≤ tk.length ∧ (segs tk).2.length ≤ tk.length ∧ ∀ z ∈ (segs tk).2, z.length ≤ tk.length
  | [] => ⟨Nat.le_refl _, Nat.le_refl _, fun _ q => nomatch q⟩
  | none :: r => by
    obtain ⟨h1, h2, h3⟩ := segs_len r
    refine ⟨Nat.zero_le _, by simp only [segs, List.length_cons]; omega, fun z hz => ?_⟩
    simp only [segs, List.mem_cons] at hz
    rcases hz with rfl | hz
    · simp only [List.length_cons]; omega
    · have := h3 z hz
      simp only [List.length_cons]; omega
  | some c :: r => by
    obtain ⟨h1, h2, h3⟩ := segs_len r
    refine ⟨by simp only [segs, List.length_cons]; omega, by simp only [segs, List.length_cons]; omega, fun z hz => ?_⟩
    have := h3 z hz
    simp only [List.length_cons]; omega
theorem prs_len (y : List Nat) : ∀ (l : List Nat) (k : Nat), (prs y k l).length ≤ l.length
  | [], _ => by simp [prs]
  | c :: r, 0 => by
    rw [prs]
    split
    · have := prs_len y r (y.length - 1)
      simp only [List.length_cons]; omega
    · have := prs_len y r 0
      simp only [List.length_cons]; omega
  | c :: r, k + 1 => by
    rw [prs]
    have := prs_len y r k
    simp only [List.length_cons]; omega
theorem split_len (x : Str) (h : x.length ≤ 40) : (Txt.split x dotsS).length ≤ 1000 ∧ (∀ z ∈ Txt.split x dotsS, z.length ≤ 1000) ∧ ((PySem.Builtin.Str.occurrences x dotsS 0 x.length 1).isEmpty = false → 2 ≤ (Txt.split x dotsS).length) := by
  have hd : tl dotsS ≠ [] := by rw [tl_dots]; decide
  have hs := split_prs x dotsS hd
  obtain ⟨h1, h2, h3⟩ := segs_len (prs (tl dotsS) 0 (tl x))
  have h4 := prs_len (tl dotsS) (tl x) 0
  rw [tl_len] at h4
  have hl := congrArg List.length hs
  rw [List.length_map, List.length_cons] at hl
  refine ⟨by omega, fun z hz => ?_, fun he => ?_⟩
  · have hz' : tl z ∈ (Txt.split x dotsS).map tl := List.mem_map_of_mem hz
    rw [hs] at hz'
    rw [← tl_len]
    rcases List.mem_cons.mp hz' with q | q
    · rw [q]; omega
    · have := h3 _ q; omega
  · have hn := segs_some (prs (tl dotsS) 0 (tl x)) (Classical.byContradiction fun q => by
      rw [(occ_none_prs x dotsS hd).mpr q] at he; cases he)
    have := List.length_pos_iff.mpr hn
    omega
theorem tokS_len (n m : Nat) : (tokS n m).length ≤ 1000 := by
  have hk : (keptO n m).length ≤ 5 := keptO_len
  have hw : ∀ p ∈ keptO n m, p.1.length ≤ 2 := fun p hp => (allW_len _ (keptO_good p hp).1.1).1
  have hb : (tokBody (keptO n m)).length ≤ 20 := by
    generalize keptO n m = ps at hk hw
    cases ps with
    | nil => exact Nat.zero_le _
    | cons p r =>
      have hf : ∀ r : List Pr, (∀ p ∈ r, p.1.length ≤ 2) → (r.flatMap fun q => Str.ofString "/" :: q.1).length ≤ r.length * 3 := by
        intro r
        induction r with
        | nil => intro _; exact Nat.zero_le _
        | cons q r ih =>
          intro h
          have h1 := h q (.head _)
          have h2 := ih fun z hz => h z (.tail _ hz)
          rw [List.flatMap_cons, List.length_append, List.length_cons, List.length_cons]; omega
      have h1 := hw p (.head _)
      have h2 := hf r fun z hz => hw z (.tail _ hz)
      simp only [List.length_cons] at hk
      show (p.1 ++ _).length ≤ _
      rw [List.length_append]; omega
  unfold tokS
  cases hr : rtOf m with
  | true => rw [tokensOf_t, List.length_cons]; omega
  | false =>
    by_cases hn : tokBody (keptO n m) = []
    · have e : tokensOf false (keptO n m) = [Str.ofString "."] := by simp [tokensOf, hn]
      rw [e]; decide
    · rw [tokensOf_fc hn]; omega
end PartMAg2
section PartMAgree
open PySem PySem.W PySem.Calls PyProof.Rows
section
variable {prog : Program} {w : World} {A : Around} {E : Value → Shared → Prop} {s : Shared}
set_option maxHeartbeats 8000000 in
theorem agree_spec {ln : Addr} {nn : Nat} {vs : List Value} {ns : List Nat} (G : Gd w s.heap) (hd : A.depth + 4 < recursionLimit) (hu : A.units + 300 < cLine) (hah : A.handled = none)
    (hln : s.heap.get? ln = some (lst vs nn)) (hvs : Paired IsNum vs ns) (hn6 : ns.length = 6) (hb : ∀ n ∈ ns, n ≤ 1000000) :
    codeAny (model prog w) A (.call (.ref 151) ⟨[.ref ln], []⟩) (Ret s fun v _ => v = .bool true) s := by
  refine enter G (o := ?o) (fd := ?fd) (body := ?bd) (binds := [(Str.ofString "numbers", .ref ln)]) ?ho ?hdata (by omega) ?hbody ?hbind ?hcd ?hcell ?hloc ?h ?hco ?hgen ?hk
  walk_at "ent"
  intro A' s' hh hdp hun F env
  change St s s.heap s.heap.objs.size [] (upd (fun _ => none) (Str.ofString "numbers") (.ref ln)) s' at F
  have hhA : A'.handled = none := hh.trans hah
  have hln' : Ext s.heap s.heap := Ext.refl _
  walk_at "m*"
  with_reducible refine mListMu F (small (Nat.le_of_ble_eq_true rfl)) ?_
  intro lm s1 F1
  walk_at "m*"
  rename_i s2 F2
  refine forRangeN (k := 3) (mu := [(lm, lst [] 0)]) (rest := []) (fun i g' m' mu' => ∃ ys n, mu' = [(lm, lst ys n)] ∧ ys.length = i ∧ (∀ j, j < i → ∃ v, ys[j]? = some v ∧ IsMask g' v (ns.getD (2 * j) 0) (ns.getD (2 * j + 1) 0)) ∧
    m' (Str.ofString "numbers") = some (.ref ln) ∧ m' (Str.ofString "masks") = some (.ref lm)) ?hkz ?hk5 hhA F2 ?h0 ?hnr ?turn ?done
  case hkz => rfl
  case hk5 => omega
  case h0 => exact ⟨[], 0, rfl, rfl, fun j hj => absurd hj (Nat.not_lt_zero _), by walk_at "lk", by walk_at "lk"⟩
  case hnr => exact fun _ q => nomatch q
  case turn =>
    rintro i tp g' m' mu' own sz hown hi e' ⟨ys, n, rfl, hyl, hys, k1, k2⟩ Fa
    have Fb : St s g' s.heap.objs.size ((lm, lst ys n) :: own) m' sz := Fa
    clear Fa
    have hmu : ∀ vs n, ∀ p ∈ (lm, lst vs n) :: own, p.2.cls ≠ .type "tuple" := fun vs n p hp => by
      rcases List.mem_cons.mp hp with rfl | hp
      · exact fun z => absurd (Value.type.inj z) (by decide)
      · exact hown p hp
    have G' : Gd w g' := G.keeps e'
    have hnum : ∀ j, j < 6 → ∃ t, vs[j]? = some (.int ((ns.getD j 0 : Nat) : Int) t) ∧ ns.getD j 0 ≤ 1000000 := by
      intro j hj
      have hjl : j < ns.length := by omega
      obtain ⟨v, hv, t, rfl⟩ := pairedGet' hvs j _ (List.getElem?_eq_getElem hjl)
      rw [List.getD_eq_getElem?_getD, List.getElem?_eq_getElem hjl]
      exact ⟨t, hv, hb _ (List.getElem_mem _)⟩
    obtain ⟨ta, hva, hba⟩ := hnum (2 * i) (by omega)
    obtain ⟨tb, hvb, hbb⟩ := hnum (2 * i + 1) (by omega)
    generalize hna : ns.getD (2 * i) 0 = na at hva hba
    generalize hnb : ns.getD (2 * i + 1) 0 = nb at hvb hbb
    have hrt : (((nb % 2 : Nat) : Int) == 1) = rtOf nb := by
      unfold rtOf
      rw [Bool.eq_iff_iff, beq_iff_eq, decide_eq_true_iff]
      omega
    with_reducible refine stL Fb ?_
    intro s3 F3
    walk_at "m*"
    refine PyProof.Rows.mul_int ?_ (IntMulOk.of_left (by decide))
    walk_at "m*"
    refine PyProof.Rows.add_int ?_
    refine mItem (vs := vs) (y := .int (nb : Int) tb) (F3.2.keep _ _ (e' _ _ (hln' _ _ hln))) (by omega) (by omega) (by rw [show (2 * (i : Int) + 1).toNat = 2 * i + 1 by omega]; exact hvb) ?_
    walk_at "m*"
    refine mod_int' (by decide) ?_
    rw [show (nb : Int).fmod 2 = ((nb % 2 : Nat) : Int) from fmod_nat nb 2]
    walk_at "m*"
    refine PyProof.Rows.eq_int ?_
    rw [hrt]
    walk_at "m*"
    refine mDef G' (keepIn_of _ 120 (by decide)) ?_
    walk_at "m*"
    refine PyProof.Rows.mul_int ?_ (IntMulOk.of_left (by decide))
    rename_i s4 F4
    refine mItem (vs := vs) (y := .int (na : Int) ta) (F4.2.keep _ _ (e' _ _ (hln' _ _ hln))) (by omega) (by omega) (by rw [show (2 * (i : Int)).toNat = 2 * i by omega]; exact hva) ?_
    walk_at "m*"
    refine PyProof.Rows.mul_int ?_ (IntMulOk.of_left (by decide))
    walk_at "m*"
    refine PyProof.Rows.add_int ?_
    refine mItem (vs := vs) (y := .int (nb : Int) tb) (F4.2.keep _ _ (e' _ _ (hln' _ _ hln))) (by omega) (by omega) (by rw [show (2 * (i : Int) + 1).toNat = 2 * i + 1 by omega]; exact hvb) ?_
    walk_at "m*"
    refine floordiv_int (by decide) ?_
    rw [show (nb : Int).fdiv 2 = ((nb / 2 : Nat) : Int) from fdiv_nat nb 2]
    walk_at "m*"
    refine ⟨F4.2.keep, callSpec (items_spec (N := na) (F0 := nb / 2) (G'.keeps F4.2.keep) (by omega) hhA hba (by omega)) ?_⟩
    rintro v s5 x5 y5 ⟨li, yi, ni, rfl, hlin, hli, hpi⟩
    obtain ⟨g5, e5, F5x, kt5, kn5⟩ := F4.2.after x5 (hmu _ _)
    have hli5 := kn5 _ _ hlin hli
    have hpi5 := pairedMono (fun _ _ z => IsPair.to kt5 z) hpi
    have F5 : St s g5 s.heap.objs.size ((lm, lst ys n) :: own) _ s5 := ⟨F4.1.trans y5, F5x⟩
    clear F5x hpi x5 y5 hlin hli kn5
    have G5 : Gd w g5 := G'.keeps e5
    have hio : ∀ p ∈ itemsOf na (nb / 2), PrOk p := itemsOf_ok _ _
    have hil5 : (itemsOf na (nb / 2)).length = 5 := itemsGo_len 5 _ _ _
    with_reducible refine stL F5 ?_
    intro s6 F6
    walk_at "m*"
    refine mDef G5 (keepIn_of _ 127 (by decide)) ?_
    walk_at "m*"
    refine ⟨F6.2.keep, callSpec (kept_spec (G5.keeps F6.2.keep) (by omega) (by omega) hhA (F6.2.keep _ _ hli5) (pairedMono (fun _ _ z => z.keeps F6.2.keep) hpi5) (fun p hp => (hio p hp).1) (by omega)) ?_⟩
    rintro v s7 x7 y7 ⟨lk, yk, nk, rfl, hlkn, hlk, hpk⟩
    obtain ⟨g7, e7, F7x, kt7, kn7⟩ := F6.2.after x7 (hmu _ _)
    have hlk7 := kn7 _ _ hlkn hlk
    have hpk7 : Paired (IsPair g7) yk (keptO na nb) := pairedMono (fun _ _ z => IsPair.to kt7 z) hpk
    have F7 : St s g7 s.heap.objs.size ((lm, lst ys n) :: own) _ s7 := ⟨F6.1.trans y7, F7x⟩
    clear F7x hpk x7 y7 hlkn hlk kn7 kt7 kt5
    have hli7 := e7 _ _ hli5
    have hpi7 := pairedMono (fun _ _ z => IsPair.keeps e7 z) hpi5
    have G7 : Gd w g7 := G5.keeps e7
    with_reducible refine stL F7 ?_
    intro s8 F8
    walk_at "m*"
    refine ifStr ?_
    intro t8 k8
    walk_at "m*"
    refine mDef G7 (keepIn_of _ 115 (by decide)) ?_
    walk_at "m*"
    rename_i sa Fa
    refine compMask (l := li) (n := ni) hhA Fa hpi7 hio (by omega) ?_ ?_
    · walk_at "m*"
      exact ⟨rfl, Fa.2.keep _ _ hli7, Fa⟩
    intro D us nD g9 s9 e9 hD hDl hus F9
    have hul : us.length = 5 := by have := congrArg List.length hus; simpa [hil5] using this
    have hu6 := texts_le hio (fun _ => mText_ok) hus
    walk_at "m*"
    refine mJoin (F9.2.keep _ _ hDl) (joinOk_of (by decide) (by rw [List.length_map]; omega) (fun z hz => Nat.le_trans (hu6 z hz) (by decide))) ?_
    intro tj kj
    have hal := ahead_len (rt := rtOf nb) (xs := us.map (·.1)) (by rw [List.length_map]; omega) hu6
    refine PyProof.Rows.add_str ?_ (small (by omega))
    intro tk kk
    walk_at "m*"
    refine ⟨e9.trans F9.2.keep, callSpec (norm_items (f := mText) (N := na) (F0 := nb / 2) ((G7.keeps e9).keeps F9.2.keep) (by omega) hhA (fun _ => mText_ok) hus) ?_⟩
    rintro v s10 x10 y10 ⟨tm, rfl⟩
    have F10 : St s g9 s.heap.objs.size ((lm, lst ys n) :: own) _ s10 := ⟨Same.trans F9.1 y10, F9.2.ext x10⟩
    clear x10 y10
    with_reducible refine stL F10 ?_
    intro s11 F11
    have hpi9 := pairedMono (fun _ _ z => IsPair.keeps e9 z) hpi7
    have hli9 := e9 _ _ hli7
    have hpk9 := pairedMono (fun _ _ z => IsPair.keeps e9 z) hpk7
    have hlk9 := e9 _ _ hlk7
    have G9 : Gd w g9 := G7.keeps e9
    clear hpi7 hli7 hpk7 hlk7 hDl F10
    walk_at "m*"
    refine mDef G9 (keepIn_of _ 115 (by decide)) ?_
    walk_at "m*"
    refine compFill (l := li) (n := ni) hhA F11 hpi9 (by omega) ?_ ?_
    · walk_at "m*"
      exact ⟨rfl, F11.2.keep _ _ hli9, F11⟩
    intro D2 us2 nD2 g12 s12 e12 hD2 hDl2 hus2 F12
    have hul2 : us2.length = 5 := by have := congrArg List.length hus2; simpa [hil5] using this
    have hu62 := texts_le hio (fun _ => fText_ok) hus2
    walk_at "m*"
    refine mJoin (F12.2.keep _ _ hDl2) (joinOk_of (by decide) (by rw [List.length_map]; omega) (fun z hz => Nat.le_trans (hu62 z hz) (by decide))) ?_
    intro tj2 kj2
    have hal2 := ahead_len (rt := rtOf nb) (xs := us2.map (·.1)) (by rw [List.length_map]; omega) hu62
    refine PyProof.Rows.add_str ?_ (small (by omega))
    intro tk2 kk2
    walk_at "m*"
    refine ⟨e12.trans F12.2.keep, callSpec (norm_items (f := fText) (N := na) (F0 := nb / 2) ((G9.keeps e12).keeps F12.2.keep) (by omega) hhA (fun _ => fText_ok) hus2) ?_⟩
    rintro v s13 x13 y13 ⟨tm2, rfl⟩
    have F13 : St s g12 s.heap.objs.size ((lm, lst ys n) :: own) _ s13 := ⟨Same.trans F12.1 y13, F12.2.ext x13⟩
    clear x13 y13
    with_reducible refine stL F13 ?_
    intro s14 F14
    have hpk12 := pairedMono (fun _ _ z => IsPair.keeps e12 z) hpk9
    have hlk12 := e12 _ _ hlk9
    have G12 : Gd w g12 := G9.keeps e12
    have hkl5 : (keptO na nb).length ≤ 5 := keptO_len
    have hko : ∀ p ∈ keptO na nb, PrOk p := fun p hp => (keptO_good p hp).1
    clear hpk9 hlk9 hpi9 hli9 F13 hDl2
    walk_at "m*"
    refine mDef G12 (keepIn_of _ 134 (by decide)) ?_
    walk_at "m*"
    refine compMask (l := lk) (n := nk) hhA F14 hpk12 hko (by omega) ?_ ?_
    · walk_at "m*"
      exact ⟨rfl, F14.2.keep _ _ hlk12, F14⟩
    intro D3' us3 nD3 g15 s15 e15 hD3 hDl3 hus3 F15
    have hul3 : us3.length ≤ 5 := by have := congrArg List.length hus3; simp at this; omega
    have hu63 := texts_le hko (fun _ => mText_ok) hus3
    walk_at "m*"
    refine ⟨e15.trans F15.2.keep, callSpec (spelled_spec ((G12.keeps e15).keeps F15.2.keep) (by omega) hhA (F15.2.keep _ _ hDl3) (by omega) (fun z hz => Nat.le_trans (hu63 z hz) (by decide))) ?_⟩
    rintro v s16 x16 y16 ⟨tm3, rfl⟩
    rw [hus3]
    have F16 : St s g15 s.heap.objs.size ((lm, lst ys n) :: own) _ s16 := ⟨Same.trans F15.1 y16, F15.2.ext x16⟩
    clear x16 y16 F15
    refine PyProof.Rows.ne_str ?_
    walk_at "m*"
    refine ite_f (by unfold keptO; simp) ?_
    have hpk15 := pairedMono (fun _ _ z => IsPair.keeps e15 z) hpk12
    have hlk15 := e15 _ _ hlk12
    have G15 : Gd w g15 := G12.keeps e15
    clear hpk12 hlk12 hDl3
    walk_at "m*"
    refine mDef G15 (keepIn_of _ 134 (by decide)) ?_
    walk_at "m*"
    refine compFill (l := lk) (n := nk) hhA F16 hpk15 (by omega) ?_ ?_
    · walk_at "m*"
      exact ⟨rfl, F16.2.keep _ _ hlk15, F16⟩
    intro D4 us4 nD4 g17 s17 e17 hD4 hDl4 hus4 F17
    have hul4 : us4.length ≤ 5 := by have := congrArg List.length hus4; simp at this; omega
    have hu64 := texts_le hko (fun _ => fText_ok) hus4
    walk_at "m*"
    refine ⟨e17.trans F17.2.keep, callSpec (spelled_spec ((G15.keeps e17).keeps F17.2.keep) (by omega) hhA (F17.2.keep _ _ hDl4) (by omega) (fun z hz => Nat.le_trans (hu64 z hz) (by decide))) ?_⟩
    rintro v s18 x18 y18 ⟨tm4, rfl⟩
    rw [hus4]
    have F18 : St s g17 s.heap.objs.size ((lm, lst ys n) :: own) _ s18 := ⟨Same.trans F17.1 y18, F17.2.ext x18⟩
    clear x18 y18 F17
    refine PyProof.Rows.ne_str ?_
    walk_at "m*"
    refine ite_f (by unfold keptO; simp) ?_
    have hpk17 := pairedMono (fun _ _ z => IsPair.keeps e17 z) hpk15
    have hlk17 := e17 _ _ hlk15
    have G17 : Gd w g17 := G15.keeps e17
    clear hpk15 hlk15 hDl4 F16 F14 F11
    walk_at "m*"
    refine mGetAppend (F18.2.mem _ (.head _)).1 ?_
    walk_at "m*"
    refine mDef G17 (keepIn_of _ 141 (by decide)) ?_
    walk_at "m*"
    refine ⟨F18.2.keep, callSpec (tokens_spec (G17.keeps F18.2.keep) (by omega) hhA (F18.2.keep _ _ hlk17) (pairedMono (fun _ _ z => z.keeps F18.2.keep) hpk17) (by omega) (fun p hp => Nat.le_trans (allW_len _ (hko p hp).1).1 (by decide))) ?_⟩
    rintro v s19 x19 y19 ⟨lt, us5, k5, rfl, hltn, hlt, hus5⟩
    obtain ⟨g19, e19, F19x, _, kn19⟩ := F18.2.after x19 (hmu _ _)
    have hlt19 := kn19 _ _ hltn hlt
    have F19 : St s g19 s.heap.objs.size ((lm, lst ys n) :: own) _ s19 := ⟨Same.trans F18.1 y19, F19x⟩
    clear F19x x19 y19 hltn hlt kn19
    walk_at "m*"
    refine mTup F19 (small (Nat.le_of_ble_eq_true rfl)) ?_
    intro pa g20 s20 e20 hn20 hpa F20
    walk_at "m*"
    refine mAppend F20 (by rw [hyl]; omega) ?_
    intro s21 F21
    walk_at "m*"
    have F22 : St s g20 s.heap.objs.size ([(lm, lst (ys ++ [Value.ref pa]) (n + 1))] ++ own) _ s21 := F21
    clear F21
    have em : Ext g' g20 := e5.trans (e7.trans (e9.trans (e12.trans (e15.trans (e17.trans (e19.trans e20))))))
    refine ⟨g20, _, [(lm, lst (ys ++ [Value.ref pa]) (n + 1))], em, F22, ys ++ [Value.ref pa], n + 1, rfl, by simp [hyl], ?_, by walk_at "lk", by walk_at "lk"⟩
    intro j hj
    by_cases hji : j < i
    · obtain ⟨v, hv, hm⟩ := hys j hji
      refine ⟨v, ?_, hm.keeps em⟩
      rw [List.getElem?_append_left (by rw [hyl]; exact hji)]; exact hv
    · have hje : j = i := by omega
      subst hje
      refine ⟨.ref pa, by rw [List.getElem?_append_right (by rw [hyl]; exact Nat.le_refl _), hyl, Nat.sub_self]; rfl, ?_⟩
      rw [hna, hnb]
      exact ⟨pa, tm, tm2, lt, us5, k5, rfl, hpa, e20 _ _ hlt19, hus5⟩
  case done =>
    clear F2 F1 F
    rintro g' m' mu' sz e' ⟨ys, n, rfl, hyl, hys, k1, k2⟩ Fa
    have Fb : St s g' s.heap.objs.size ((lm, lst ys n) :: []) m' sz := Fa
    clear Fa
    obtain ⟨g1, ex1, F1f, hlm⟩ := Fb.2.freeze
    have F1 : St s g1 s.heap.objs.size ([] ++ []) m' sz := ⟨Fb.1, F1f⟩
    have G1 : Gd w g1 := (G.keeps e').keeps ex1
    have hys1 : ∀ j, j < 3 → ∃ v, ys[j]? = some v ∧ IsMask g1 v (ns.getD (2 * j) 0) (ns.getD (2 * j + 1) 0) := fun j hj =>
      let ⟨v, hv, hm⟩ := hys j hj; ⟨v, hv, hm.keeps ex1⟩
    have eg1 : Ext s.heap g1 := e'.trans ex1
    clear F1f Fb hys k1 e' ex1
    walk_at "m*"
    refine forRangeN (k := 3) (mu := []) (rest := []) (fun i g m mu => mu = [] ∧ m (Str.ofString "masks") = some (.ref lm)) ?hkz ?hk5 hhA F1 ?h0 ?hnr ?turn ?done
    case hkz => rfl
    case hk5 => omega
    case hnr => exact fun _ q => nomatch q
    case h0 => exact ⟨rfl, k2⟩
    case done =>
      rintro g2 m2 mu2 s2 e2 ⟨rfl, j1⟩ F2
      walk_at "m*"
      exact Ret.mk (eg1.trans (e2.trans F2.2.keep)) F2.1 rfl
    case turn =>
      rintro i ti g2 m2 mu2 own s2 hown hi e2 ⟨rfl, j1⟩ F2x
      have F2 : St s g2 s.heap.objs.size own m2 s2 := F2x
      clear F2x
      have G2 : Gd w g2 := G1.keeps e2
      with_reducible refine stL F2 ?_
      intro s3 F3
      walk_at "m*"
      refine forRangeN (k := 3) (mu := []) (rest := own) (fun j g m mu => mu = [] ∧ m (Str.ofString "masks") = some (.ref lm) ∧ m (Str.ofString "first") = some (.int (i : Int) ti)) ?hkz ?hk5 hhA F3 ?h0 ?hnr ?turn ?done
      case hkz => rfl
      case hk5 => omega
      case hnr => exact hown
      case h0 => exact ⟨rfl, by walk_at "lk", by walk_at "lk"⟩
      case done =>
        rintro g4 m4 mu4 s4 e4 ⟨rfl, j2, j3⟩ F4
        walk_at "m*"
        exact ⟨g4, m4, [], e4, F4, rfl, j2⟩
      case turn =>
        rintro j tj g4 m4 mu4 own4 s4 _ hj e4 ⟨rfl, j2, j3⟩ F4x
        have F4 : St s g4 s.heap.objs.size own4 m4 s4 := F4x
        clear F4x
        have G4 : Gd w g4 := G2.keeps e4
        obtain ⟨vi, hvi, ai, ti1, ti2, li, ui, ki, rfl, hai, hli, hui⟩ := hys1 i hi
        obtain ⟨vj, hvj, aj, tj1, tj2, lj, uj, kj, rfl, haj, hlj, huj⟩ := hys1 j hj
        have told := told_meant (ns.getD (2 * i) 0) (ns.getD (2 * i + 1) 0) (ns.getD (2 * j) 0) (ns.getD (2 * j + 1) 0)
        have tself : i = j → ellM (maskS (ns.getD (2 * i) 0) (ns.getD (2 * i + 1) 0)) (pathS (ns.getD (2 * j) 0) (ns.getD (2 * j + 1) 0)) = true := fun e => by rw [e]; exact told_self _ _
        generalize ns.getD (2 * i) 0 = na at hai hui told tself
        generalize ns.getD (2 * i + 1) 0 = nb at hai hui told tself
        generalize ns.getD (2 * j) 0 = nc at haj huj told tself
        generalize ns.getD (2 * j + 1) 0 = nd at haj huj told tself
        have eg4 : Ext g1 g4 := e2.trans e4
        have hlm4 := eg4 _ _ hlm
        have hai4 := eg4 _ _ hai
        have hli4 := eg4 _ _ hli
        have haj4 := eg4 _ _ haj
        clear hai hli haj hlj hys1
        with_reducible refine stL F4 ?_
        intro s5 F5
        walk_at "m*"
        refine mDef G4 (keepIn_of _ 28 (by decide)) ?_
        walk_at "m*"
        refine mItem (vs := ys) (y := .ref ai) (F5.2.keep _ _ hlm4) (by omega) (by omega) (by rw [Int.toNat_natCast]; exact hvi) ?_
        walk_at "m*"
        refine mItemTA (F5.2.keep _ _ hai4) (by omega) (by omega) (y := .str (maskS na nb) ti1) rfl ?_
        walk_at "m*"
        refine mItem (vs := ys) (y := .ref aj) (F5.2.keep _ _ hlm4) (by omega) (by omega) (by rw [Int.toNat_natCast]; exact hvj) ?_
        walk_at "m*"
        refine mItemTA (F5.2.keep _ _ haj4) (by omega) (by omega) (y := .str (pathS nc nd) tj2) rfl ?_
        walk_at "m*"
        have hsl := split_len (maskS na nb) (maskS_len na nb)
        refine ⟨F5.2.keep, callSpec (ell_spec (G4.keeps F5.2.keep) (by omega) hhA (Nat.le_trans (maskS_len na nb) (by decide)) (Nat.le_trans (pathS_len nc nd) (by decide)) hsl.2.2 hsl.2.1 hsl.1) ?_⟩
        rintro v s6 x6 y6 rfl
        have F6 : St s g4 s.heap.objs.size own4 _ s6 := ⟨Same.trans F5.1 y6, F5.2.ext x6⟩
        clear x6 y6
        with_reducible refine stL F6 ?_
        intro s7 F7
        refine wpAny_execs_cons ?_
        refine mAssign ?_
        refine wpAny_mono (Q := fun v s8 => v = .bool (ellM (maskS na nb) (pathS nc nd)) ∧ St s g4 s.heap.objs.size own4 (upd (upd m4 (Str.ofString "second") (.int (j : Int) tj)) (Str.ofString "told") (.bool (ellM (maskS na nb) (pathS nc nd)))) s8) ?_ ?_ (fun _ _ z => z)
        · walk_at "m*"
          refine PyProof.Rows.eq_int ?_
          walk_at "m*"
          refine split_b ?_ ?_ <;> intro hb
          · have hz : (i : Int) = (j : Int) := by simpa using hb
            have hij : i = j := by omega
            have hij' : ((i : Int) == (j : Int)) = true := hb
            refine ⟨?_, F7⟩
            rw [hij', tself hij]
          · walk_at "m*"
            refine mDef G4 (keepIn_of _ 146 (by decide)) ?_
            walk_at "m*"
            refine mItem (vs := ys) (y := .ref ai) (F7.2.keep _ _ hlm4) (by omega) (by omega) (by rw [Int.toNat_natCast]; exact hvi) ?_
            walk_at "m*"
            refine mItemTA (F7.2.keep _ _ hai4) (by omega) (by omega) (y := .ref li) rfl ?_
            walk_at "m*"
            refine mItem (vs := ys) (y := .ref aj) (F7.2.keep _ _ hlm4) (by omega) (by omega) (by rw [Int.toNat_natCast]; exact hvj) ?_
            walk_at "m*"
            refine mItemTA (F7.2.keep _ _ haj4) (by omega) (by omega) (y := .str (pathS nc nd) tj2) rfl ?_
            walk_at "m*"
            have htl : ui.length ≤ 1000 := by
              have h1 := tokS_len na nb
              rw [← hui, List.length_map] at h1; exact h1
            refine ⟨F7.2.keep, callSpec (taken_spec (G4.keeps F7.2.keep) (by omega) hhA (F7.2.keep _ _ hli4) htl (Nat.le_trans (pathS_len nc nd) (by decide))) ?_⟩
            rintro v s8 x8 y8 rfl
            refine ⟨?_, ⟨Same.trans F7.1 y8, F7.2.ext x8⟩⟩
            rw [told, hui]
        · rintro v s8 ⟨rfl, F8⟩
          with_reducible refine stL F8 ?_
          intro s9 F9
          walk_at "m*"
          refine IsiPair.bool_bool ?_
          walk_at "m*"
          refine ite_f rfl ?_
          walk_at "m*"
          refine PyProof.Rows.ne_bool ?_
          walk_at "m*"
          refine ite_f (by simp) ?_
          walk_at "m*"
          refine ite_f rfl ?_
          walk_at "m*"
          exact ⟨g4, _, [], Ext.refl _, F9, rfl, by walk_at "lk", by walk_at "lk"⟩
end
end PartMAgree
section PartMLawF
open PySem PySem.W PySem.Calls PyProof.Rows
/-- a cell's remainder -/
noncomputable def Drawn (_ y : Value) : Prop := ∃ p : Nat, p ≤ 1000000 ∧ IsNum y p
theorem drawn_nums : ∀ {vs ys : List Value}, Paired Drawn vs ys → ∃ ns, Paired IsNum ys ns ∧ ∀ n ∈ ns, n ≤ 1000000
  | _, _, .nil => ⟨[], .nil, fun _ q => nomatch q⟩
  | _, _, .cons x t => by
    obtain ⟨p, hp, hy⟩ := x
    obtain ⟨ns, h1, h2⟩ := drawn_nums t
    exact ⟨p :: ns, .cons hy h1, fun n hn => (List.mem_cons.mp hn).elim (fun q => q ▸ hp) (h2 n)⟩
theorem paired_append {α β : Type} {F : α → β → Prop} : ∀ {a : List α} {b : List β} {c : List α} {d : List β}, Paired F a b → Paired F c d → Paired F (a ++ c) (b ++ d)
  | _, _, _, _, .nil, k => k
  | _, _, _, _, .cons x t, k => .cons x (paired_append t k)
theorem paired_drop {α β : Type} {F : α → β → Prop} : ∀ {a : List α} {b : List β} (n : Nat), Paired F a b → Paired F (a.drop n) (b.drop n)
  | _, _, 0, h => h
  | _, _, _ + 1, .nil => .nil
  | _, _, n + 1, .cons _ t => paired_drop n t
section
variable {prog : Program} {w : World} {A : Around} {E : Value → Shared → Prop} {s s₀ : Shared} {g : Heap} {L : Addr} {mu : List (Addr × Obj)} {m : Str → Option Value} {Q : Value → Shared → Prop}
theorem mSliceL {value slice : Expr} {l : Addr} {vs : List Value} {vl vu : Value} {lo hi : Option Int} (F : St s₀ g L mu m s) (hl : s.heap.IsList l vs.toArray) (pl : IsPart vl lo) (pu : IsPart vu hi) (hsz : vs.length ≤ 1000000)
    (h : ∀ D g' s', Ext g g' → g'.get? D = some (lst (slicePick vs.toArray lo hi none).toList 0) → St s₀ g' L mu m s' → Q (.ref D) s')
    (hs : subscripted slice false (.ref l) (.ref s.heap.objs.size) = operate [.ref s.heap.objs.size, .ref l] (getItem (.ref l) (.ref s.heap.objs.size)) := by kernel_rfl) :
    wpAny (model prog w) A (subscriptTail value slice (.ref l) (.ref s.heap.objs.size)) Q E { s with heap := s.heap.push { cls := .type "slice", data := .fields #[vl, vu, .none] } } := by
  refine tail_any (Heap.IsList.typeIs (s := { s with heap := s.heap.push { cls := .type "slice", data := .fields #[vl, vu, .none] } }) (hl.push _)) list_getitem_lookup
    (wpAny_getItem_list_slice (hl.push _) (Heap.IsSliceOf.new ..) pl pu .none (by simp) ?_ (by rw [List.size_toArray]; exact small hsz)) hs
  have F1 : Fx g L mu (s.heap.push { cls := .type "slice", data := .fields #[vl, vu, .none] }) m := F.2.ext (Ext.push _ _)
  obtain ⟨g', e1, F', k⟩ := F1.push { cls := .type "list", data := .seq (slicePick vs.toArray lo hi none) } rfl
  exact h _ g' { s with heap := _ } e1 (by rw [k]) ⟨F.1, F'⟩
theorem mAddL {l b : Addr} {vs ws : List Value} {n k : Nat} (F : St s₀ g L mu m s) (hl : s.heap.get? l = some (lst vs n)) (hb : s.heap.get? b = some (lst ws k)) (hsz : vs.length + ws.length ≤ 1000000)
    (h : ∀ D g' s', Ext g g' → g'.get? D = some (lst (vs ++ ws) 0) → St s₀ g' L mu m s' → Q (.ref D) s') :
    wpAny (model prog w) A (binaryOp .Add (.ref l) (.ref b)) Q E s := by
  have e : vs.toArray ++ ws.toArray = (vs ++ ws).toArray := by simp
  refine concat_meets ⟨_, hl, rfl⟩ ⟨_, hb, rfl⟩ noFill_list_add seq_list_add PySem.F.slot_list_add PySem.F.entry_list_add (PySem.F.args_list_add_2 _ _) (list_addW l b vs.toArray ws.toArray n k none none #[] #[] (by rw [List.size_toArray, List.size_toArray]; exact small hsz)) ⟨hl, hb, ?_⟩
  rw [e]
  obtain ⟨g', e1, F', k⟩ := F.2.push { cls := .type "list", data := .seq (vs ++ ws).toArray } rfl
  exact h _ g' { s with heap := s.heap.push _ } e1 k ⟨F.1, F'⟩
end
theorem intsAre_mem : ∀ {vs : List Value} {ns : List Int}, IntsAre vs ns → ∀ v ∈ vs, ∃ z t, v = .int z t
  | _, _, .nil, _, h => nomatch h
  | _, _, .cons n t r, v, h => (List.mem_cons.mp h).elim (fun q => ⟨n, t, q⟩) (intsAre_mem r v)
section
variable {prog : Program} {w : World} {A : Around} {E : Value → Shared → Prop} {s : Shared}
theorem lits_len (zs : List Int) (h : zs.length ≤ 6) (k : Nat) (hk : k = zs.length) : zs.length + ([3865, 0, 1134, 2503, 2445, 750].drop k : List Nat).length = 6 := by
  subst hk; rw [List.length_drop]; simp; omega
set_option maxHeartbeats 8000000 in
theorem law_spec {ls : Addr} {vs : List Value} {zs : List Int} (G : Gd w s.heap) (hd : A.depth + 6 < recursionLimit) (hu : A.units + 400 < cLine) (hah : A.handled = none)
    (hls : s.heap.IsList ls vs.toArray) (hvs : IntsAre vs zs) (hz : zs.length ≤ 63) :
    codeAny (model prog w) A (.call (.ref 156) ⟨[.ref ls], []⟩) (Ret s fun v _ => v = .bool true) s := by
  refine enter G (o := ?o) (fd := ?fd) (body := ?bd) (binds := [(Str.ofString "script", .ref ls)]) ?ho ?hdata (by omega) ?hbody ?hbind ?hcd ?hcell ?hloc ?h ?hco ?hgen ?hk
  walk_at "ent"
  intro A' s' hh hdp hun F env
  change St s s.heap s.heap.objs.size [] (upd (fun _ => none) (Str.ofString "script") (.ref ls)) s' at F
  have hhA : A'.handled = none := hh.trans hah
  have hvl : vs.length = zs.length := by simpa using hvs.length
  refine wpAny_execs_cons ?_
  refine mACompLst (s₀ := s) (L := s.heap.objs.size) (fun _ => true) Drawn [] hhA ?_
  walk_at "m*"
  refine mSliceL (s := { s' with toks := s'.toks + 1 }) F (hls.at fun o e => F.2.keep _ o e) .none (.int 6 _) (by omega) ?_
  intro D0 g1 s1 e1 hD0 F1
  have hsl : IntsAre (slicePick vs.toArray none (some 6) none).toList (zs.take 6) := slice_ints_uptoW hvs (by decide)
  have hsll : (slicePick vs.toArray none (some 6) none).toList.length ≤ 6 := by
    have : (slicePick vs.toArray none (some 6) none).toList.length = (zs.take 6).length := by simpa using hsl.length
    rw [this, List.length_take]; omega
  generalize (slicePick vs.toArray none (some 6) none).toList = ws at hD0 hsl hsll
  refine ⟨D0, 0, ws, g1, _, _, rfl, F1.2.keep _ _ hD0, F1, by omega, ⟨?_, ?_⟩, ?_⟩
  · intro C v s₃ m₃ E' _ _ _ _ _
    exact testsTrue rfl
  · intro C v s₃ m₃ E' hv _ hC hN hx hE
    obtain ⟨z, tz, rfl⟩ := intsAre_mem hsl v hv
    have G3 : Gd w s₃.heap := G.keeps (e1.trans (F1.2.keep.trans hE))
    have K0 : StR s₃ s₃.heap s₃ := ⟨Same.refl _, Ext.refl _⟩
    refine wpAny_BinOp ?_
    refine mCall ?_
    refine ldBR G3 K0 b_int ?_
    refine mType ?_
    refine mArgs ?_
    refine ldR K0 hN hx ?_
    refine args_nil ?_
    refine call_int_int ?_
    refine wpAny_BinOp ?_
    refine wpAny_Constant_int ?_
    refine wpAny_Constant_int ?_
    refine AutoIntOps.pow_4 (by decide) (by decide) (by decide) (by decide) (by decide +kernel) ?_
    refine mod_int' (by decide) ?_
    have e6 : (10 : Int) ^ (6 : Int).toNat = 1000000 := by decide
    rw [e6]
    have h0 : 0 ≤ z.fmod 1000000 := Int.fmod_nonneg_of_pos z (by decide)
    have h1 : z.fmod 1000000 < 1000000 := Int.fmod_lt_of_pos z (by decide)
    exact ⟨⟨(z.fmod 1000000).toNat, by omega, _, by rw [Int.toNat_of_nonneg h0]⟩, StR.keeps ⟨⟨rfl, rfl, rfl⟩, Ext.refl _⟩⟩
  · intro D ys n' g2 s2 e2 hD hDl hP F2
    rw [List.filter_eq_self.mpr (fun _ _ => rfl)] at hP
    obtain ⟨ns, hns, hnb⟩ := drawn_nums hP
    have hyl : ys.length ≤ 6 := by rw [← hP.length]; exact hsll
    have hnl : ns.length ≤ 6 := by rw [← hns.length]; exact hyl
    have G2 : Gd w g2 := G.keeps (e1.trans e2)
    walk_at "m*"
    refine mDef G2 (keepIn_of _ 151 (by decide)) ?_
    walk_at "m*"
    refine mList (s₀ := s) (g := g2) (L := s.heap.objs.size) (mu := []) F2 (small (Nat.le_of_ble_eq_true rfl)) ?_
    intro D3 g3 s3 e3 hn3 hD3 F3
    have G3 : Gd w g3 := G2.keeps e3
    walk_at "m*"
    refine mLenList (F3.2.keep _ _ (e3 _ _ hDl)) (by omega) ?_
    intro tl1 kl1
    walk_at "m*"
    obtain ⟨cs, hD3', hcs⟩ : ∃ cs, g3.get? D3 = some (lst cs 0) ∧ Paired IsNum cs [3865, 0, 1134, 2503, 2445, 750] :=
      ⟨_, hD3, .cons ⟨_, rfl⟩ (.cons ⟨_, rfl⟩ (.cons ⟨_, rfl⟩ (.cons ⟨_, rfl⟩ (.cons ⟨_, rfl⟩ (.cons ⟨_, rfl⟩ .nil)))))⟩
    clear hD3
    have hcl : cs.length = 6 := hcs.length
    refine mSliceL (s := { s3 with toks := kl1 }) F3 (isList_of (F3.2.keep _ _ hD3')) (.int _ _) .none (by omega) ?_
    intro D4 g4 s4 e4 hD4 F4
    have hsp : (slicePick cs.toArray (some (ys.length : Int)) none none).toList = cs.drop ys.length := by
      rw [slicePick_from cs.toArray ys.length (by rw [List.size_toArray]; omega)]
    rw [hsp] at hD4
    walk_at "m*"
    refine mAddL F4 (F4.2.keep _ _ ((e3.trans e4) _ _ hDl)) (F4.2.keep _ _ hD4) (by rw [List.length_drop]; omega) ?_
    intro D5 g5 s5 e5 hD5 F5
    walk_at "m*"
    have hnn : Paired IsNum (ys ++ cs.drop ys.length) (ns ++ ([3865, 0, 1134, 2503, 2445, 750] : List Nat).drop ys.length) := paired_append hns (paired_drop _ hcs)
    refine ⟨(e3.trans (e4.trans e5)).trans F5.2.keep, callSpec (agree_spec ((G3.keeps (e4.trans e5)).keeps F5.2.keep) (by omega) (by omega) hhA (F5.2.keep _ _ hD5) hnn ?_ ?_) ?_⟩
    · rw [List.length_append, List.length_drop, ← hns.length]; simp <;> omega
    · intro n hn
      rcases List.mem_append.mp hn with q | q
      · exact hnb n q
      · have h6 : ∀ n ∈ ([3865, 0, 1134, 2503, 2445, 750] : List Nat), n ≤ 1000000 := by decide
        exact h6 n (List.mem_of_mem_drop q)
    · rintro v s6 x6 y6 rfl
      exact Ret.mk ((e1.trans (e2.trans (e3.trans (e4.trans e5)))).trans (F5.2.keep.trans x6)) (Same.trans F5.1 y6) rfl
end
end PartMLawF
end Mine
open PySem PySem.W PySem.Calls PyProof.Rows
set_option maxHeartbeats 8000000 in
theorem PySem.Challenge.cw_mq0182_01_holds : PySem.Challenge.rw_mq0182_01.Holds := by
  refine Mine.hd ?_
  intro w s₀ s₁ mg mb G Y fa o pm cd doc dV kV ho hd hcd hD hmg hg args vals as hpre hlay hrd hwl hlo
  have KX := kIn_of Y
  refine Ground.open G ?_
  intro T B D TE TW
  wrow_args hpre hlay hrd hwl hlo
  rename_i zs _ _ _ _ _ _ _ ls vs _ hL _ _ _ hI _ hcond _
  have e2 : mg (Str.ofString "law") = some (.ref fa) := hmg
  rw [mg_of KX T.g (show nsIn (Mine.Kf w) mainGlobals (Str.ofString "law") = some (some (.ref 156)) by kernel_rfl)] at e2
  have hfa : (156 : Addr) = fa := by
    injection e2 with e3
    injection e3
  subst hfa
  refine enter_call ?_
  refine codeAny_mono (Mine.law_spec (zs := zs) ⟨KX, ⟨mg, mb, T.g, T.b, T.builtins⟩, T.nolimit⟩ (by decide) (by decide) rfl hL hI (by omega)) ?_
  rintro r s' ⟨v, rfl, hx, hsm, rfl⟩
  refine GoodW.toG ⟨.inl ⟨.bool true, .bool true, [], rfl, ?_, .bool true, ?_, unshared_nil⟩, hx, hsm.2.2, hsm.1.trans hg⟩
  · intro _; rfl
  · wrow_post
