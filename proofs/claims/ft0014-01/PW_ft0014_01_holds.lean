import PyProof.Rows.All
import Wide.All
import OpenK.AllK
import Wide.FinOn
import PySem.Challenge.RW_ft0014_01
open PySem PySem.W PyProof.Rows
set_option Elab.async false
set_option maxRecDepth 100000
set_option maxHeartbeats 8000000
namespace Mine
open_top hd for PySem.Challenge.rw_ft0014_01
end Mine

namespace Mine

/-! ## the text's pieces, by projection -/
noncomputable def fnAt (P : Params) (a : Addr) : FuncData := match (hd.heap_39 P).lookup a with
  | some ⟨_, _, .func f, _⟩ => f
  | _ => default
noncomputable def bodyAt (P : Params) (a : Addr) : List Stmt := match (fnAt P a).body with
  | .stmts b => b
  | _ => []
def forBody : Stmt → List Stmt
  | .For _ _ b _ _ => b
  | _ => []
def whileBody : Stmt → List Stmt
  | .While _ b _ _ => b
  | _ => []
def nthS (b : List Stmt) (i : Nat) : Stmt := b.getD i default

/-! ## the top's facts at any heap that keeps them -/
structure Gl (w : World) (h : Heap) : Prop where
  X : (hd.heap_39 w.params).In h
  T : ∃ p loose mg mb, TopRead p loose mg mb h
abbrev Ext (h h' : Heap) : Prop := ∀ b o, h.get? b = some o → h'.get? b = some o
theorem Gl.keeps {w : World} {h h' : Heap} (G : Gl w h) (k : Ext h h') : Gl w h' :=
  ⟨G.X.keeps k, let ⟨p, l, mg, mb, T⟩ := G.T; ⟨p, l, mg, mb, T.keeps k⟩⟩
theorem low_K (P : Params) : ((hd.heap_39 P).all fun p => decide (p.1 < 60)) = true := by rfl
theorem Gl.low {w : World} {h h' : Heap} (G : Gl w h) (k : ∀ (b : Nat) o, b < 60 → h.get? b = some o → h'.get? b = some o) : Gl w h' := by
  obtain ⟨X, p, l, mg, mb, T⟩ := G
  refine ⟨fun a o e => k a o (of_decide_eq_true (List.all_eq_true.mp (low_K w.params) _ (mem_of_lookupK e))) (X a o e), p, l, mg, mb, ⟨T.g.at' fun o e => k _ o (by decide) e, T.b.at' fun o e => k _ o (by decide) e, ?_, T.builtins, T.free⟩⟩
  obtain ⟨mc, a, r⟩ := T.nolimit
  exact ⟨mc, a.at' fun o e => k _ o (by decide) e, r⟩
theorem e40 (P : Params) : (hd.heap_39 P).lookup 40 = some { cls := .type "function", data := .func (fnAt P 40) } := by rfl
theorem e26 (P : Params) : (hd.heap_39 P).lookup 26 = some { cls := .type "function", data := .func (fnAt P 26) } := by rfl
theorem e33 (P : Params) : (hd.heap_39 P).lookup 33 = some { cls := .type "function", data := .func (fnAt P 33) } := by rfl
theorem e54 (P : Params) : (hd.heap_39 P).lookup 54 = some { cls := .type "function", data := .func (fnAt P 54) } := by rfl
theorem b40 (P : Params) : (fnAt P 40).body = .stmts (bodyAt P 40) := by rfl
theorem b26 (P : Params) : (fnAt P 26).body = .stmts (bodyAt P 26) := by rfl
theorem b33 (P : Params) : (fnAt P 33).body = .stmts (bodyAt P 33) := by rfl
theorem b54 (P : Params) : (fnAt P 54).body = .stmts (bodyAt P 54) := by rfl
theorem Gl.code {w : World} {h : Heap} (G : Gl w h) {a : Addr} (e : codeIn (hd.heap_39 w.params) (fnAt w.params a).code (fnAt w.params a).qualname = true) :
    h.CodeRec (fnAt w.params a).code (fnAt w.params a).qualname := codeRec_of G.X e
theorem Gl.nolimit {w : World} {h : Heap} (G : Gl w h) : h.NoLimit := let ⟨_, _, _, _, T⟩ := G.T; T.nolimit

/-! ## facts of a heap -/
abbrev Nev : Value → Shared → Prop := fun _ _ => False
def Loc (h : Heap) (L : Addr) (l : List (Str × Value)) : Prop := ∃ m, h.Ns L m ∧ ∀ y u, l.lookup y = some u → m y = some u
def IntL (h : Heap) (a : Addr) (l : List Int) : Prop := ∃ vs : List Value, h.PlainList a vs.toArray ∧ IntsAre vs l
def RefL (h : Heap) (a : Addr) (l : List Addr) : Prop := h.PlainList a (l.map Value.ref).toArray
/-- what stood at a stands -/
abbrev At (h h' : Heap) (a : Addr) : Prop := ∀ o, h.get? a = some o → h'.get? a = some o
section
variable {h h' : Heap} {a b L : Addr} {l : List (Str × Value)} {ns : List Int} {as : List Addr} {v : Option Value}
theorem Loc.at (x : Loc h L l) (k : At h h' L) : Loc h' L l := let ⟨m, n, e⟩ := x; ⟨m, n.at' k, e⟩
theorem IntL.at (x : IntL h a ns) (k : At h h' a) : IntL h' a ns := let ⟨vs, p, i⟩ := x; ⟨vs, p.at k, i⟩
theorem RefL.at (x : RefL h a as) (k : At h h' a) : RefL h' a as := Heap.PlainList.at x k
theorem cell_at (x : h.IsCell a v) (k : At h h' a) : h'.IsCell a v := let ⟨o, e, d⟩ := x; ⟨o, k o e, d⟩
theorem dict_at {prog : Program} {w : World} {K : Type} [DecidableEq K] {knd : PySem.KeyKind prog w K} {kvs : List (K × Value)} (x : h.DictOf knd a kvs) (k : At h h' a) : h'.DictOf knd a kvs :=
  let ⟨o, es, ep, e, r⟩ := x; ⟨o, es, ep, k o e, r⟩
theorem at_but (s : Heap.SameBut b h h') (n : a ≠ b) : At h h' a := fun o e => s.extBut a o n e
theorem at_ext (k : Ext h h') : At h h' a := fun o e => k a o e
theorem Loc.lt (x : Loc h L l) : @LT.lt Nat _ L h.objs.size := let ⟨_, n, _⟩ := x; n.lt
theorem IntL.lt (x : IntL h a ns) : @LT.lt Nat _ a h.objs.size := let ⟨_, ⟨_, e⟩, _⟩ := x; Heap.lt_size e
theorem RefL.lt (x : RefL h a as) : @LT.lt Nat _ a h.objs.size := let ⟨_, e⟩ := x; Heap.lt_size e
theorem dict_lt {prog : Program} {w : World} {K : Type} [DecidableEq K] {knd : PySem.KeyKind prog w K} {kvs : List (K × Value)} (x : h.DictOf knd a kvs) : @LT.lt Nat _ a h.objs.size :=
  let ⟨_, _, _, e, _⟩ := x; Heap.lt_size e
theorem glt {o : Obj} (e : h.get? a = some o) : @LT.lt Nat _ a h.objs.size := Heap.lt_size e
theorem IntL.isList (x : IntL h a ns) : ∃ vs : List Value, h.IsList a vs.toArray ∧ IntsAre vs ns := let ⟨vs, p, i⟩ := x; ⟨vs, p.isList, i⟩
theorem IntL.plainL (x : IntL h a ns) : ∃ its, PlainL h a its := let ⟨_, ⟨n, e⟩, _⟩ := x; ⟨_, _, n, e, rfl, rfl, rfl⟩
theorem RefL.plainL (x : RefL h a as) : ∃ its, PlainL h a its := let ⟨n, e⟩ := x; ⟨_, _, n, e, rfl, rfl, rfl⟩
theorem Ext.push (o : Obj) : Ext h (h.push o) := fun _ _ e => Heap.get?_push_of_some _ e
theorem Ext.trans {h₁ h₂ h₃ : Heap} (x : Ext h₁ h₂) (y : Ext h₂ h₃) : Ext h₁ h₃ := fun b o e => y b o (x b o e)
theorem loc_re {l' : List (Str × Value)} (x : Loc h L l) (k : ∀ p ∈ l', l.lookup p.1 = some p.2) : Loc h L l' :=
  let ⟨m, n, e⟩ := x; ⟨m, n, fun y u hy => e y u (k (y, u) (mem_of_lookup hy))⟩
end

section
variable {M : Model} {A : Around} {E : Value → Shared → Prop} {s : Shared} {env : Env} {x : Str} {pos : Pos} {v : Value} {l : List (Str × Value)}
theorem nmL {Q : Value → Shared → Prop} (hn : Loc s.heap env.locals l) (hv : l.lookup x = some v) (h : Q v s)
    (hk : env.scope.kind = .function := by rfl) (hx : env.kindOf x = some .local := by rfl) (hd : (x == ("__debug__" : Str)) = false := by decide) :
    wpAny M A (eval (.Name x pos) env) Q E s :=
  let ⟨_, n, e⟩ := hn; wpAny_Name (wpAny_loadName_local hk hx n (e _ _ hv) h) hd
theorem nmC {Q : Value → Shared → Prop} {c : Addr} (hv : s.heap.IsCell c (some v)) (hc : env.cells.lookup x = some c) (h : Q v s)
    (hk : env.scope.kind = .function := by rfl) (hx : env.kindOf x = some .cell := by rfl) (hd : (x == ("__debug__" : Str)) = false := by decide) :
    wpAny M A (eval (.Name x pos) env) Q E s := wpAny_Name (wpAny_loadName_cell hk hx hc hv h) hd
theorem nmG {w : World} {Q : Value → Shared → Prop} (G : Gl w s.heap) (e : nsIn (hd.heap_39 w.params) mainGlobals x = some (some v)) (h : Q v s)
    (hg : env.globals = mainGlobals := by rfl) (hk : env.scope.kind = .function := by rfl) (hx : env.kindOf x = some .globalImplicit := by rfl) (hd : (x == ("__debug__" : Str)) = false := by decide) :
    wpAny M A (eval (.Name x pos) env) Q E s :=
  let ⟨_, _, _, _, T⟩ := G.T
  Calls.Name_function_global hk hx (Calls.loadGlobal_global (by rw [hg]; exact T.g) (mg_of G.X T.g e) h) hd
theorem nmB {w : World} {Q : Value → Shared → Prop} (G : Gl w s.heap) (hv : bootBuiltins x = some v) (h : Q v s)
    (e : nsIn (hd.heap_39 w.params) mainGlobals x = some none := by rfl)
    (hn : x ≠ "__name__" := by decide) (hg : env.globals = mainGlobals := by rfl) (hb : env.builtins = builtinsNs := by rfl)
    (hk : env.scope.kind = .function := by rfl) (hx : env.kindOf x = some .globalImplicit := by rfl) (hd : (x == ("__debug__" : Str)) = false := by decide) :
    wpAny M A (eval (.Name x pos) env) Q E s :=
  let ⟨_, _, _, _, T⟩ := G.T
  Calls.Name_function_global hk hx (Calls.loadGlobal_builtin (by rw [hg]; exact T.g) (mg_none_of G.X T.g e) (by rw [hb]; exact T.b) ((T.builtins x hn).trans hv) h) hd
theorem stL {Q : Unit → Shared → Prop} (hn : Loc s.heap env.locals l)
    (h : ∀ h', Loc h' env.locals ((x, v) :: l) → Heap.SameBut env.locals s.heap h' → Q () { s with heap := h', toks := s.toks + 1 })
    (hx : env.kindOf x = some .local := by rfl) (hp : (env.scope.kind == .class || (env.scope.kind == .module && env.locals != env.globals)) = false := by rfl) :
    wpAny M A (storeName env x v) Q E s :=
  let ⟨m, n, e⟩ := hn
  wpAny_storeName_local hx n (fun h' n' s' => h h' ⟨_, n', fun y u hy => by
    rw [List.lookup_cons] at hy
    by_cases hyx : y = x
    · subst hyx
      simp only [beq_self_eq_true] at hy
      rw [if_pos rfl]; exact hy
    · have : (y == x) = false := by simpa using hyx
      rw [this] at hy
      rw [if_neg hyx]; exact e y u hy⟩ s') hp
theorem stC {Q : Unit → Shared → Prop} {c : Addr} {v₀ : Option Value} (hv : s.heap.IsCell c v₀) (hc : env.cells.lookup x = some c)
    (h : ∀ h', h'.IsCell c (some v) → Heap.SameBut c s.heap h' → Q () { s with heap := h' })
    (hk : env.scope.kind = .function := by rfl) (hx : env.kindOf x = some .cell := by rfl) : wpAny M A (storeName env x v) Q E s :=
  wpAny_storeName_cell hk hx hc hv h
end

/-! ## a dict with int keys -/
def VD (prog : Program) (w : World) (h : Heap) (d : Addr) (ks : List Int) (F : Int → Value → Prop) : Prop :=
  ∃ kvs, h.DictOf (PySem.intKind prog w) d kvs ∧ kvs.map (·.1) = ks ∧ ∀ k ∈ ks, ∃ v, valueAt kvs k = some v ∧ F k v
theorem valueAt_none {kvs : List (Int × Value)} {k : Int} (h : k ∉ kvs.map (·.1)) : valueAt kvs k = none := by
  unfold valueAt
  rw [List.find?_eq_none.mpr fun x hx => by
    have : x.1 ≠ k := fun e => h (e ▸ List.mem_map_of_mem hx)
    simpa using this]
  rfl
theorem any_key {kvs : List (Int × Value)} {k : Int} : (kvs.any fun kv => decide (kv.1 = k)) = decide (k ∈ kvs.map (·.1)) := by
  induction kvs with
  | nil => rfl
  | cons a l ih =>
    rw [List.any_cons, ih, List.map_cons]
    by_cases h : a.1 = k
    · simp [h]
    · have : ¬ k = a.1 := fun e => h e.symm
      simp [h, this]
theorem valueAt_store {kvs : List (Int × Value)} {k : Int} {v : Value} (x : Int) : valueAt (stored kvs k v) x = if x = k then some v else valueAt kvs x := by
  unfold stored
  rw [any_key]
  by_cases hk : k ∈ kvs.map (·.1)
  · rw [if_pos (decide_eq_true hk)]
    unfold valueAt
    induction kvs with
    | nil => simp at hk
    | cons a l ih =>
      by_cases ha : a.1 = k
      · by_cases hx : x = k
        · subst hx; simp [ha]
        · have h1 : ¬ k = x := fun e => hx e.symm
          simp only [List.map_cons, ha, if_true, if_neg hx, List.find?_cons, h1, decide_false]
          by_cases hl : k ∈ l.map (·.1)
          · have := ih hl; rw [if_neg hx] at this; exact this
          · have e : (l.map fun kv => if kv.1 = k then (kv.1, v) else kv) = l := map_store_of_not_mem l k v hl
            rw [e]
      · have hl : k ∈ l.map (·.1) := by
          rcases List.mem_cons.mp hk with e | e
          · exact absurd e.symm ha
          · exact e
        simp only [List.map_cons, if_neg ha, List.find?_cons]
        by_cases hax : a.1 = x
        · have : ¬ x = k := fun e => ha (hax.trans e)
          simp [hax, this]
        · simp only [hax, decide_false]
          exact ih hl
  · rw [if_neg (by simpa using hk)]
    by_cases hx : x = k
    · subst hx
      have := valueAt_none hk
      unfold valueAt at this ⊢
      rw [List.find?_append]
      cases hf : kvs.find? (fun kv => decide (kv.1 = x)) with
      | none => simp
      | some y => rw [hf] at this; cases this
    · unfold valueAt
      rw [List.find?_append, if_neg hx]
      have h1 : ¬ k = x := fun e => hx e.symm
      cases hf : kvs.find? (fun kv => decide (kv.1 = x)) with
      | none => simp [h1]
      | some y => simp
theorem keys_store {kvs : List (Int × Value)} {k : Int} {v : Value} : (stored kvs k v).map (·.1) = if k ∈ kvs.map (·.1) then kvs.map (·.1) else kvs.map (·.1) ++ [k] := by
  unfold stored
  rw [any_key]
  by_cases hk : k ∈ kvs.map (·.1)
  · rw [if_pos (decide_eq_true hk), if_pos hk]
    exact keys_map_store kvs k v
  · rw [if_neg (by simpa using hk), if_neg hk]
    simp
section
variable {prog : Program} {w : World} {h h' : Heap} {d : Addr} {ks : List Int} {F F' : Int → Value → Prop}
theorem VD.at (x : VD prog w h d ks F) (k : At h h' d) : VD prog w h' d ks F := let ⟨kvs, a, r⟩ := x; ⟨kvs, dict_at a k, r⟩
theorem VD.lt (x : VD prog w h d ks F) : @LT.lt Nat _ d h.objs.size := let ⟨_, a, _⟩ := x; dict_lt a
theorem VD.mono (x : VD prog w h d ks F) (k : ∀ j ∈ ks, ∀ v, F j v → F' j v) : VD prog w h d ks F' :=
  let ⟨kvs, a, b, c⟩ := x; ⟨kvs, a, b, fun j hj => let ⟨v, e, f⟩ := c j hj; ⟨v, e, k j hj v f⟩⟩
theorem VD.nodup (x : VD prog w h d ks F) : ks.Nodup := let ⟨_, ⟨_, _, _, _, _, _, _, _, n⟩, b, _⟩ := x; b ▸ n
theorem VD.isDict (x : VD prog w h d ks F) : ∃ o, h.get? d = some o ∧ o.cls = .type "dict" := let ⟨_, ⟨o, _, _, a, b, _⟩, _⟩ := x; ⟨o, a, b.1⟩
theorem VD.typeIs {s : Shared} (x : VD prog w s.heap d ks F) : s.TypeIs (.ref d) "dict" := show ∃ o, s.heap.get? d = some o ∧ o.cls = .type "dict" from x.isDict
theorem VD.new (h : Heap) : VD prog w (h.push { cls := .type "dict", data := .dict #[] }) h.objs.size [] F := ⟨[], Heap.DictOf.new h, rfl, fun _ hk => absurd hk List.not_mem_nil⟩
variable {A : Around} {E : Value → Shared → Prop} {s : Shared} {k : Int} {t : Tok}
theorem vd_get {Q : Value → Shared → Prop} (x : VD prog w s.heap d ks F) (hk : k ∈ ks) (hQ : ∀ v, F k v → Q v { s with toks := s.toks + 1 }) :
    wpAny (model prog w) A (getItem (.ref d) (.int k t)) Q E s :=
  let ⟨_, a, _, c⟩ := x
  let ⟨v, e, f⟩ := c k hk
  wpAny_getItem_of (knd := PySem.intKind prog w) (intKind_is prog w k t) a.mapOf e (hQ v f)
theorem VD.val {kvs : List (Int × Value)} (hk : kvs.map (·.1) = ks) (c : ∀ k ∈ ks, ∃ v, valueAt kvs k = some v ∧ F k v) (k : Int) : (valueAt kvs k).isSome = decide (k ∈ ks) := by
  by_cases hm : k ∈ ks
  · obtain ⟨v, e, _⟩ := c k hm
    rw [e, decide_eq_true hm]; rfl
  · rw [valueAt_none (hk ▸ hm), decide_eq_false hm]; rfl
theorem vd_in {Q : Value → Shared → Prop} (x : VD prog w s.heap d ks F) (hd : (d == sysModules) = false) (hQ : Q (.bool (decide (k ∈ ks))) { s with toks := s.toks + 1 }) :
    wpAny (model prog w) A (compareOp .In (.int k t) (.ref d)) Q E s :=
  let ⟨_, a, b, c⟩ := x
  wpAny_in_of (knd := PySem.intKind prog w) (intKind_is prog w k t) hd a.mapOf (by rw [VD.val b c]; exact hQ)
theorem vd_notin {Q : Value → Shared → Prop} (x : VD prog w s.heap d ks F) (hd : (d == sysModules) = false) (hQ : Q (.bool (!decide (k ∈ ks))) { s with toks := s.toks + 1 }) :
    wpAny (model prog w) A (compareOp .NotIn (.int k t) (.ref d)) Q E s :=
  let ⟨_, a, b, c⟩ := x
  wpAny_notIn_of (knd := PySem.intKind prog w) (intKind_is prog w k t) hd a.mapOf (by rw [VD.val b c]; exact hQ)
theorem vd_set {Q : Unit → Shared → Prop} {v : Value} (x : VD prog w s.heap d ks F) (hsz : ks.length ≤ 1000) (hv : F' k v) (ho : ∀ j ∈ ks, j ≠ k → ∀ u, F j u → F' j u)
    (hQ : ∀ h', VD prog w h' d (if k ∈ ks then ks else ks ++ [k]) F' → Heap.SameBut d s.heap h' → Q () { s with heap := h', toks := s.toks + 1 }) :
    wpAny (model prog w) A (setItem (.ref d) (.int k t) v) Q E s := by
  obtain ⟨kvs, a, b, c⟩ := x
  subst b
  refine wpAny_setItem_pairs (knd := PySem.intKind prog w) (intKind_is prog w k t) a (fun h' a' s' => hQ h' ⟨_, a', keys_store, fun j hj => ?_⟩ s') (by rw [sizeLine_eq]; simp only [List.length_map] at hsz; omega)
  rw [valueAt_store]
  by_cases hjk : j = k
  · subst hjk
    exact ⟨v, if_pos rfl, hv⟩
  · rw [if_neg hjk]
    have hj' : j ∈ kvs.map (·.1) := by
      split at hj
      · exact hj
      · rcases List.mem_append.mp hj with e | e
        · exact e
        · exact absurd (List.mem_singleton.mp e) hjk
    obtain ⟨u, e, f⟩ := c j hj'
    exact ⟨u, e, ho j hj' hjk u f⟩
theorem vd_len {Q : Value → Shared → Prop} (x : VD prog w s.heap d ks F) (hd : (d == sysModules) = false) (hsz : ks.length ≤ 1000) (hQ : ∀ t tk, Q (.int ks.length t) { s with toks := tk }) :
    wpAny (model prog w) A (call (.builtin "len") [.ref d]) Q E s := by
  obtain ⟨kvs, a, b, c⟩ := x
  subst b
  simp only [List.length_map] at hsz hQ
  exact PySem.call_len_dict hd a (by omega) (hQ _ _)
end

/-! ## loops -/
section
variable {prog : Program} {w : World} {A : Around} {R : Result → Shared → Prop} {s : Shared} {target : Expr} {body : List Stmt} {env : Env} {I : Addr} {fp wr : List Addr} {n : Nat} {P : Nat → Value → Prop} {St : Nat → Heap → Prop}
/-- the state but for heap and tokens -/
def Sh (s s' : Shared) : Prop := ∃ h tk, s' = { s with heap := h, toks := tk }
theorem Sh.refl (s : Shared) : Sh s s := ⟨_, _, rfl⟩
theorem Sh.trans {a b c : Shared} (x : Sh a b) (y : Sh b c) : Sh a c := by
  obtain ⟨h, t, rfl⟩ := x
  obtain ⟨h', t', rfl⟩ := y
  exact ⟨h', t', rfl⟩
theorem for_walk (W : Walks prog w A I fp wr n P St) (J : Nat → Heap → Prop) (hst : St 0 s.heap) (hj : J 0 s.heap)
    (stab : ∀ i h h', (∀ b o, b ∉ wr → h.get? b = some o → h'.get? b = some o) → J i h → J i h')
    (step : ∀ i v (s₁ : Shared), i < n → P i v → Sh s s₁ → J i s₁.heap → St (i + 1) s₁.heap →
      wpAny (model prog w) A (assign target env v) (fun _ s₂ => wpAny (model prog w) A (execs body env)
        (fun f s₃ => (f = .next ∨ f = .cont) ∧ Sh s₁ s₃ ∧ J (i + 1) s₃.heap ∧ ∀ b ∈ fp, ∀ o, s₁.heap.get? b = some o → s₃.heap.get? b = some o) Nev s₂) Nev s₁)
    (done : ∀ s', Sh s s' → J n s'.heap → R (.ok .next) s')
    (hl : ∀ v, letOwnedTupleGo target (.ref I) v = pure () := by intro _; rfl) :
    codeAny (model prog w) A (.forLoop target (.ref I) body [] env) R s := by
  refine codeAny_forLoop (fun k s' => ∃ i, Sh s s' ∧ St i s'.heap ∧ J i s'.heap ∧ i ≤ n ∧ k = n + 1 - i) ?_ (n + 1) ⟨0, Sh.refl s, hst, hj, Nat.zero_le _, rfl⟩ hl
  rintro k s' ⟨i, hsh, hst', hJ, hi, rfl⟩
  by_cases hlt : i < n
  · refine wpAny_noRaise (W.item i s' _ _ hlt hst' fun v h₁ tk₁ hP hst₁ hk₁ => wpAny_noRaise ?_)
    have hJ₁ := stab i _ _ hk₁ hJ
    refine wpAny_mono (step i v { s' with heap := h₁, toks := tk₁ } hlt hP (hsh.trans ⟨_, _, rfl⟩) hJ₁ hst₁) (fun _ s₂ h₂ => wpAny_noRaise (wpAny_mono h₂ (fun f s₃ h₃ => ?_) fun _ _ e => e)) fun _ _ e => e
    obtain ⟨hf, hsh₃, hJ₃, hfp⟩ := h₃
    have fin : ∃ m, m < n + 1 - i ∧ ∃ i, Sh s s₃ ∧ St i s₃.heap ∧ J i s₃.heap ∧ i ≤ n ∧ m = n + 1 - i :=
      ⟨n + 1 - (i + 1), by omega, i + 1, (hsh.trans ⟨h₁, tk₁, rfl⟩).trans hsh₃, W.frame _ _ _ hst₁ hfp, hJ₃, hlt, rfl⟩
    rcases hf with rfl | rfl <;> exact fin
  · have hin : i = n := by omega
    subst hin
    exact wpAny_noRaise (W.done s' _ _ hst' fun h₁ tk₁ hk₁ => wpAny_execs_nil (done _ (hsh.trans ⟨_, _, rfl⟩) (stab _ _ _ hk₁ hJ)))
end

section
variable {prog : Program} {w : World} {A : Around} {E : Value → Shared → Prop} {s : Shared}
/-- a list of ints grown by one -/
theorem app_int {a : Addr} {l : List Int} {k : Int} {t : Tok} {Q : Value → Shared → Prop} (x : IntL s.heap a l) (hsz : l.length ≤ 1000)
    (hQ : ∀ h', IntL h' a (l ++ [k]) → Heap.SameBut a s.heap h' → Q .none { s with heap := h' }) : wpAny (model prog w) A (call (.builtin "list.append") [.ref a, .int k t]) Q E s := by
  obtain ⟨vs, p, i⟩ := x
  refine wpAny_list_append_plain p (fun h' p' s' => hQ h' ⟨vs ++ [.int k t], by simpa using p', i.append (.cons _ _ .nil)⟩ s') ?_
  have := i.length
  rw [List.size_toArray, sizeLine_eq]; omega
theorem app_ref {a b : Addr} {l : List Addr} {Q : Value → Shared → Prop} (x : RefL s.heap a l) (hsz : l.length ≤ 1000)
    (hQ : ∀ h', RefL h' a (l ++ [b]) → Heap.SameBut a s.heap h' → Q .none { s with heap := h' }) : wpAny (model prog w) A (call (.builtin "list.append") [.ref a, .ref b]) Q E s := by
  refine wpAny_list_append_plain x (fun h' p' s' => hQ h' (by unfold RefL; simpa using p') s') ?_
  rw [List.size_toArray, List.length_map, sizeLine_eq]; omega
theorem new_nil {pos : Pos} {env : Env} {Q : Value → Shared → Prop} (h : ∀ h', IntL h' s.heap.objs.size [] → RefL h' s.heap.objs.size [] → Ext s.heap h' → h'.objs.size = s.heap.objs.size + 1 → Q (.ref s.heap.objs.size) { s with heap := h' }) :
    wpAny (model prog w) A (eval (.List [] pos) env) Q E s :=
  wpAny_List (Calls.spliced_nil ⟨by rw [sizeLine_eq]; decide, h _ ⟨[], ⟨0, Heap.get?_push_size _ rfl⟩, .nil⟩ ⟨0, Heap.get?_push_size _ rfl⟩ (Ext.push _) (Heap.size_push _ _)⟩)
end

/-- everything but what stands at two places -/
noncomputable def restOf (h : Heap) (a b : Addr) : List (Addr × Obj) := (List.range h.objs.size).filterMap fun c => if c = a ∨ c = b then none else (h.get? c).map fun o => (c, o)
theorem mem_restOf {h : Heap} {a b c : Addr} {o : Obj} : (c, o) ∈ restOf h a b ↔ c ≠ a ∧ c ≠ b ∧ h.get? c = some o := by
  unfold restOf
  rw [List.mem_filterMap]
  constructor
  · rintro ⟨x, _, hx⟩
    split at hx
    · cases hx
    · rename_i hn
      cases hg : h.get? x with
      | none => rw [hg] at hx; cases hx
      | some q =>
        rw [hg] at hx
        cases hx
        exact ⟨fun e => hn (.inl e), fun e => hn (.inr e), hg⟩
  · rintro ⟨h1, h2, h3⟩
    exact ⟨c, List.mem_range.mpr (Heap.lt_size h3), by rw [if_neg (by rintro (e | e); exact h1 e; exact h2 e), h3]; rfl⟩
theorem get_empty (a : Addr) : ({} : Heap).get? a = none := by
  cases e : ({} : Heap).get? a with
  | none => rfl
  | some o => exact absurd (Heap.lt_size e) (Nat.not_lt_zero _)

section
variable {prog : Program} {w : World} {A : Around} {E : Value → Shared → Prop} {s : Shared} {x dx L : Addr} {es : List DictEntry} {n : Nat} {name : Str} {v : Value} {l : List (Str × Value)}
theorem inst_of {h : Heap} (h1 : h.get? x = some (instObj 43 dx)) (h2 : h.get? dx = some (W.dictOf es n)) : W.InstAt h x (instObj 43 dx) 43 (some (W.dictOf es n)) := ⟨h1, rfl, rfl, h2⟩
/-- an attribute read -/
theorem ga {expr : Bool} {Q : Value → Shared → Prop} (G : Gl w s.heap) (h1 : s.heap.get? x = some (instObj 43 dx)) (h2 : s.heap.get? dx = some (W.dictOf es n))
    (hl : getL name es = some (some v)) (h : Q v { s with toks := s.toks + 1 }) (hp : plainGet (hd.heap_39 w.params) 43 name = true := by rfl)
    (ha : findIn (hd.heap_39 w.params) (.ref 43) name = some none := by rfl) (hv : handedIn v = true := by rfl) :
    wpAny (model prog w) A (getAttr (.ref x) name expr) Q E s :=
  get_value G.X (inst_of h1 h2) (plainGet_of hp).1 (findObj_own (by rfl) ha (by rfl) (by rw [lookIn_dict]; exact hl)) hv h
/-- an attribute stored -/
theorem sa {Q : Unit → Shared → Prop} (G : Gl w s.heap) (hL : Loc s.heap L l) (hne : L ≠ dx) (h1 : s.heap.get? x = some (instObj 43 dx)) (h2 : s.heap.get? dx = some (W.dictOf es n))
    (hl : (getL name es).isSome = true) (hz : ∀ hs t, (putL name hs (.str name t) v es).length ≤ 1000)
    (h : ∀ h', Loc h' L l → h'.get? dx = some (W.dictOf (putL name (PyData.keyHash w.params name) (.str name (s.toks + 1)) v es) (putN name es n)) → (∀ b o, b ≠ L → b ≠ dx → s.heap.get? b = some o → h'.get? b = some o) → Q () { s with heap := h', toks := s.toks + 2 })
    (ht : takerIn (hd.heap_39 w.params) 43 name = some none := by rfl) :
    wpAny (model prog w) A (setAttr (.ref x) name v) Q E s := by
  obtain ⟨m, hn, hm⟩ := hL
  have F : Fr {} L s.heap m := ⟨hn, fun b o e => (by rw [get_empty] at e; exact nomatch e), Nat.zero_le _⟩
  have N : News {} L s.heap ((dx, W.dictOf es n) :: restOf s.heap L dx) := fun p hp => by
    rcases List.mem_cons.mp hp with rfl | hp
    · exact ⟨h2, fun q => hne q.symm, get_empty _⟩
    · obtain ⟨a, b, c⟩ := mem_restOf.mp hp
      exact ⟨c, a, get_empty _⟩
  refine set_plain G.X (inst_of h1 h2) (by rfl) (osa_dict (s := { s with toks := s.toks + 1 }) (pre := []) F N G.X (inst_of h1 h2) rfl (by rfl) ht (by rfl) (by rw [lookIn_dict]; exact hl) (fun _ hp => absurd hp List.not_mem_nil)
    (fun p hp => (mem_restOf.mp hp).2.1) (by rw [putName_dict]) rfl (hz _ _) fun h' F' N' => h h' ⟨m, F'.ns, hm⟩ (N' _ (.head _)).1 fun b o a c e => (N' (b, o) (.tail _ (mem_restOf.mpr ⟨a, c, e⟩))).1)
end
theorem list_ne_dict {prog : Program} {w : World} {h : Heap} {a d : Addr} {l : List Int} {ks : List Int} {F : Int → Value → Prop} (x : IntL h a l) (y : VD prog w h d ks F) : @Ne Nat a d := by
  rintro rfl
  obtain ⟨_, ⟨n, e⟩, _⟩ := x
  obtain ⟨o, e', c⟩ := y.isDict
  rw [e] at e'; cases e'
  exact absurd (Value.type.inj c) (by decide)
theorem refl_ne_dict {prog : Program} {w : World} {h : Heap} {a d : Addr} {l : List Addr} {ks : List Int} {F : Int → Value → Prop} (x : RefL h a l) (y : VD prog w h d ks F) : @Ne Nat a d := by
  rintro rfl
  obtain ⟨n, e⟩ := x
  obtain ⟨o, e', c⟩ := y.isDict
  rw [e] at e'; cases e'
  exact absurd (Value.type.inj c) (by decide)
theorem inst_ne_dict {prog : Program} {w : World} {h : Heap} {x dx C d : Addr} {ks : List Int} {F : Int → Value → Prop} (e : h.get? x = some (instObj C dx)) (y : VD prog w h d ks F) : @Ne Nat x d := by
  rintro rfl
  obtain ⟨o, e', c⟩ := y.isDict
  rw [e] at e'; cases e'
  cases c
theorem inst_ne_dictOf {h : Heap} {x dx C d : Addr} {es : List DictEntry} {n : Nat} (e : h.get? x = some (instObj C dx)) (e' : h.get? d = some (W.dictOf es n)) : @Ne Nat x d := by
  rintro rfl
  rw [e] at e'; cases e'
theorem Gl.size {w : World} {h : Heap} (G : Gl w h) : @LE.le Nat _ 60 h.objs.size := by
  have e : ∃ o, (hd.heap_39 w.params).lookup 59 = some o := ⟨_, rfl⟩
  obtain ⟨o, e⟩ := e
  exact glt (G.X 59 o e)
theorem nsm {a : Nat} (h : 60 ≤ a) : (a == sysModules) = false := by
  have e : (sysModules : Nat) = 1 := rfl
  rw [beq_eq_false_iff_ne, e]
  omega
/-- a list of one -/
theorem new_one {M : Model} {A : Around} {E : Value → Shared → Prop} {s : Shared} {env : Env} {e : Expr} {pos : Pos} {k : Int} {t : Tok} {Q : Value → Shared → Prop}
    (he : ∀ Q', Q' (.int k t) s → wpAny M A (eval e env) Q' E s)
    (h : ∀ h', IntL h' s.heap.objs.size [k] → Ext s.heap h' → h'.objs.size = s.heap.objs.size + 1 → Q (.ref s.heap.objs.size) { s with heap := h' })
    (hs : backTo pos (starEach [e] env) = [(false, eval e env)] := by rfl) :
    wpAny M A (eval (.List [e] pos) env) Q E s := by
  refine wpAny_List ?_
  rw [hs]
  exact Calls.spliced_cons (he _ (Calls.spliced_nil ⟨by rw [sizeLine_eq]; exact Nat.le_of_ble_eq_true rfl, h _ ⟨[.int k t], ⟨0, Heap.get?_push_size _ rfl⟩, .cons _ _ .nil⟩ (Ext.push _) (Heap.size_push _ _)⟩))
end Mine

namespace Mine

/-! ## the plain law: Kahn's layers twice -/
abbrev Needs := List (List Int)
def need (nd : Needs) (k : Int) : List Int := if 0 ≤ k then nd.getD k.toNat [] else []
def up (n : Nat) : List Int := (List.range n).map (fun (i : Nat) => (i : Int))
def deps (nd : Needs) (k : Int) : List Int := (need nd k).filter (fun d => decide (d ≠ k))
def isThing (nd : Needs) (k : Int) : Bool := decide (k < (nd.length : Int)) || decide (∃ o ∈ up nd.length, k ∈ need nd o)
def things (nd : Needs) : List Int := (up 8).filter (isThing nd)
def isReady (nd : Needs) (P : List Int) (k : Int) : Bool := decide (k ∉ P) && decide (∀ d ∈ deps nd k, d ∈ P)
def readyOf (nd : Needs) (P : List Int) : List Int := (things nd).filter (isReady nd P)
def placedN (nd : Needs) : Nat → List Int
  | 0 => []
  | r + 1 => placedN nd r ++ readyOf nd (placedN nd r)
def layer (nd : Needs) (r : Nat) : List Int := readyOf nd (placedN nd r)
def revOf (nd : Needs) (t : Int) : List Int := (up nd.length).filter (fun k => decide (t ∈ deps nd k))
def cnt (nd : Needs) (P : List Int) (t : Int) : Nat := ((deps nd t).filter (fun d => decide (d ∉ P))).length

structure Good (nd : Needs) : Prop where
  len : nd.length ≤ 6
  nodup : ∀ k, (need nd k).Nodup
  small : ∀ k, ∀ d ∈ need nd k, 0 ≤ d ∧ d < 8

theorem mem_up {n : Nat} {k : Int} : k ∈ up n ↔ 0 ≤ k ∧ k < (n : Int) := by
  unfold up
  constructor
  · intro h
    obtain ⟨i, hi, rfl⟩ := List.mem_map.mp h
    have := List.mem_range.mp hi
    omega
  · rintro ⟨h1, h2⟩
    exact List.mem_map.mpr ⟨k.toNat, List.mem_range.mpr (by omega), by omega⟩
theorem up_succ (n : Nat) : up (n + 1) = up n ++ [(n : Int)] := by simp [up, List.range_succ]
theorem up_sorted (n : Nat) : (up n).Pairwise (· < ·) := by
  induction n with
  | zero => exact List.Pairwise.nil
  | succ n ih =>
    rw [up_succ]
    refine List.pairwise_append.mpr ⟨ih, List.pairwise_singleton _ _, fun a ha b hb => ?_⟩
    have := (mem_up.mp ha).2
    rw [List.mem_singleton.mp hb]; exact this
theorem nodup_of_lt {l : List Int} (h : l.Pairwise (· < ·)) : l.Nodup := h.imp fun h e => by omega
theorem up_nodup (n : Nat) : (up n).Nodup := nodup_of_lt (up_sorted n)

theorem need_none {nd : Needs} {k : Int} (h : ¬ (0 ≤ k ∧ k < (nd.length : Int))) : need nd k = [] := by
  unfold need
  split
  · simp only [List.getD_eq_getElem?_getD]; rw [List.getElem?_eq_none (by omega)]; rfl
  · rfl
theorem mem_deps {nd : Needs} {k d : Int} : d ∈ deps nd k ↔ d ∈ need nd k ∧ d ≠ k := by simp [deps]
theorem deps_range {nd : Needs} {k d : Int} (h : d ∈ deps nd k) : 0 ≤ k ∧ k < (nd.length : Int) := by
  apply Classical.byContradiction
  intro hn
  rw [mem_deps, need_none hn] at h
  exact absurd h.1 List.not_mem_nil
section
variable {nd : Needs}
theorem Good.deps_nodup (G : Good nd) (k : Int) : (deps nd k).Nodup := (G.nodup k).filter _
theorem mem_revOf {t k : Int} : k ∈ revOf nd t ↔ t ∈ deps nd k := by
  simp only [revOf, List.mem_filter, decide_eq_true_eq, mem_up]
  exact ⟨fun h => h.2, fun h => ⟨deps_range h, h⟩⟩
theorem revOf_nodup (t : Int) : (revOf nd t).Nodup := (up_nodup _).filter _
theorem mem_things {k : Int} (G : Good nd) : k ∈ things nd ↔ (0 ≤ k ∧ k < (nd.length : Int)) ∨ ∃ o, k ∈ need nd o := by
  simp only [things, isThing, List.mem_filter, mem_up, Bool.or_eq_true, decide_eq_true_eq]
  have hl := G.len
  constructor
  · rintro ⟨⟨h1, h2⟩, h | ⟨o, _, h⟩⟩
    · exact .inl ⟨h1, h⟩
    · exact .inr ⟨o, h⟩
  · rintro (⟨h1, h2⟩ | ⟨o, h⟩)
    · exact ⟨⟨h1, by omega⟩, .inl h2⟩
    · have hs := G.small o k h
      refine ⟨⟨hs.1, by omega⟩, .inr ⟨o, ?_, h⟩⟩
      apply Classical.byContradiction
      intro hn
      rw [need_none hn] at h
      exact absurd h List.not_mem_nil
theorem things_sorted : (things nd).Pairwise (· < ·) := (up_sorted 8).filter _
theorem things_nodup : (things nd).Nodup := nodup_of_lt things_sorted
theorem dep_thing (G : Good nd) {k d : Int} (h : d ∈ deps nd k) : d ∈ things nd := (mem_things G).mpr (.inr ⟨k, (mem_deps.mp h).1⟩)
theorem item_thing (G : Good nd) {k d : Int} (h : d ∈ deps nd k) : k ∈ things nd := (mem_things G).mpr (.inl (deps_range h))
theorem thing_small {k : Int} (h : k ∈ things nd) : 0 ≤ k ∧ k < 8 := by
  have := mem_up.mp (List.mem_filter.mp h).1
  omega
theorem mem_ready {P : List Int} {k : Int} : k ∈ readyOf nd P ↔ k ∈ things nd ∧ k ∉ P ∧ ∀ d ∈ deps nd k, d ∈ P := by
  simp only [readyOf, isReady, List.mem_filter, Bool.and_eq_true, decide_eq_true_eq]
theorem ready_sorted (P : List Int) : (readyOf nd P).Pairwise (· < ·) := things_sorted.filter _
theorem ready_nodup (P : List Int) : (readyOf nd P).Nodup := nodup_of_lt (ready_sorted P)

/-- the placed ones at a round: distinct things, each with all it needs -/
theorem placed_ok (r : Nat) : (placedN nd r).Nodup ∧ (∀ k ∈ placedN nd r, k ∈ things nd) ∧ ∀ k ∈ placedN nd r, ∀ d ∈ deps nd k, d ∈ placedN nd r := by
  induction r with
  | zero => exact ⟨List.nodup_nil, fun _ h => absurd h List.not_mem_nil, fun _ h => absurd h List.not_mem_nil⟩
  | succ r ih =>
    obtain ⟨h1, h2, h3⟩ := ih
    refine ⟨List.nodup_append.mpr ⟨h1, ready_nodup _, fun a ha b hb e => ?_⟩, fun k hk => ?_, fun k hk d hd => ?_⟩
    · exact (mem_ready.mp hb).2.1 (e ▸ ha)
    · rcases List.mem_append.mp hk with hk | hk
      · exact h2 k hk
      · exact (mem_ready.mp hk).1
    · rcases List.mem_append.mp hk with hk | hk
      · exact List.mem_append_left _ (h3 k hk d hd)
      · exact List.mem_append_left _ ((mem_ready.mp hk).2.2 d hd)

/-- two lists without repeats and with the same members are equally long -/
theorem perm_of {a b : List Int} (ha : a.Nodup) (hb : b.Nodup) (h : ∀ x, x ∈ a ↔ x ∈ b) : a.Perm b :=
  (List.perm_ext_iff_of_nodup ha hb).mpr h
theorem len_le_8 {a : List Int} (ha : a.Nodup) (h : ∀ x ∈ a, 0 ≤ x ∧ x < 8) : a.length ≤ 8 := by
  have h1 : a.length ≤ (up 8).length := ha.length_le_of_subset fun x hx => mem_up.mpr (by have := h x hx; omega)
  exact h1
theorem things_len : (things nd).length ≤ 8 := len_le_8 things_nodup fun _ h => thing_small h
theorem placed_len (r : Nat) : (placedN nd r).length ≤ (things nd).length :=
  (placed_ok r).1.length_le_of_subset (placed_ok r).2.1

/-! ### the counters -/
theorem cnt_zero {P : List Int} {t : Int} : cnt nd P t = 0 ↔ ∀ d ∈ deps nd t, d ∈ P := by
  simp [cnt, List.filter_eq_nil_iff]
theorem cnt_nil (t : Int) : cnt nd [] t = (deps nd t).length := by simp [cnt]
theorem cnt_snoc (G : Good nd) {P : List Int} {x t : Int} (hx : x ∉ P) : cnt nd P t = cnt nd (P ++ [x]) t + (if x ∈ deps nd t then 1 else 0) := by
  unfold cnt
  have key : ∀ l : List Int, l.Nodup → (l.filter fun d => decide (d ∉ P)).length = (l.filter fun d => decide (d ∉ P ++ [x])).length + (if x ∈ l then 1 else 0) := by
    intro l hl
    induction l with
    | nil => simp
    | cons a l ih =>
      obtain ⟨h1, h2⟩ := List.nodup_cons.mp hl
      have ih := ih h2
      by_cases hax : a = x
      · subst hax
        have e1 : decide (a ∉ P) = true := decide_eq_true hx
        have e2 : decide (a ∉ P ++ [a]) = false := decide_eq_false fun h => h (List.mem_append_right _ (List.mem_singleton.mpr rfl))
        rw [if_neg h1] at ih
        rw [List.filter_cons, List.filter_cons, e1, e2, if_pos rfl, if_neg (by decide), if_pos List.mem_cons_self, List.length_cons]
        omega
      · have e2 : decide (a ∉ P ++ [x]) = decide (a ∉ P) := by
          have : a ∈ P ++ [x] ↔ a ∈ P := by simp [hax]
          simp only [this]
        have e3 : (x ∈ a :: l) ↔ x ∈ l := ⟨fun h => (List.mem_cons.mp h).resolve_left fun e => hax e.symm, List.mem_cons_of_mem _⟩
        rw [List.filter_cons, List.filter_cons, e2]
        by_cases hxl : x ∈ l
        · rw [if_pos hxl] at ih
          rw [if_pos (e3.mpr hxl)]
          split <;> (try simp only [List.length_cons]) <;> omega
        · rw [if_neg hxl] at ih
          rw [if_neg fun h => hxl (e3.mp h)]
          split <;> (try simp only [List.length_cons]) <;> omega
  exact key _ (G.deps_nodup t)
theorem cnt_congr {P P' : List Int} (h : ∀ x, x ∈ P ↔ x ∈ P') (t : Int) : cnt nd P t = cnt nd P' t := by
  unfold cnt
  congr 1
  exact List.filter_congr fun d _ => by simp only [h d]
theorem cnt_pos {P : List Int} {x t : Int} (hx : x ∉ P) (hd : x ∈ deps nd t) : 0 < cnt nd P t := by
  apply Nat.pos_of_ne_zero
  intro e
  exact hx (cnt_zero.mp e x hd)

/-- the counter of t: the items of pre are done, of the item at hand the dependents dp -/
def decr (nd : Needs) (P pre dp : List Int) (t : Int) : Int := (cnt nd (P ++ pre) t : Int) - (if t ∈ dp then 1 else 0)
/-- the list of the newly ready ones then -/
def NR (nd : Needs) (P pre dp nr : List Int) : Prop := nr.Nodup ∧ ∀ t, t ∈ nr ↔ decr nd P pre dp t = 0 ∧ (t ∈ dp ∨ ∃ i ∈ pre, i ∈ deps nd t)

theorem NR.start (P : List Int) : NR nd P [] [] [] := ⟨List.nodup_nil, fun t => by simp⟩
theorem NR.turn {P pre dp nr : List Int} {x t : Int} (hx : x ∉ P ++ pre) (ht : x ∈ deps nd t) (hn : t ∉ dp) (h : NR nd P pre dp nr) :
    decr nd P pre dp t = (cnt nd (P ++ pre) t : Int) ∧ decr nd P pre (dp ++ [t]) t = (cnt nd (P ++ pre) t : Int) - 1 ∧ (∀ u, u ≠ t → decr nd P pre (dp ++ [t]) u = decr nd P pre dp u) ∧
      NR nd P pre (dp ++ [t]) (if decr nd P pre (dp ++ [t]) t = 0 then nr ++ [t] else nr) := by
  have hp := cnt_pos (nd := nd) hx ht
  have e1 : decr nd P pre dp t = (cnt nd (P ++ pre) t : Int) := by simp [decr, hn]
  have e2 : decr nd P pre (dp ++ [t]) t = (cnt nd (P ++ pre) t : Int) - 1 := by simp [decr]
  have e3 : ∀ u, u ≠ t → decr nd P pre (dp ++ [t]) u = decr nd P pre dp u := fun u hu => by simp [decr, hu]
  refine ⟨e1, e2, e3, ?_⟩
  have hold : t ∉ nr := fun hm => by
    have := ((h.2 t).mp hm).1
    omega
  split
  · rename_i h0
    refine ⟨List.nodup_append.mpr ⟨h.1, List.nodup_cons.mpr ⟨List.not_mem_nil, List.nodup_nil⟩, fun a ha b hb e => hold (by rw [← List.mem_singleton.mp hb, ← e]; exact ha)⟩, fun u => ?_⟩
    by_cases hu : u = t
    · subst hu
      exact ⟨fun _ => ⟨h0, .inl (by simp)⟩, fun _ => by simp⟩
    · rw [List.mem_append, h.2 u, e3 u hu]
      simp [hu]
  · rename_i h0
    refine ⟨h.1, fun u => ?_⟩
    by_cases hu : u = t
    · subst hu
      exact ⟨fun hm => absurd hm hold, fun hm => absurd hm.1 h0⟩
    · rw [h.2 u, e3 u hu]
      simp [hu]
theorem decr_item (G : Good nd) {P pre : List Int} {x : Int} (hx : x ∉ P ++ pre) (t : Int) : decr nd P pre (revOf nd x) t = decr nd P (pre ++ [x]) [] t := by
  have h := cnt_snoc G (t := t) hx
  simp only [decr, mem_revOf, List.not_mem_nil, if_false, ← List.append_assoc]
  split at h <;> rename_i c <;> simp only [c, if_true, if_false] <;> omega
theorem NR.item (G : Good nd) {P pre nr : List Int} {x : Int} (hx : x ∉ P ++ pre) (h : NR nd P pre (revOf nd x) nr) : NR nd P (pre ++ [x]) [] nr := by
  refine ⟨h.1, fun t => ?_⟩
  rw [h.2 t, decr_item G hx]
  simp only [mem_revOf, List.not_mem_nil, false_or, List.mem_append, List.mem_singleton]
  constructor
  · rintro ⟨a, b | ⟨i, b, c⟩⟩
    · exact ⟨a, x, .inr rfl, b⟩
    · exact ⟨a, i, .inl b, c⟩
  · rintro ⟨a, i, b | rfl, c⟩
    · exact ⟨a, .inr ⟨i, b, c⟩⟩
    · exact ⟨a, .inl c⟩
/-- the end: the next layer -/
theorem NR.done (G : Good nd) {r : Nat} {rd nr : List Int} (hp : rd.Perm (layer nd r)) (h : NR nd (placedN nd r) rd [] nr) :
    nr.Perm (layer nd (r + 1)) ∧ ∀ t, decr nd (placedN nd r) rd [] t = (cnt nd (placedN nd (r + 1)) t : Int) := by
  have e : ∀ t, cnt nd (placedN nd r ++ rd) t = cnt nd (placedN nd (r + 1)) t := fun t => cnt_congr (fun x => by
    show x ∈ _ ↔ x ∈ placedN nd r ++ layer nd r
    rw [List.mem_append, List.mem_append, hp.mem_iff]) t
  have e2 : ∀ t, decr nd (placedN nd r) rd [] t = (cnt nd (placedN nd (r + 1)) t : Int) := fun t => by simp [decr, e t]
  refine ⟨perm_of h.1 (ready_nodup _) fun t => ?_, e2⟩
  obtain ⟨-, -, hc⟩ := placed_ok (nd := nd) r
  rw [h.2 t, e2 t]
  show _ ↔ t ∈ readyOf nd (placedN nd (r + 1))
  rw [mem_ready, Int.natCast_eq_zero, cnt_zero]
  constructor
  · rintro ⟨a, b | ⟨i, hi, hd⟩⟩
    · exact absurd b List.not_mem_nil
    · have hi' : i ∈ readyOf nd (placedN nd r) := hp.mem_iff.mp hi
      refine ⟨item_thing G hd, fun ht => ?_, a⟩
      rcases List.mem_append.mp ht with ht | ht
      · exact (mem_ready.mp hi').2.1 (hc t ht i hd)
      · exact (mem_ready.mp hi').2.1 ((mem_ready.mp ht).2.2 i hd)
  · rintro ⟨a, b, c⟩
    refine ⟨c, .inr ?_⟩
    apply Classical.byContradiction
    intro hn
    refine b (List.mem_append_right _ (mem_ready.mpr ⟨a, fun hm => b (List.mem_append_left _ hm), fun d hd => ?_⟩))
    rcases List.mem_append.mp (c d hd) with h1 | h1
    · exact h1
    · exact absurd ⟨d, hp.mem_iff.mpr h1, hd⟩ hn
end
theorem not_mem_take {l : List Int} (hn : l.Nodup) {i : Nat} {t : Int} (h : l[i]? = some t) : t ∉ l.take i := by
  intro hm
  obtain ⟨j, hj, e⟩ := List.mem_iff_getElem.mp hm
  rw [List.length_take] at hj
  rw [List.getElem_take] at e
  obtain ⟨hi, e'⟩ := List.getElem?_eq_some_iff.mp h
  exact List.pairwise_iff_getElem.mp hn j i (by omega) hi (by omega) (e.trans e'.symm)
theorem take_snoc {l : List Int} {i : Nat} {t : Int} (h : l[i]? = some t) : l.take (i + 1) = l.take i ++ [t] := by
  rw [List.take_add_one, h]; rfl

/-! ### what the maker has when items below k are done, of item k the needs dp, and m items counted -/
section
variable {nd : Needs}
def seen (nd : Needs) (k t : Int) : Prop := ∃ j, 0 ≤ j ∧ j < k ∧ t ∈ deps nd j
def degKey (nd : Needs) (m k : Int) (dp : List Int) (t : Int) : Prop := (0 ≤ t ∧ t < m) ∨ ((nd.length : Int) ≤ t ∧ (seen nd k t ∨ t ∈ dp))
def revKey (nd : Needs) (m k : Int) (dp : List Int) (t : Int) : Prop := (0 ≤ t ∧ t < m) ∨ seen nd k t ∨ t ∈ dp
def rdyKey (nd : Needs) (m k : Int) (dp : List Int) (t : Int) : Prop := (0 ≤ t ∧ t < m ∧ deps nd t = []) ∨ ((nd.length : Int) ≤ t ∧ (seen nd k t ∨ t ∈ dp))
def revK (nd : Needs) (k : Int) (dp : List Int) (t : Int) : List Int := (up k.toNat).filter (fun j => decide (t ∈ deps nd j)) ++ (if t ∈ dp then [k] else [])

theorem seen_zero {t : Int} : ¬ seen nd 0 t := fun ⟨_, h1, h2, _⟩ => by omega
theorem seen_succ {k t : Int} (hk : 0 ≤ k) : seen nd (k + 1) t ↔ seen nd k t ∨ t ∈ deps nd k := by
  constructor
  · rintro ⟨j, h1, h2, h3⟩
    by_cases h : j = k
    · subst h; exact .inr h3
    · exact .inl ⟨j, h1, by omega, h3⟩
  · rintro (⟨j, h1, h2, h3⟩ | h)
    · exact ⟨j, h1, by omega, h3⟩
    · exact ⟨k, hk, by omega, h⟩
theorem keys_zero (t : Int) : ¬ degKey nd 0 0 [] t ∧ ¬ revKey nd 0 0 [] t ∧ ¬ rdyKey nd 0 0 [] t := by
  refine ⟨?_, ?_, ?_⟩
  · rintro (h | ⟨-, h | h⟩)
    · omega
    · exact seen_zero h
    · exact absurd h List.not_mem_nil
  · rintro (h | h | h)
    · omega
    · exact seen_zero h
    · exact absurd h List.not_mem_nil
  · rintro (h | ⟨-, h | h⟩)
    · omega
    · exact seen_zero h
    · exact absurd h List.not_mem_nil
/-- one more need, that has a row already -/
theorem inner_old {k d : Int} {dp : List Int} (hr : revKey nd (k + 1) k dp d) (hkn : k < (nd.length : Int)) (hd : d ∉ dp) :
    (∀ t, degKey nd (k + 1) k (dp ++ [d]) t ↔ degKey nd (k + 1) k dp t) ∧ (∀ t, rdyKey nd (k + 1) k (dp ++ [d]) t ↔ rdyKey nd (k + 1) k dp t) ∧ (∀ t, revKey nd (k + 1) k (dp ++ [d]) t ↔ revKey nd (k + 1) k dp t) := by
  have key : (nd.length : Int) ≤ d → seen nd k d := fun h => by
    rcases hr with h1 | h1 | h1
    · omega
    · exact h1
    · exact absurd h1 hd
  have e : ∀ t, (nd.length : Int) ≤ t → ((seen nd k t ∨ t ∈ dp ++ [d]) ↔ (seen nd k t ∨ t ∈ dp)) := fun t ht => by
    simp only [List.mem_append, List.mem_singleton]
    constructor
    · rintro (h | h | rfl)
      · exact .inl h
      · exact .inr h
      · exact .inl (key ht)
    · rintro (h | h)
      · exact .inl h
      · exact .inr (.inl h)
  refine ⟨fun t => or_congr Iff.rfl ⟨fun h => ⟨h.1, (e t h.1).mp h.2⟩, fun h => ⟨h.1, (e t h.1).mpr h.2⟩⟩, fun t => or_congr Iff.rfl ⟨fun h => ⟨h.1, (e t h.1).mp h.2⟩, fun h => ⟨h.1, (e t h.1).mpr h.2⟩⟩, fun t => ?_⟩
  simp only [revKey, List.mem_append, List.mem_singleton]
  constructor
  · rintro (h | h | h | rfl)
    · exact .inl h
    · exact .inr (.inl h)
    · exact .inr (.inr h)
    · exact hr
  · rintro (h | h | h)
    · exact .inl h
    · exact .inr (.inl h)
    · exact .inr (.inr (.inl h))
theorem inner_new {k d : Int} {dp : List Int} (hr : ¬ revKey nd (k + 1) k dp d) (hkn : k < (nd.length : Int)) :
    (∀ t, revKey nd (k + 1) k (dp ++ [d]) t ↔ revKey nd (k + 1) k dp t ∨ t = d) ∧
    (d < (nd.length : Int) → (∀ t, degKey nd (k + 1) k (dp ++ [d]) t ↔ degKey nd (k + 1) k dp t) ∧ (∀ t, rdyKey nd (k + 1) k (dp ++ [d]) t ↔ rdyKey nd (k + 1) k dp t)) ∧
    ((nd.length : Int) ≤ d → (∀ t, degKey nd (k + 1) k (dp ++ [d]) t ↔ degKey nd (k + 1) k dp t ∨ t = d) ∧ (∀ t, rdyKey nd (k + 1) k (dp ++ [d]) t ↔ rdyKey nd (k + 1) k dp t ∨ t = d) ∧ ¬ rdyKey nd (k + 1) k dp d) := by
  refine ⟨fun t => ?_, fun hd => ?_, fun hd => ⟨fun t => ?_, fun t => ?_, ?_⟩⟩
  · simp only [revKey, List.mem_append, List.mem_singleton]
    constructor
    · rintro (h | h | h | h)
      · exact .inl (.inl h)
      · exact .inl (.inr (.inl h))
      · exact .inl (.inr (.inr h))
      · exact .inr h
    · rintro ((h | h | h) | h)
      · exact .inl h
      · exact .inr (.inl h)
      · exact .inr (.inr (.inl h))
      · exact .inr (.inr (.inr h))
  · have e : ∀ t, (nd.length : Int) ≤ t → ((seen nd k t ∨ t ∈ dp ++ [d]) ↔ (seen nd k t ∨ t ∈ dp)) := fun t ht => by
      have hne : ¬ t = d := by omega
      simp only [List.mem_append, List.mem_singleton, hne, or_false]
    exact ⟨fun t => or_congr Iff.rfl ⟨fun h => ⟨h.1, (e t h.1).mp h.2⟩, fun h => ⟨h.1, (e t h.1).mpr h.2⟩⟩, fun t => or_congr Iff.rfl ⟨fun h => ⟨h.1, (e t h.1).mp h.2⟩, fun h => ⟨h.1, (e t h.1).mpr h.2⟩⟩⟩
  · simp only [degKey, List.mem_append, List.mem_singleton]
    constructor
    · rintro (h | ⟨h0, h | h | h⟩)
      · exact .inl (.inl h)
      · exact .inl (.inr ⟨h0, .inl h⟩)
      · exact .inl (.inr ⟨h0, .inr h⟩)
      · exact .inr h
    · rintro ((h | ⟨h0, h | h⟩) | rfl)
      · exact .inl h
      · exact .inr ⟨h0, .inl h⟩
      · exact .inr ⟨h0, .inr (.inl h)⟩
      · exact .inr ⟨hd, .inr (.inr rfl)⟩
  · simp only [rdyKey, List.mem_append, List.mem_singleton]
    constructor
    · rintro (h | ⟨h0, h | h | h⟩)
      · exact .inl (.inl h)
      · exact .inl (.inr ⟨h0, .inl h⟩)
      · exact .inl (.inr ⟨h0, .inr h⟩)
      · exact .inr h
    · rintro ((h | ⟨h0, h | h⟩) | rfl)
      · exact .inl h
      · exact .inr ⟨h0, .inl h⟩
      · exact .inr ⟨h0, .inr (.inl h)⟩
      · exact .inr ⟨hd, .inr (.inr rfl)⟩
  · rintro (⟨h0, h1, -⟩ | ⟨-, h⟩)
    · exact hr (.inl ⟨h0, h1⟩)
    · exact hr (.inr h)
theorem revK_same {k d t : Int} {dp : List Int} (h : t ≠ d) : revK nd k (dp ++ [d]) t = revK nd k dp t := by simp [revK, h]
theorem revK_at {k d : Int} {dp : List Int} (h : d ∉ dp) : revK nd k (dp ++ [d]) d = revK nd k dp d ++ [k] := by simp [revK, h]
theorem revK_nil {k d : Int} {dp : List Int} {m : Int} (hr : ¬ revKey nd m k dp d) : revK nd k dp d = [] := by
  have h1 : d ∉ dp := fun h => hr (.inr (.inr h))
  simp only [revK, if_neg h1, List.append_nil, List.filter_eq_nil_iff, decide_eq_true_eq]
  intro j hj hd
  have := mem_up.mp hj
  exact hr (.inr (.inl ⟨j, this.1, by omega, hd⟩))
/-- the end of an item -/
theorem item_end {k : Int} (hk : 0 ≤ k) (t : Int) : (degKey nd (k + 1) k (deps nd k) t ↔ degKey nd (k + 1) (k + 1) [] t) ∧ (revKey nd (k + 1) k (deps nd k) t ↔ revKey nd (k + 1) (k + 1) [] t) ∧
    (rdyKey nd (k + 1) k (deps nd k) t ↔ rdyKey nd (k + 1) (k + 1) [] t) ∧ revK nd k (deps nd k) t = revK nd (k + 1) [] t := by
  have hs := seen_succ (nd := nd) (t := t) hk
  refine ⟨?_, ?_, ?_, ?_⟩
  · simp only [degKey, List.not_mem_nil, or_false, hs]
  · simp only [revKey, List.not_mem_nil, or_false, hs]
  · simp only [rdyKey, List.not_mem_nil, or_false, hs]
  · have e : (k + 1).toNat = k.toNat + 1 := by omega
    have e2 : ((k.toNat : Nat) : Int) = k := by omega
    simp only [revK, e, up_succ, List.filter_append, e2, List.not_mem_nil, if_false, List.append_nil]
    congr 1
    by_cases h : t ∈ deps nd k <;> simp [h]
/-- the start of an item -/
theorem item_start {k : Int} (hk : 0 ≤ k) (hkn : k < (nd.length : Int)) : (∀ t, degKey nd (k + 1) k [] t ↔ degKey nd k k [] t ∨ t = k) ∧ (∀ t, revKey nd (k + 1) k [] t ↔ revKey nd k k [] t ∨ t = k) ∧
    (∀ t, rdyKey nd (k + 1) k [] t ↔ rdyKey nd k k [] t ∨ (t = k ∧ deps nd k = [])) ∧ ¬ rdyKey nd k k [] k := by
  have e : ∀ t, (0 ≤ t ∧ t < k + 1) ↔ (0 ≤ t ∧ t < k) ∨ t = k := fun t => by omega
  refine ⟨fun t => ?_, fun t => ?_, fun t => ?_, ?_⟩
  · simp only [degKey, e]
    constructor
    · rintro ((h | h) | h)
      · exact .inl (.inl h)
      · exact .inr h
      · exact .inl (.inr h)
    · rintro ((h | h) | h)
      · exact .inl (.inl h)
      · exact .inr h
      · exact .inl (.inr h)
  · simp only [revKey, e]
    constructor
    · rintro ((h | h) | h)
      · exact .inl (.inl h)
      · exact .inr h
      · exact .inl (.inr h)
    · rintro ((h | h) | h)
      · exact .inl (.inl h)
      · exact .inr h
      · exact .inl (.inr h)
  · simp only [rdyKey]
    constructor
    · rintro (⟨h0, h1, h2⟩ | h)
      · by_cases hc : t = k
        · subst hc; exact .inr ⟨rfl, h2⟩
        · exact .inl (.inl ⟨h0, by omega, h2⟩)
      · exact .inl (.inr h)
    · rintro ((⟨h0, h1, h2⟩ | h) | ⟨rfl, h2⟩)
      · exact .inl ⟨h0, by omega, h2⟩
      · exact .inr h
      · exact .inl ⟨hk, by omega, h2⟩
  · rintro (⟨_, h, _⟩ | ⟨h, _⟩) <;> omega
/-- the end -/
theorem init_end (G : Good nd) (t : Int) : (degKey nd nd.length nd.length [] t ↔ t ∈ things nd) ∧ (revKey nd nd.length nd.length [] t ↔ t ∈ things nd) ∧ (rdyKey nd nd.length nd.length [] t ↔ t ∈ layer nd 0) ∧
    revK nd nd.length [] t = revOf nd t := by
  have hs : seen nd nd.length t ↔ ∃ j, t ∈ deps nd j := ⟨fun ⟨j, _, _, h⟩ => ⟨j, h⟩, fun ⟨j, h⟩ => ⟨j, (deps_range h).1, (deps_range h).2, h⟩⟩
  have hth : t ∈ things nd ↔ (0 ≤ t ∧ t < (nd.length : Int)) ∨ seen nd nd.length t := by
    rw [mem_things G, hs]
    constructor
    · rintro (h | ⟨o, h⟩)
      · exact .inl h
      · by_cases hc : t = o
        · subst hc
          by_cases hr : 0 ≤ t ∧ t < (nd.length : Int)
          · exact .inl hr
          · rw [need_none hr] at h; exact absurd h List.not_mem_nil
        · exact .inr ⟨o, mem_deps.mpr ⟨h, hc⟩⟩
    · rintro (h | ⟨j, h⟩)
      · exact .inl h
      · exact .inr ⟨j, (mem_deps.mp h).1⟩
  have hsm : seen nd nd.length t → 0 ≤ t := fun h => by
    obtain ⟨j, h⟩ := hs.mp h
    exact (G.small j t (mem_deps.mp h).1).1
  have hlate : (nd.length : Int) ≤ t → deps nd t = [] := fun h => List.eq_nil_iff_forall_not_mem.mpr fun d hd => by
    have := deps_range hd
    omega
  refine ⟨?_, ?_, ?_, ?_⟩
  · rw [hth]
    simp only [degKey, List.not_mem_nil, or_false]
    constructor
    · rintro (h | ⟨_, h⟩)
      · exact .inl h
      · exact .inr h
    · rintro (h | h)
      · exact .inl h
      · by_cases hc : t < (nd.length : Int)
        · exact .inl ⟨hsm h, hc⟩
        · exact .inr ⟨by omega, h⟩
  · rw [hth]; simp only [revKey, List.not_mem_nil, or_false]
  · show _ ↔ t ∈ readyOf nd []
    rw [mem_ready, hth]
    simp only [rdyKey, List.not_mem_nil, or_false]
    constructor
    · rintro (⟨h0, h1, h2⟩ | ⟨h0, h1⟩)
      · exact ⟨.inl ⟨h0, h1⟩, fun h => h.elim, fun d hd => by rw [h2] at hd; exact absurd hd List.not_mem_nil⟩
      · exact ⟨.inr h1, fun h => h.elim, fun d hd => by rw [hlate h0] at hd; exact absurd hd List.not_mem_nil⟩
    · rintro ⟨h, -, h2⟩
      have hd : deps nd t = [] := List.eq_nil_iff_forall_not_mem.mpr fun d hd => h2 d hd
      rcases h with h | h
      · exact .inl ⟨h.1, h.2, hd⟩
      · by_cases hc : t < (nd.length : Int)
        · exact .inl ⟨hsm h, hc, hd⟩
        · exact .inr ⟨by omega, h⟩
  · simp [revK, revOf]
end
end Mine

namespace Mine

/-- kept but at these places -/
abbrev Kp (ls : List Addr) (h h' : Heap) : Prop := ∀ b o, b ∉ ls → h.get? b = some o → h'.get? b = some o
section
variable {ls : List Addr} {h h' h'' : Heap} {a : Addr}
theorem Kp.refl : Kp ls h h := fun _ _ _ e => e
theorem Kp.trans (x : Kp ls h h') (y : Kp ls h' h'') : Kp ls h h'' := fun b o n e => y b o n (x b o n e)
theorem Kp.but (s : Heap.SameBut a h h') (m : a ∈ ls) : Kp ls h h' := fun b o n e => s.extBut b o (fun q => n (q ▸ m)) e
theorem Kp.ext (k : Ext h h') : Kp ls h h' := fun b o _ e => k b o e
theorem Kp.at (x : Kp ls h h') (n : a ∉ ls) : At h h' a := fun o e => x a o n e
theorem Kp.mono {ls' : List Addr} (x : Kp ls h h') (k : ∀ b ∈ ls, b ∈ ls') : Kp ls' h h' := fun b o n e => x b o (fun m => n (k b m)) e
/-- a place that was free before counts for nothing -/
theorem Kp.fresh {b : Addr} (x : Kp (b :: ls) h h') (n : h.get? b = none) : Kp ls h h' := fun c o m e => x c o (fun q => by
  rcases List.mem_cons.mp q with rfl | q
  · rw [n] at e; cases e
  · exact m q) e
theorem get_ge {b : Addr} (hb : h.objs.size ≤ b) : h.get? b = none := by
  cases e : h.get? b with
  | none => rfl
  | some o => exact absurd (Heap.lt_size e) (Nat.not_lt.mpr hb)
end

/-! ## the object -/
def selfEs (hs : Int × Int × Int × Int) (t₁ t₂ t₃ t₄ t₅ : Tok) (inD rv rd : Addr) (rem : Int) : List DictEntry :=
  [⟨hs.1, .str "in_degree" t₁, .ref inD⟩, ⟨hs.2.1, .str "rev" t₂, .ref rv⟩, ⟨hs.2.2.1, .str "ready" t₃, .ref rd⟩, ⟨hs.2.2.2, .str "remaining" t₄, .int rem t₅⟩]
def SelfAt (h : Heap) (x dx inD rv rd : Addr) (rem : Int) : Prop :=
  ∃ hs t₁ t₂ t₃ t₄ t₅ n, h.get? x = some (instObj 43 dx) ∧ h.get? dx = some (W.dictOf (selfEs hs t₁ t₂ t₃ t₄ t₅ inD rv rd rem) n)

noncomputable abbrev nextEnv (w : World) (L : Addr) : Env := callEnv (fnAt w.params 40) L 40
noncomputable abbrev nextLoop (w : World) : Stmt := nthS (bodyAt w.params 40) 5
noncomputable abbrev nextInner (w : World) : Stmt := nthS (forBody (nextLoop w)) 0

section
variable {prog : Program} {w : World} {A : Around} {s : Shared} {nd : Needs} {L x dx inD rv rd nr : Addr} {rem : Int} {ks ks' : List Int} {P pre dp : List Int} {r : Nat}
abbrev nextLoc (x rd inD rv nr : Addr) : List (Str × Value) := [("new_ready", .ref nr), ("rev", .ref rv), ("in_degree", .ref inD), ("ready", .ref rd), ("self", .ref x)]
/-- between two turns of the loops -/
structure NJ (prog : Program) (w : World) (h₀ : Heap) (L inD nr : Addr) (nd : Needs) (ks P pre dp : List Int) (l : List (Str × Value)) (h : Heap) : Prop where
  kp : Kp [L, inD, nr] h₀ h
  deg : VD prog w h inD ks (fun t v => ∃ tk, v = .int (decr nd P pre dp t) tk)
  new : ∃ nl, IntL h nr nl ∧ NR nd P pre dp nl ∧ ∀ t ∈ nl, t ∈ ks
  loc : Loc h L l

theorem next_turn (_hA : A.handled = none) (hn : [L, inD, nr].Nodup) {xi t : Int} {tx tt : Tok} (hks : ks.length ≤ 8)
    (hx : xi ∉ P ++ pre) (ht : xi ∈ deps nd t) (hnt : t ∉ dp) (htk : t ∈ ks) 
    (J : NJ prog w s.heap L inD nr nd ks P pre dp (("dependent", .int t tt) :: ("item", .int xi tx) :: nextLoc x rd inD rv nr) s.heap) :
    wpAny (model prog w) A (execs (forBody (nextInner w)) (nextEnv w L))
      (fun f s' => f = .next ∧ Sh s s' ∧ NJ prog w s.heap L inD nr nd ks P pre (dp ++ [t]) (("item", .int xi tx) :: nextLoc x rd inD rv nr) s'.heap) Nev s := by
  obtain ⟨-, hdeg, ⟨nl, hnl, hNR, hnk⟩, hloc⟩ := J
  obtain ⟨e1, e2, e3, hNR'⟩ := hNR.turn hx ht hnt
  simp only [List.nodup_cons, List.mem_cons, List.not_mem_nil, or_false, not_or, not_false_eq_true, List.nodup_nil, and_true] at hn
  obtain ⟨⟨hLi, hLn⟩, hin⟩ := hn
  show wpAny _ _ (execs [_, _, _] _) _ _ _
  refine wpAny_execs_cons (wpAny_Assign_Name (wpAny_BinOp (wpAny_Subscript_Name slot_dict_getitem.lookup (nmL hloc (by rfl) (nmL hloc (by rfl) ⟨hdeg.typeIs, ?_⟩)))))
  refine vd_get hdeg htk ?_
  rintro _ ⟨tk, rfl⟩
  dsimp only
  refine wpAny_Constant_int (sub_int (stL hloc fun h1 hloc1 hs1 => ?_))
  dsimp only at hloc1 hs1 ⊢
  have hdeg1 := hdeg.at (at_but hs1 (Ne.symm hLi))
  have hnl1 := hnl.at (at_but hs1 (Ne.symm hLn))
  rw [e1] at hloc1
  -- in_degree[dependent] = new_deg
  refine wpAny_execs_cons (wpAny_Assign_Subscript (nmL hloc1 (by rfl) (nmL hloc1 (by rfl) (nmL hloc1 (by rfl) ?_))))
  refine vd_set (F' := fun u v => ∃ tk, v = .int (decr nd P pre (dp ++ [t]) u) tk) hdeg1 (by omega) ⟨_, by rw [e2]⟩ (fun j _ hjt u hu => by rw [e3 j hjt]; exact hu) fun h2 hdeg2 hs2 => ?_
  rw [if_pos htk] at hdeg2
  dsimp only at hs2 hdeg2 ⊢
  have hloc2 := hloc1.at (at_but hs2 hLi)
  have hnl2 := hnl1.at (at_but hs2 (Ne.symm hin))
  have kp2 : Kp [L, inD, nr] s.heap h2 := (Kp.but hs1 (.head _)).trans (Kp.but hs2 (.tail _ (.head _)))
  -- if new_deg == 0
  refine wpAny_execs_cons (wpAny_If (wpAny_isTrue_Compare1 (nmL hloc2 (by rfl) (wpAny_Constant_int (eq_int (wpAny_truthy_bool ?_))))))
  dsimp only
  have hNJ : ∀ {h3 : Heap} {nl' : List Int}, Kp [L, inD, nr] s.heap h3 → VD prog w h3 inD ks (fun u v => ∃ tk, v = .int (decr nd P pre (dp ++ [t]) u) tk) → IntL h3 nr nl' → NR nd P pre (dp ++ [t]) nl' → (∀ u ∈ nl', u ∈ ks) →
      Loc h3 L (("new_deg", .int ((cnt nd (P ++ pre) t : Int) - 1) (s.toks + 1 + 1)) :: ("dependent", .int t tt) :: ("item", .int xi tx) :: nextLoc x rd inD rv nr) →
      NJ prog w s.heap L inD nr nd ks P pre (dp ++ [t]) (("item", .int xi tx) :: nextLoc x rd inD rv nr) h3 := fun a b c d e f =>
    ⟨a, b, ⟨_, c, d, e⟩, loc_re f (by (repeat' (first | exact List.forall_mem_nil _ | refine List.forall_mem_cons.mpr ⟨rfl, ?_⟩)))⟩
  by_cases h0 : (cnt nd (P ++ pre) t : Int) - 1 = 0
  · rw [if_pos (by simpa using h0)]
    rw [e2, if_pos h0] at hNR'
    obtain ⟨its, hpl⟩ := hnl2.plainL
    have hlen : nl.length ≤ 8 := Nat.le_trans (hNR.1.length_le_of_subset hnk) hks
    refine wpAny_execs_cons (wpAny_Expr_any (wpAny_Call_append (by rfl) (by rfl) (by rfl) (by rfl) (nmL hloc2 (by rfl) ⟨_, _, rfl, hpl, nmL hloc2 (by rfl) (app_int hnl2 (by omega) fun h3 hnl3 hs3 => ?_)⟩)))
    refine wpAny_execs_nil (wpAny_execs_nil ⟨rfl, ⟨_, _, rfl⟩, hNJ (kp2.trans (Kp.but hs3 (.tail _ (.tail _ (.head _))))) (hdeg2.at (at_but hs3 hin)) hnl3 hNR' (fun u hu => ?_) (hloc2.at (at_but hs3 hLn))⟩)
    rcases List.mem_append.mp hu with hu | hu
    · exact hnk u hu
    · rw [List.mem_singleton.mp hu]; exact htk
  · rw [if_neg (by simpa using h0)]
    rw [e2, if_neg h0] at hNR'
    exact wpAny_execs_nil (wpAny_execs_nil ⟨rfl, ⟨_, _, rfl⟩, hNJ kp2 hdeg2 hnl2 hNR' hnk hloc2⟩)
theorem NJ.stab {h₀ h h' : Heap} {l : List (Str × Value)} {I : Addr} (J : NJ prog w h₀ L inD nr nd ks P pre dp l h) (k : Kp [I] h h') (h0 : h₀.get? I = none) (hI : I ≠ L ∧ I ≠ inD ∧ I ≠ nr) :
    NJ prog w h₀ L inD nr nd ks P pre dp l h' := by
  have n : ∀ {a}, I ≠ a → a ∉ [I] := fun e m => e (List.mem_singleton.mp m).symm
  obtain ⟨a, b, ⟨nl, c, d⟩, e⟩ := J
  refine ⟨fun c o m e => k c o (fun q => ?_) (a c o m e), b.at (k.at (n hI.2.1)), ⟨nl, c.at (k.at (n hI.2.2)), d⟩, e.at (k.at (n hI.1))⟩
  rw [List.mem_singleton.mp q, h0] at e; cases e
theorem NJ.base {h₀ h₁ h : Heap} {l : List (Str × Value)} (J : NJ prog w h₁ L inD nr nd ks P pre dp l h) (k : Kp [L, inD, nr] h₀ h₁) : NJ prog w h₀ L inD nr nd ks P pre dp l h :=
  ⟨k.trans J.kp, J.deg, J.new, J.loc⟩
theorem NJ.self {h₁ h : Heap} {l : List (Str × Value)} (J : NJ prog w h₁ L inD nr nd ks P pre dp l h) : NJ prog w h L inD nr nd ks P pre dp l h := ⟨Kp.refl, J.deg, J.new, J.loc⟩

theorem next_item (hA : A.handled = none) (hn : [L, inD, nr].Nodup) {xi : Int} {tx : Tok} (hks : ks.length ≤ 8) (hkt : ∀ t, xi ∈ deps nd t → t ∈ ks)
    (hx : xi ∉ P ++ pre) (J : NJ prog w s.heap L inD nr nd ks P pre [] (("item", .int xi tx) :: nextLoc x rd inD rv nr) s.heap) (hxk : xi ∈ ks')
    (RV : VD prog w s.heap rv ks' (fun t v => ∃ a, v = .ref a ∧ a ∉ [L, inD, nr] ∧ IntL s.heap a (revOf nd t))) :
    wpAny (model prog w) A (execs (forBody (nextLoop w)) (nextEnv w L))
      (fun f s' => f = .next ∧ Sh s s' ∧ NJ prog w s.heap L inD nr nd ks P pre (revOf nd xi) (nextLoc x rd inD rv nr) s'.heap) Nev s := by
  show wpAny _ _ (execs [_] _) _ _ _
  refine wpAny_execs_cons (wpAny_For (wpAny_Subscript_Name slot_dict_getitem.lookup (nmL J.loc (by rfl) (nmL J.loc (by rfl) ⟨RV.typeIs, ?_⟩))))
  refine vd_get RV hxk ?_
  rintro _ ⟨a, rfl, ha, vs, hpl, hints⟩
  refine wpAny_pyIter_list hpl.isList ?_
  dsimp only
  have haI : a ≠ s.heap.objs.size := Nat.ne_of_lt (IntL.lt ⟨vs, hpl, hints⟩)
  have hI : s.heap.objs.size ≠ L ∧ s.heap.objs.size ≠ inD ∧ s.heap.objs.size ≠ nr :=
    ⟨Nat.ne_of_gt J.loc.lt, Nat.ne_of_gt J.deg.lt, let ⟨_, q, _⟩ := J.new; Nat.ne_of_gt q.lt⟩
  have hnd : (revOf nd xi).Nodup := revOf_nodup xi
  have W := Walks.list (prog := prog) (w := w) hA s.heap.objs.size a haI vs.toArray
  refine for_walk W (fun i h => NJ prog w s.heap L inD nr nd ks P pre ((revOf nd xi).take i) (("item", .int xi tx) :: nextLoc x rd inD rv nr) h)
    ⟨⟨_, Heap.get?_push_size _ rfl, rfl, rfl⟩, (hpl.isList).push _⟩ ?_ (fun i h h' k J => J.stab k (get_ge (Nat.le_refl _)) hI) ?_ ?_
  · exact ⟨Kp.ext (Ext.push _), J.deg.at (at_ext (Ext.push _)), let ⟨nl, q, r⟩ := J.new; ⟨nl, q.at (at_ext (Ext.push _)), r⟩, J.loc.at (at_ext (Ext.push _))⟩
  · intro i v s₁ hi hv hsh J₁ _
    obtain ⟨t, tt, rfl, ht⟩ := hints.at i v (by simpa using hv)
    have htm : xi ∈ deps nd t := mem_revOf.mp (List.mem_of_getElem? ht)
    refine wpAny_assign_Name (stL J₁.loc fun h2 hloc2 hs2 => ?_)
    have hn' := hn
    simp only [List.nodup_cons, List.mem_cons, List.not_mem_nil, or_false, not_or, not_false_eq_true, List.nodup_nil, and_true] at hn'
    obtain ⟨⟨hLi, hLn⟩, hin⟩ := hn'
    refine wpAny_mono (next_turn (s := { s₁ with heap := h2, toks := s₁.toks + 1 }) (x := x) (rd := rd) (rv := rv) hA hn hks hx htm (not_mem_take hnd ht) (hkt t htm)
      ⟨Kp.refl, J₁.deg.at (at_but hs2 (Ne.symm hLi)), let ⟨nl, q, r⟩ := J₁.new; ⟨nl, q.at (at_but hs2 (Ne.symm hLn)), r⟩, hloc2⟩) (fun f s₃ h₃ => ?_) fun _ _ e => e
    obtain ⟨hf, hsh₃, J₃⟩ := h₃
    have kp : Kp [L, inD, nr] s₁.heap s₃.heap := (Kp.but hs2 (.head _)).trans J₃.kp
    refine ⟨.inl hf, Sh.trans ⟨_, _, rfl⟩ hsh₃, ?_, fun b hb o e => kp b o (fun m => ?_) e⟩
    · rw [take_snoc ht]
      exact ⟨J₁.kp.trans kp, J₃.deg, J₃.new, J₃.loc⟩
    · rcases List.mem_cons.mp hb with rfl | hb
      · simp only [List.mem_cons, List.not_mem_nil, or_false] at m
        rcases m with e | e | e
        · exact hI.1 e
        · exact hI.2.1 e
        · exact hI.2.2 e
      · rw [List.mem_singleton.mp hb] at m; exact ha m
  · intro s' hsh J'
    have e : (revOf nd xi).take vs.toArray.size = revOf nd xi := List.take_of_length_le (by rw [List.size_toArray, hints.length]; exact Nat.le_refl _)
    rw [e] at J'
    exact wpAny_execs_nil ⟨rfl, Sh.trans ⟨_, _, rfl⟩ hsh, ⟨J'.kp, J'.deg, J'.new, loc_re J'.loc (by (repeat' (first | exact List.forall_mem_nil _ | refine List.forall_mem_cons.mpr ⟨rfl, ?_⟩)))⟩⟩
theorem next_loop (hA : A.handled = none) (hn : [L, inD, nr].Nodup) (G : Good nd) {rdl : List Int} (hks : ks.length ≤ 8) (hkt : ∀ t, t ∈ things nd → t ∈ ks)
    (hrd : IntL s.heap rd rdl) (hrdn : rd ∉ [L, inD, nr]) (hnd : rdl.Nodup) (hP : ∀ y ∈ rdl, y ∉ P) (hk' : ∀ y ∈ rdl, y ∈ ks')
    (J : NJ prog w s.heap L inD nr nd ks P [] [] (nextLoc x rd inD rv nr) s.heap)
    (hrv : rv ∉ [L, inD, nr]) (RV : VD prog w s.heap rv ks' (fun t v => ∃ a, v = .ref a ∧ a ∉ [L, inD, nr] ∧ IntL s.heap a (revOf nd t))) :
    wpAny (model prog w) A (exec (nextLoop w) (nextEnv w L))
      (fun f s' => f = .next ∧ Sh s s' ∧ NJ prog w s.heap L inD nr nd ks P rdl [] (nextLoc x rd inD rv nr) s'.heap) Nev s := by
  show wpAny _ _ (exec (.For _ _ _ _ _) _) _ _ _
  refine wpAny_For (nmL J.loc (by rfl) ?_)
  obtain ⟨vs, hpl, hints⟩ := id hrd
  refine wpAny_pyIter_list hpl.isList ?_
  have haI : rd ≠ s.heap.objs.size := Nat.ne_of_lt hrd.lt
  have hI : s.heap.objs.size ≠ L ∧ s.heap.objs.size ≠ inD ∧ s.heap.objs.size ≠ nr :=
    ⟨Nat.ne_of_gt J.loc.lt, Nat.ne_of_gt J.deg.lt, let ⟨_, q, _⟩ := J.new; Nat.ne_of_gt q.lt⟩
  have W := Walks.list (prog := prog) (w := w) hA s.heap.objs.size rd haI vs.toArray
  refine for_walk W (fun i h => NJ prog w s.heap L inD nr nd ks P (rdl.take i) [] (nextLoc x rd inD rv nr) h)
    ⟨⟨_, Heap.get?_push_size _ rfl, rfl, rfl⟩, (hpl.isList).push _⟩ ?_ (fun i h h' k J => J.stab k (get_ge (Nat.le_refl _)) hI) ?_ ?_
  · exact ⟨Kp.ext (Ext.push _), J.deg.at (at_ext (Ext.push _)), let ⟨nl, q, r⟩ := J.new; ⟨nl, q.at (at_ext (Ext.push _)), r⟩, J.loc.at (at_ext (Ext.push _))⟩
  · intro i v s₁ hi hv hsh J₁ _
    obtain ⟨xi, tx, rfl, ht⟩ := hints.at i v (by simpa using hv)
    have hxm : xi ∈ rdl := List.mem_of_getElem? ht
    have hx : xi ∉ P ++ rdl.take i := fun m => by
      rcases List.mem_append.mp m with m | m
      · exact hP xi hxm m
      · exact not_mem_take hnd ht m
    refine wpAny_assign_Name (stL J₁.loc fun h2 hloc2 hs2 => ?_)
    have hn' := hn
    simp only [List.nodup_cons, List.mem_cons, List.not_mem_nil, or_false, not_or, not_false_eq_true, List.nodup_nil, and_true] at hn'
    obtain ⟨⟨hLi, hLn⟩, hin⟩ := hn'
    have kp2 : Kp [L, inD, nr] s.heap h2 := J₁.kp.trans (Kp.but hs2 (.head _))
    refine wpAny_mono (next_item (s := { s₁ with heap := h2, toks := s₁.toks + 1 }) (x := x) (rd := rd) (rv := rv) (ks' := ks') hA hn hks (fun t htm => hkt t (item_thing G htm)) hx
      ⟨Kp.refl, J₁.deg.at (at_but hs2 (Ne.symm hLi)), let ⟨nl, q, r⟩ := J₁.new; ⟨nl, q.at (at_but hs2 (Ne.symm hLn)), r⟩, hloc2⟩ (hk' xi hxm)
      ((RV.at (kp2.at hrv)).mono fun _ _ _ ⟨a, e, m, q⟩ => ⟨a, e, m, q.at (kp2.at m)⟩)) (fun f s₃ h₃ => ?_) fun _ _ e => e
    obtain ⟨hf, hsh₃, J₃⟩ := h₃
    have kp : Kp [L, inD, nr] s₁.heap s₃.heap := (Kp.but hs2 (.head _)).trans J₃.kp
    refine ⟨.inl hf, Sh.trans ⟨_, _, rfl⟩ hsh₃, ?_, fun b hb o e => kp b o (fun m => ?_) e⟩
    · rw [take_snoc ht]
      obtain ⟨nl, q, r, r'⟩ := J₃.new
      exact ⟨J₁.kp.trans kp, J₃.deg.mono fun t _ v ⟨tk, e⟩ => ⟨tk, by rw [← decr_item G hx]; exact e⟩, ⟨nl, q, r.item G hx, r'⟩, J₃.loc⟩
    · rcases List.mem_cons.mp hb with rfl | hb
      · simp only [List.mem_cons, List.not_mem_nil, or_false] at m
        rcases m with e | e | e
        · exact hI.1 e
        · exact hI.2.1 e
        · exact hI.2.2 e
      · rw [List.mem_singleton.mp hb] at m; exact hrdn m
  · intro s' hsh J'
    have e : rdl.take vs.toArray.size = rdl := List.take_of_length_le (by rw [List.size_toArray, hints.length]; exact Nat.le_refl _)
    rw [e] at J'
    exact ⟨rfl, Sh.trans ⟨_, _, rfl⟩ hsh, J'⟩

theorem next_body (hA : A.handled = none) (G : Good nd) (hks : ks.length ≤ 8) {h₀ : Heap} (GL : Gl w h₀) (k : Ext h₀ s.heap) {rdl : List Int} (hkt : ∀ t, t ∈ ks ↔ t ∈ things nd) (hkt' : ∀ t, t ∈ ks' ↔ t ∈ things nd)
    (hL : Loc s.heap h₀.objs.size [("self", .ref x)]) (S : SelfAt h₀ x dx inD rv rd rem) (hrd : IntL h₀ rd rdl) (hperm : rdl.Perm (layer nd r)) (hne : rdl ≠ [])
    (D : VD prog w h₀ inD ks (fun t v => ∃ tk, v = .int (cnt nd (placedN nd r) t) tk))
    (RV : VD prog w h₀ rv ks' (fun t v => ∃ a, v = .ref a ∧ IntL h₀ a (revOf nd t))) (hid : inD ≠ rv ∧ inD ≠ dx) (hlo : @LE.le Nat _ 60 inD ∧ @LE.le Nat _ 60 dx ∧ @LE.le Nat _ 60 h₀.objs.size) :
    wpAny (model prog w) A (execs (bodyAt w.params 40) (nextEnv w h₀.objs.size))
      (fun f s' => f = .ret (.ref rd) ∧ Sh s s' ∧ Kp [inD, dx] h₀ s'.heap ∧ ∃ rd' nl, h₀.objs.size ≤ rd' ∧ SelfAt s'.heap x dx inD rv rd' (rem - nl.length) ∧ IntL s'.heap rd' nl ∧ nl.Perm (layer nd (r + 1)) ∧
        VD prog w s'.heap inD ks (fun t v => ∃ tk, v = .int (cnt nd (placedN nd (r + 1)) t) tk)) Nev s := by
  obtain ⟨hs, t₁, t₂, t₃, t₄, t₅, n, h1, h2⟩ := S
  have hxL := glt h1
  have hdL := glt h2
  have hiL := D.lt
  have hvL := RV.lt
  have hrL := hrd.lt
  obtain ⟨L, hLe⟩ : ∃ L : Nat, L = h₀.objs.size := ⟨_, rfl⟩
  rw [← hLe] at hL hxL hdL hiL hvL hrL ⊢
  show wpAny _ _ (execs (_ :: _ :: _ :: _ :: _ :: nextLoop w :: _) _) _ _ _
  -- ready = self.ready
  refine wpAny_execs_cons (wpAny_Assign_Name (Attribute_name (nmL hL (by rfl) (ga (GL.keeps k) (k _ _ h1) (k _ _ h2) (by rfl) (stL hL fun ha hla hsa => ?_)))))
  dsimp only at hla hsa ⊢
  have kpa : Kp [L] h₀ ha := (Kp.ext k).trans (Kp.but hsa (.head _))
  have nL : ∀ {b : Nat}, b < L → b ∉ [L] := fun hb m => Nat.ne_of_lt hb (List.mem_singleton.mp m)
  have ka : Ext h₀ ha := fun b o e => kpa b o (nL (hLe ▸ Heap.lt_size e)) e
  -- if not ready
  obtain ⟨vs, hpl, hints⟩ := hrd.at (at_ext ka)
  have hvs : vs ≠ [] := fun e => by subst e; cases hints; exact hne rfl
  have hvl : vs.length ≤ 8 := by rw [hints.length]; exact Nat.le_trans (Nat.le_of_eq hperm.length_eq) (Nat.le_trans ((ready_nodup _).length_le_of_subset fun y hy => (mem_ready.mp hy).1) things_len)
  refine wpAny_execs_cons (wpAny_If (isTrue_not (wpAny_isTrue_value (nmL hla (by rfl) (wpAny_truthy_list hpl.isList (by rw [List.size_toArray]; omega) ?_)))))
  have hem : vs.toArray.isEmpty = false := by cases vs with | nil => exact absurd rfl hvs | cons a l => rfl
  rw [hem]
  refine wpAny_execs_nil ?_
  dsimp only
  -- in_degree = self.in_degree; rev = self.rev
  refine wpAny_execs_cons (wpAny_Assign_Name (Attribute_name (nmL hla (by rfl) (ga (GL.keeps ka) (ka _ _ h1) (ka _ _ h2) (by rfl) (stL hla fun hb hlb hsb => ?_)))))
  dsimp only at hlb hsb ⊢
  have kpb : Kp [L] h₀ hb := kpa.trans (Kp.but hsb (.head _))
  have kb : Ext h₀ hb := fun b o e => kpb b o (nL (hLe ▸ Heap.lt_size e)) e
  refine wpAny_execs_cons (wpAny_Assign_Name (Attribute_name (nmL hlb (by rfl) (ga (GL.keeps kb) (kb _ _ h1) (kb _ _ h2) (by rfl) (stL hlb fun hc hlc hsc => ?_)))))
  dsimp only at hlc hsc ⊢
  have kpc : Kp [L] h₀ hc := kpb.trans (Kp.but hsc (.head _))
  -- new_ready = []
  refine wpAny_execs_cons (wpAny_Assign_Name (new_nil fun hd hnr _ kd hdsz => stL (hlc.at (at_ext kd)) fun he hle hse => ?_))
  dsimp only at hle hse hnr hdsz ⊢
  have hnrL : @LT.lt Nat _ L hc.objs.size := hlc.lt
  obtain ⟨nr, hnre⟩ : ∃ nr : Nat, nr = hc.objs.size := ⟨_, rfl⟩
  rw [← hnre] at hnr hle hnrL
  have kpe : Kp [L] h₀ he := (kpc.trans (Kp.ext kd)).trans (Kp.but hse (.head _))
  have ke : Ext h₀ he := fun b o e => kpe b o (nL (hLe ▸ Heap.lt_size e)) e
  have hn : [L, inD, nr].Nodup := by
    simp only [List.nodup_cons, List.mem_cons, List.not_mem_nil, or_false, not_or, not_false_eq_true, List.nodup_nil, and_true]
    omega
  have out : ∀ {b : Nat}, b < L → b ≠ inD → b ∉ [L, inD, nr] := fun hb hi m => by
    simp only [List.mem_cons, List.not_mem_nil, or_false] at m
    omega
  -- the loop
  refine wpAny_execs_cons (wpAny_mono (next_loop (x := x) (rd := rd) (rv := rv) (P := placedN nd r) (ks := ks) (ks' := ks') (rdl := rdl) (nd := nd) (nr := nr) hA hn G hks (fun t => (hkt t).mpr) (hrd.at (at_ext ke)) (out hrL (list_ne_dict hrd D))
    (hperm.nodup_iff.mpr (ready_nodup _)) (fun y hy => (mem_ready.mp (hperm.mem_iff.mp hy)).2.1) (fun y hy => (hkt' y).mpr (mem_ready.mp (hperm.mem_iff.mp hy)).1)
    ⟨Kp.refl, (D.at (at_ext ke)).mono fun t _ v ⟨tk, e⟩ => ⟨tk, by rw [e]; simp [decr]⟩, ⟨[], hnr.at (at_but hse (Nat.ne_of_gt hnrL)), NR.start _, fun _ h => absurd h List.not_mem_nil⟩, hle⟩ (out hvL hid.1.symm)
    ((RV.at (at_ext ke)).mono fun t _ v ⟨a, e, q⟩ => ⟨a, e, out (hLe ▸ q.lt) (list_ne_dict q D), q.at (at_ext ke)⟩)) (fun f s₅ h₅ => ?_) fun _ _ e => e)
  obtain ⟨rfl, ⟨h5, tk5, rfl⟩, J⟩ := h₅
  dsimp only at J ⊢
  obtain ⟨nl, hnl, hNR, hnk⟩ := J.new
  obtain ⟨hnp, hcnt⟩ := hNR.done G hperm
  have hxd := inst_ne_dictOf h1 h2
  have hxi := inst_ne_dict h1 D
  have g1 := J.kp.at (out hxL hxi) _ (ke _ _ h1)
  have g2 := J.kp.at (out hdL hid.2.symm) _ (ke _ _ h2)
  have G5 : Gl w h5 := GL.low fun b o hb e => J.kp b o (fun m => by simp only [List.mem_cons, List.not_mem_nil, or_false] at m; rcases m with rfl | rfl | rfl <;> omega) (ke _ _ e)
  have hnlen : nl.length ≤ 8 := by rw [hnp.length_eq]; exact Nat.le_trans ((ready_nodup _).length_le_of_subset fun y hy => (mem_ready.mp hy).1) things_len
  -- self.remaining -= len(new_ready)
  refine wpAny_execs_cons (wpAny_AugAssign_AttributeAny (nmL J.loc (by rfl) (ga G5 g1 g2 (by rfl) (wpAny_Call_NameR (nmB G5 boot_len (PyProof.Rows.callWith_builtin1 (Calls.spliced_cons (nmL J.loc (by rfl) (Calls.spliced_nil ?_)))))))))
  obtain ⟨us, hup, hui⟩ := id hnl
  refine Calls.call_len_list hup.isList (by rw [List.size_toArray, hui.length]; omega) (isub_int ?_)
  dsimp only
  have hus : (us.toArray.size : Int) = nl.length := by rw [List.size_toArray, hui.length]
  rw [hus]
  refine sa G5 J.loc (by show @Ne Nat L dx; omega) g1 g2 (by rfl) (fun _ _ => by exact Nat.le_of_ble_eq_true rfl) fun h6 l6 g6 k6 => ?_
  dsimp only at g6 k6 ⊢
  have g6' : h6.get? dx = some (W.dictOf (selfEs hs t₁ t₂ t₃ t₄ (tk5 + 1 + 1 + 1) inD rv rd (rem - nl.length)) n) := g6
  have nLd : @Ne Nat L dx := by omega
  have nxL : @Ne Nat x L := by omega
  have G6 : Gl w h6 := G5.low fun b o hb e => k6 b o (by show @Ne Nat b L; omega) (by show @Ne Nat b dx; omega) e
  have g61 := k6 _ _ nxL hxd g1
  -- self.ready = new_ready
  refine wpAny_execs_cons (plainObj_wpAny_Assign_Attribute (nmL l6 (by rfl) (nmL l6 (by rfl) (sa G6 l6 nLd g61 g6' (by rfl) (fun _ _ => by exact Nat.le_of_ble_eq_true rfl) fun h7 l7 g7 k7 => ?_))))
  dsimp only at g7 k7 ⊢
  have g7' : h7.get? dx = some (W.dictOf (selfEs hs t₁ t₂ t₃ t₄ (tk5 + 1 + 1 + 1) inD rv nr (rem - nl.length)) n) := g7
  have g71 := k7 _ _ nxL hxd g61
  -- return ready
  refine wpAny_execs_cons (wpAny_Return_some (nmL l7 (by rfl) ?_))
  have nrL : @Ne Nat nr L := by omega
  have nrd : @Ne Nat nr dx := by omega
  have niL : @Ne Nat inD L := by omega
  have k57 : ∀ (b : Nat) o, b ≠ L → b ≠ dx → h5.get? b = some o → h7.get? b = some o := fun b o a c e => k7 b o a c (k6 b o a c e)
  refine ⟨rfl, ⟨_, _, rfl⟩, fun b o m e => ?_, nr, nl, by omega, ⟨hs, t₁, t₂, t₃, t₄, _, n, g71, g7'⟩, hnl.at fun o e => k57 _ o nrL nrd e, hnp, (J.deg.at fun o e => k57 _ o niL hid.2 e).mono fun t _ v ⟨tk, e⟩ => ⟨tk, by rw [e, hcnt t]⟩⟩
  have hb := glt e
  simp only [List.mem_cons, List.not_mem_nil, or_false, not_or] at m
  refine k57 b o (by show @Ne Nat b L; omega) m.2 (J.kp b o (out (by omega) m.1) (ke _ _ e))
end
end Mine

namespace Mine

section
variable {prog : Program} {w : World} {A : Around} {R : Result → Shared → Prop} {s : Shared} {elts : List Expr} {x1 : Nat} {pt : Pos} {body : List Stmt} {env : Env} {it d : Addr} {kvs : List (Int × Value)} {ep : Nat}
/-- a loop over a dict's items -/
theorem for_items (hA : A.handled = none) (hdi : @Ne Nat d it) (hit : IsItemIter s.heap it d 0 kvs.length ep .none .none) (hm : s.heap.DictAt (PySem.intKind prog w) d kvs ep)
    (J : Nat → Heap → Prop) (hj : J 0 s.heap) (stab : ∀ i h h', Kp [it] h h' → J i h → J i h')
    (hel : (assignEach elts env).length = 2) (hno : List.findIdx? (fun x => x.1) (assignEach elts env) = none)
    (step : ∀ i k t v (s₁ : Shared), kvs[i]? = some (k, v) → Sh s s₁ → J i s₁.heap → (∃ ok ov, IsItemIter s₁.heap it d (i + 1) kvs.length ep ok ov) → s₁.heap.DictAt (PySem.intKind prog w) d kvs ep →
      wpAny (model prog w) A (assignInOrder ((assignEach elts env).map (·.2)) [.int k t, v]) (fun _ s₂ => wpAny (model prog w) A (execs body env)
        (fun f s₃ => f = .next ∧ Sh s₁ s₃ ∧ J (i + 1) s₃.heap ∧ At s₁.heap s₃.heap it ∧ At s₁.heap s₃.heap d) Nev s₂) Nev s₁)
    (done : ∀ s', Sh s s' → J kvs.length s'.heap → R (.ok .next) s') :
    codeAny (model prog w) A (.forLoop (.Tuple elts x1 pt) (.ref it) body [] env) R s := by
  refine codeAny_forLoop_any (fun n s' => ∃ i ok ov, Sh s s' ∧ IsItemIter s'.heap it d i kvs.length ep ok ov ∧ s'.heap.DictAt (PySem.intKind prog w) d kvs ep ∧ J i s'.heap ∧ i ≤ kvs.length ∧ n = kvs.length + 1 - i) ?_ (kvs.length + 1)
    ⟨0, .none, .none, Sh.refl s, hit, hm, hj, Nat.zero_le _, rfl⟩
  rintro n s' ⟨i, ok, ov, hsh, hit', hm', hJ, hi, rfl⟩
  cases hv : kvs[i]? with
  | none =>
    have hsz : i = kvs.length := Nat.le_antisymm hi (by simpa using hv)
    subst hsz
    exact wpAny_noRaise (wpAny_pyNext_items_end hA hit' hm' hv fun h₁ he₁ => wpAny_execs_nil (done _ (hsh.trans ⟨_, _, rfl⟩) (stab _ _ _ (fun b o n e => he₁ b o (fun q => n (by rw [q]; exact .head _)) e) hJ)))
  | some kv =>
    obtain ⟨k, v⟩ := kv
    have hlt : i < kvs.length := (List.getElem?_eq_some_iff.mp hv).1
    have hiH : @LT.lt Nat _ it s'.heap.objs.size := Heap.lt_size hit'
    have hdH : @LT.lt Nat _ d s'.heap.objs.size := hm'.lt_size
    refine wpAny_noRaise (wpAny_pyNext_items_item hit' hm' hv fun key h₁ hkey heo ht₁ hz₁ hk₁ => ?_)
    obtain ⟨t, rfl⟩ := Value.isInt_shape hkey
    refine wpAny_noRaise (wpAny_letOwnedTupleGo_items heo fun h₂ he₂ hs₂ => ?_)
    replace hs₂ : Heap.SameBut it h₁ h₂ := hs₂
    have ht₂ : h₂.IsTuple s'.heap.objs.size #[.int k t, v] := ⟨_, (hs₂.2 _ (Nat.ne_of_gt hiH)).trans ht₁, rfl, _, rfl⟩
    have hz₂ : h₂.objs.size = s'.heap.objs.size + 1 := hs₂.1.trans hz₁
    refine wpAny_noRaise (wpAny_assign_Tuple hA ht₂ hel hno fun h₃ hx₃ => ?_)
    replace hx₃ : Heap.ExtBut h₂.objs.size h₂ h₃ := hx₃
    have e₂₃ : Ext h₂ h₃ := fun b o e => hx₃ b o (Nat.ne_of_lt (Heap.lt_size e)) e
    have kp : Kp [it] s'.heap h₃ := fun b o n e => e₂₃ b o (hs₂.extBut b o (fun q => n (by rw [q]; exact .head _)) (hk₁ b o (fun q => n (by rw [q]; exact .head _)) e))
    have hnd : d ∉ [it] := fun m => hdi (List.mem_singleton.mp m)
    have hm₃ : h₃.DictAt (PySem.intKind prog w) d kvs ep := hm'.at fun o e => kp d o hnd e
    refine wpAny_mono (step i k t v { s' with heap := h₃ } hv (hsh.trans ⟨_, _, rfl⟩) (stab _ _ _ kp hJ) ⟨_, _, e₂₃ _ _ he₂⟩ hm₃) (fun _ s₄ h₄ => wpAny_noRaise (wpAny_mono h₄ (fun f s₅ h₅ => ?_) fun _ _ e => e)) fun _ _ e => e
    obtain ⟨rfl, hsh₅, hJ₅, ai, ad⟩ := h₅
    exact ⟨kvs.length + 1 - (i + 1), by omega, i + 1, _, _, (hsh.trans ⟨_, _, rfl⟩).trans hsh₅, ai _ (e₂₃ _ _ he₂), hm₃.at ad, hJ₅, hlt, rfl⟩
end

theorem loc_ne_list {h : Heap} {L a : Addr} {l : List (Str × Value)} {ns : List Int} (x : Loc h L l) (y : IntL h a ns) : @Ne Nat L a := by
  rintro rfl
  obtain ⟨_, ⟨o, es, ep, e, d, _⟩, _⟩ := x
  obtain ⟨vs, ⟨n, e'⟩, _⟩ := y
  rw [e] at e'; cases e'; cases d
theorem cell_ne_list {h : Heap} {c a : Addr} {v : Option Value} {ns : List Int} (x : h.IsCell c v) (y : IntL h a ns) : @Ne Nat c a := by
  rintro rfl
  obtain ⟨o, e, d⟩ := x
  obtain ⟨vs, ⟨n, e'⟩, _⟩ := y
  rw [e] at e'; cases e'; cases d

/-- the maker at work -/
structure IJ (prog : Program) (w : World) (h₀ : Heap) (lo L inD rv rd : Nat) (nd : Needs) (DK RK YK : Int → Prop) (RL : Int → List Int) (av : List Addr) (cv : Option Value) (l : List (Str × Value)) (h : Heap) : Prop where
  old : ∀ (b : Nat) o, b < lo → h₀.get? b = some o → h.get? b = some o
  deg : ∃ ks, VD prog w h inD ks (fun t v => ∃ tk, v = .int ((deps nd t).length : Nat) tk) ∧ ∀ t, t ∈ ks ↔ DK t
  rev : ∃ kr, ∃ ra : Int → Nat, VD prog w h rv kr (fun t v => v = .ref (ra t)) ∧ (∀ t, t ∈ kr ↔ RK t) ∧ (∀ t ∈ kr, IntL h (ra t) (RL t) ∧ lo ≤ ra t ∧ ra t ≠ rd ∧ ra t ∉ av) ∧ ∀ t ∈ kr, ∀ u ∈ kr, ra t = ra u → t = u
  rdy : ∃ rl, IntL h rd rl ∧ rl.Nodup ∧ ∀ t, t ∈ rl ↔ YK t
  loc : Loc h L l
  cel : h.IsCell (L + 1) cv
/-- the five places -/
structure Five (lo L inD rv rd : Nat) (av : List Addr) : Prop where
  a1 : L ≠ inD
  a2 : L ≠ rv
  a3 : L ≠ rd
  a4 : inD ≠ rv
  a5 : inD ≠ rd
  a6 : rv ≠ rd
  b1 : L + 1 ≠ inD
  b2 : L + 1 ≠ rv
  b3 : L + 1 ≠ rd
  l1 : lo ≤ L
  l2 : lo ≤ inD
  l3 : lo ≤ rv
  l4 : lo ≤ rd
  av1 : ∀ b : Nat, b ∈ av → b ≠ L ∧ b ≠ L + 1 ∧ b ≠ inD ∧ b ≠ rv ∧ b ≠ rd
section
variable {prog : Program} {w : World} {h₀ h h' : Heap} {lo L inD rv rd : Nat} {nd : Needs} {DK RK YK DK' RK' YK' : Int → Prop} {RL RL' : Int → List Int} {av : List Addr} {cv : Option Value} {l l' : List (Str × Value)}
/-- nothing of it was touched -/
theorem IJ.kept (J : IJ prog w h₀ lo L inD rv rd nd DK RK YK RL av cv l h) (k : Ext h h') : IJ prog w h₀ lo L inD rv rd nd DK RK YK RL av cv l h' :=
  ⟨fun b o hb e => k _ _ (J.old b o hb e), let ⟨ks, a, b⟩ := J.deg; ⟨ks, a.at (at_ext k), b⟩,
    let ⟨kr, ra, a, b, c, d⟩ := J.rev; ⟨kr, ra, a.at (at_ext k), b, fun t ht => ⟨(c t ht).1.at (at_ext k), (c t ht).2⟩, d⟩,
    let ⟨rl, a, b⟩ := J.rdy; ⟨rl, a.at (at_ext k), b⟩, J.loc.at (at_ext k), cell_at J.cel (at_ext k)⟩
theorem IJ.congr (J : IJ prog w h₀ lo L inD rv rd nd DK RK YK RL av cv l h) (hD : ∀ t, DK' t ↔ DK t) (hR : ∀ t, RK' t ↔ RK t) (hY : ∀ t, YK' t ↔ YK t) (hL : ∀ t, RL' t = RL t) (hl : ∀ p ∈ l', l.lookup p.1 = some p.2) :
    IJ prog w h₀ lo L inD rv rd nd DK' RK' YK' RL' av cv l' h :=
  ⟨J.old, let ⟨ks, a, b⟩ := J.deg; ⟨ks, a, fun t => (b t).trans (hD t).symm⟩,
    let ⟨kr, ra, a, b, c, d⟩ := J.rev; ⟨kr, ra, a, fun t => (b t).trans (hR t).symm, fun t ht => by rw [hL t]; exact c t ht, d⟩,
    let ⟨rl, a, b, c⟩ := J.rdy; ⟨rl, a, b, fun t => (c t).trans (hY t).symm⟩, loc_re J.loc hl, J.cel⟩
section
variable (F : Five lo L inD rv rd av)
include F
theorem Five.n1 : L ∉ av := fun m => (F.av1 L m).1 rfl
theorem Five.n2 : inD ∉ av := fun m => (F.av1 inD m).2.2.1 rfl
theorem Five.n3 : rv ∉ av := fun m => (F.av1 rv m).2.2.2.1 rfl
theorem Five.n4 : rd ∉ av := fun m => (F.av1 rd m).2.2.2.2 rfl
theorem Five.n5 : (L + 1 : Nat) ∉ av := fun m => (F.av1 (L + 1) m).2.1 rfl
/-- locals stored -/
theorem IJ.locs' (J : IJ prog w h₀ lo L inD rv rd nd DK RK YK RL av cv l h) (k : ∀ b o, b ≠ L → h.get? b = some o → h'.get? b = some o) (hl : Loc h' L l') : IJ prog w h₀ lo L inD rv rd nd DK RK YK RL av cv l' h' :=
  have n : ∀ {b : Nat}, b ≠ L → At h h' b := fun e o q => k _ o e q
  ⟨fun b o hb e => n (by have := F.l1; omega) o (J.old b o hb e), let ⟨ks, a, b⟩ := J.deg; ⟨ks, a.at (n F.a1.symm), b⟩,
    let ⟨kr, ra, a, b, c, d⟩ := J.rev; ⟨kr, ra, a.at (n F.a2.symm), b, fun t ht => ⟨(c t ht).1.at (n (loc_ne_list J.loc (c t ht).1).symm), (c t ht).2⟩, d⟩,
    let ⟨rl, a, b⟩ := J.rdy; ⟨rl, a.at (n F.a3.symm), b⟩, hl, cell_at J.cel (n (by omega))⟩
theorem IJ.locs (J : IJ prog w h₀ lo L inD rv rd nd DK RK YK RL av cv l h) (hs : Heap.SameBut L h h') (hl : Loc h' L l') : IJ prog w h₀ lo L inD rv rd nd DK RK YK RL av cv l' h' := J.locs' F (fun b o n e => hs.extBut b o n e) hl
/-- the cell stored -/
theorem IJ.cell {cv' : Option Value} (J : IJ prog w h₀ lo L inD rv rd nd DK RK YK RL av cv l h) (hs : Heap.SameBut (L + 1 : Nat) h h') (hc : h'.IsCell (L + 1 : Nat) cv') : IJ prog w h₀ lo L inD rv rd nd DK RK YK RL av cv' l h' :=
  ⟨fun b o hb e => hs.extBut b o (show @Ne Nat b (L + 1) by have := F.l1; omega) (J.old b o hb e), let ⟨ks, a, b⟩ := J.deg; ⟨ks, a.at (at_but hs F.b1.symm), b⟩,
    let ⟨kr, ra, a, b, c, d⟩ := J.rev; ⟨kr, ra, a.at (at_but hs F.b2.symm), b, fun t ht => ⟨(c t ht).1.at (at_but hs (cell_ne_list J.cel (c t ht).1).symm), (c t ht).2⟩, d⟩,
    let ⟨rl, a, b⟩ := J.rdy; ⟨rl, a.at (at_but hs F.b3.symm), b⟩, J.loc.at (at_but hs (show @Ne Nat L (L + 1) by omega)), hc⟩
theorem IJ.setDeg {ks' : List Int} (J : IJ prog w h₀ lo L inD rv rd nd DK RK YK RL av cv l h) (hs : Heap.SameBut inD h h') (hd : VD prog w h' inD ks' (fun t v => ∃ tk, v = .int ((deps nd t).length : Nat) tk)) (hk : ∀ t, t ∈ ks' ↔ DK' t) :
    IJ prog w h₀ lo L inD rv rd nd DK' RK YK RL av cv l h' :=
  ⟨fun b o hb e => hs.extBut b o (show @Ne Nat b inD by have := F.l2; omega) (J.old b o hb e), ⟨ks', hd, hk⟩,
    let ⟨kr, ra, a, b, c, d⟩ := J.rev; ⟨kr, ra, a.at (at_but hs F.a4.symm), b, fun t ht => ⟨(c t ht).1.at (at_but hs (let ⟨_, x, _⟩ := J.deg; list_ne_dict (c t ht).1 x)), (c t ht).2⟩, d⟩,
    let ⟨rl, a, b⟩ := J.rdy; ⟨rl, a.at (at_but hs F.a5.symm), b⟩, J.loc.at (at_but hs F.a1), cell_at J.cel (at_but hs F.b1)⟩
theorem IJ.setRdy {rl' : List Int} (J : IJ prog w h₀ lo L inD rv rd nd DK RK YK RL av cv l h) (hs : Heap.SameBut rd h h') (hd : IntL h' rd rl') (hn : rl'.Nodup) (hk : ∀ t, t ∈ rl' ↔ YK' t) :
    IJ prog w h₀ lo L inD rv rd nd DK RK YK' RL av cv l h' :=
  ⟨fun b o hb e => hs.extBut b o (show @Ne Nat b rd by have := F.l4; omega) (J.old b o hb e), let ⟨ks, a, b⟩ := J.deg; ⟨ks, a.at (at_but hs F.a5), b⟩,
    let ⟨kr, ra, a, b, c, d⟩ := J.rev; ⟨kr, ra, a.at (at_but hs F.a6), b, fun t ht => ⟨(c t ht).1.at (at_but hs (c t ht).2.2.1), (c t ht).2⟩, d⟩,
    ⟨rl', hd, hn, hk⟩, J.loc.at (at_but hs F.a3), cell_at J.cel (at_but hs F.b3)⟩
omit F in
/-- a row grown -/
theorem IJ.grow {kr : List Int} {ra : Int → Nat} {d : Int} {ns : List Int} (J : IJ prog w h₀ lo L inD rv rd nd DK RK YK RL av cv l h)
    (hv : VD prog w h rv kr (fun t v => v = .ref (ra t))) (hk : ∀ t, t ∈ kr ↔ RK t) (hr : ∀ t ∈ kr, IntL h (ra t) (RL t) ∧ lo ≤ ra t ∧ ra t ≠ rd ∧ ra t ∉ av) (hi : ∀ t ∈ kr, ∀ u ∈ kr, ra t = ra u → t = u)
    (hd : d ∈ kr) (hs : Heap.SameBut (ra d) h h') (hn : IntL h' (ra d) ns) : IJ prog w h₀ lo L inD rv rd nd DK RK YK (fun t => if t = d then ns else RL t) av cv l h' :=
  have hl := (hr d hd).1
  ⟨fun b o hb e => hs.extBut b o (show @Ne Nat b (ra d) by have := (hr d hd).2.1; omega) (J.old b o hb e), let ⟨ks, a, b⟩ := J.deg; ⟨ks, a.at (at_but hs (list_ne_dict hl a).symm), b⟩,
    ⟨kr, ra, hv.at (at_but hs (list_ne_dict hl hv).symm), hk, fun t ht => by
      refine ⟨?_, (hr t ht).2⟩
      by_cases he : t = d
      · subst he; rw [if_pos rfl]; exact hn
      · rw [if_neg he]; exact (hr t ht).1.at (at_but hs fun q => he (hi t ht d hd q)), hi⟩,
    let ⟨rl, a, b⟩ := J.rdy; ⟨rl, a.at (at_but hs (hr d hd).2.2.1.symm), b⟩, J.loc.at (at_but hs (loc_ne_list J.loc hl)), cell_at J.cel (at_but hs (cell_ne_list J.cel hl))⟩
/-- a row of its own for d -/
theorem IJ.row {kr : List Int} {ra : Int → Nat} {d : Int} {a : Nat} {ns : List Int} (J : IJ prog w h₀ lo L inD rv rd nd DK RK YK RL av cv l h)
    (hk : ∀ t, t ∈ kr ↔ RK t) (hr : ∀ t ∈ kr, IntL h (ra t) (RL t) ∧ lo ≤ ra t ∧ ra t ≠ rd ∧ ra t ∉ av) (hi : ∀ t ∈ kr, ∀ u ∈ kr, ra t = ra u → t = u)
    (hd : d ∉ kr) (hs : Heap.SameBut rv h h') (hv : VD prog w h' rv (kr ++ [d]) (fun t v => v = .ref (if t = d then a else ra t)))
    (hn : IntL h a ns) (hla : lo ≤ a) (har : a ≠ rd) (haa : a ∉ av) (hfr : ∀ t ∈ kr, ra t ≠ a) :
    IJ prog w h₀ lo L inD rv rd nd DK (fun t => RK t ∨ t = d) YK (fun t => if t = d then ns else RL t) av cv l h' := by
  have hnr : a ≠ rv := by
    obtain ⟨kr₀, ra₀, hv₀, _⟩ := J.rev
    exact list_ne_dict hn hv₀
  have hne : ∀ t ∈ kr, t ≠ d := fun t ht e => hd (e ▸ ht)
  refine ⟨fun b o hb e => hs.extBut b o (show @Ne Nat b rv by have := F.l3; omega) (J.old b o hb e), let ⟨ks, a, b⟩ := J.deg; ⟨ks, a.at (at_but hs F.a4), b⟩,
    ⟨kr ++ [d], fun t => if t = d then a else ra t, hv, fun t => by rw [List.mem_append, List.mem_singleton, hk t], fun t ht => ?_, fun t ht u hu q => ?_⟩,
    let ⟨rl, a, b⟩ := J.rdy; ⟨rl, a.at (at_but hs F.a6.symm), b⟩, J.loc.at (at_but hs F.a2), cell_at J.cel (at_but hs F.b2)⟩
  · rcases List.mem_append.mp ht with ht | ht
    · simp only [if_neg (hne t ht)]
      obtain ⟨c1, c2⟩ := hr t ht
      refine ⟨c1.at (at_but hs ?_), c2⟩
      obtain ⟨kr₀, ra₀, hv₀, _⟩ := J.rev
      exact list_ne_dict c1 hv₀
    · rw [List.mem_singleton.mp ht]
      simp only [if_true]
      exact ⟨hn.at (at_but hs hnr), hla, har, haa⟩
  · rcases List.mem_append.mp ht with ht | ht <;> rcases List.mem_append.mp hu with hu | hu
    · simp only [if_neg (hne t ht), if_neg (hne u hu)] at q
      exact hi t ht u hu q
    · rw [List.mem_singleton.mp hu] at q ⊢
      simp only [if_neg (hne t ht), if_true] at q
      exact absurd q (hfr t ht)
    · rw [List.mem_singleton.mp ht] at q ⊢
      simp only [if_neg (hne u hu), if_true] at q
      exact absurd q.symm (hfr u hu)
    · rw [List.mem_singleton.mp ht, List.mem_singleton.mp hu]
end
end

noncomputable abbrev initEnv (w : World) (L : Addr) : Env := callEnvC (fnAt w.params 26) L 26
noncomputable abbrev initLoop (w : World) : Stmt := nthS (bodyAt w.params 26) 3
noncomputable abbrev initInner (w : World) : Stmt := nthS (forBody (initLoop w)) 5
abbrev initLoc (x D inD rv rd : Addr) : List (Str × Value) := [("ready", .ref rd), ("rev", .ref rv), ("in_degree", .ref inD), ("data", .ref D), ("self", .ref x)]

section
variable {prog : Program} {w : World} {A : Around} {s : Shared} {h₀ : Heap} {lo L inD rv rd x D : Nat} {nd : Needs} {av : List Addr} {FD : Int → Value → Prop}
theorem key_small {m k t : Int} {dp : List Int} (G : Good nd) (hm : m ≤ nd.length) (hdp : ∀ d ∈ dp, d ∈ deps nd k) (h : revKey nd m k dp t) : 0 ≤ t ∧ t < 8 := by
  have := G.len
  rcases h with h | ⟨j, _, _, h⟩ | h
  · omega
  · exact G.small j t (mem_deps.mp h).1
  · exact G.small k t (mem_deps.mp (hdp t h)).1
theorem deg_rev {m k t : Int} {dp : List Int} (h : degKey nd m k dp t) : revKey nd m k dp t := by
  rcases h with h | ⟨_, h⟩
  · exact .inl h
  · exact .inr h
theorem rdy_rev {m k t : Int} {dp : List Int} (h : rdyKey nd m k dp t) : revKey nd m k dp t := by
  rcases h with h | ⟨_, h⟩
  · exact .inl ⟨h.1, h.2.1⟩
  · exact .inr h

theorem init_turn (F : Five lo L inD rv rd av) (G : Good nd) {k d : Int} {tk td : Tok} {dp : List Int} (hkn : k < (nd.length : Int)) (_hk0 : 0 ≤ k) (hdd : d ∈ deps nd k) (hd : d ∉ dp) (hdp : ∀ t ∈ dp, t ∈ deps nd k)
    (h60 : 60 ≤ lo) (hD : D < lo) (hD60 : 60 ≤ D) (DD : VD prog w h₀ D (up nd.length) FD) (avk : ∀ b ∈ av, ∃ o, s.heap.get? b = some o)
    (J : IJ prog w h₀ lo L inD rv rd nd (degKey nd (k + 1) k dp) (revKey nd (k + 1) k dp) (rdyKey nd (k + 1) k dp) (revK nd k dp) av (some (.int k tk)) (("dep", .int d td) :: initLoc x D inD rv rd) s.heap) :
    wpAny (model prog w) A (execs (forBody (initInner w)) (initEnv w L))
      (fun f s' => f = .next ∧ Sh s s' ∧ (∀ b ∈ av, At s.heap s'.heap b) ∧
        IJ prog w h₀ lo L inD rv rd nd (degKey nd (k + 1) k (dp ++ [d])) (revKey nd (k + 1) k (dp ++ [d])) (rdyKey nd (k + 1) k (dp ++ [d])) (revK nd k (dp ++ [d])) av (some (.int k tk)) (initLoc x D inD rv rd) s'.heap) Nev s := by
  have hl := J.loc
  obtain ⟨kr, ra, hrv, hrk, hrr, hri⟩ := J.rev
  have hm8 : ∀ t ∈ kr, 0 ≤ t ∧ t < 8 := fun t ht => key_small G (by omega) hdp ((hrk t).mp ht)
  have hkl : kr.length ≤ 8 := len_le_8 hrv.nodup hm8
  have r60 : 60 ≤ rv := Nat.le_trans h60 F.l3
  show wpAny _ _ (execs [.If _ _ _ _] _) _ _ _
  refine wpAny_execs_cons (wpAny_If (wpAny_isTrue_Compare1 (nmL hl (by rfl) (nmL hl (by rfl) (vd_in hrv (nsm r60) (wpAny_truthy_bool ?_))))))
  by_cases hin : d ∈ kr
  · rw [if_pos (decide_eq_true hin)]
    obtain ⟨hi1, hi2, hi3, hi4⟩ := hrr d hin
    obtain ⟨its, hpl⟩ := hi1.plainL
    have hlen : (revK nd k dp d).length ≤ 1000 := by
      have h1 : ((up k.toNat).filter (fun j => decide (d ∈ deps nd j))).length ≤ (up k.toNat).length := List.length_filter_le _ _
      have h2 : (up k.toNat).length = k.toNat := by simp [up]
      have h3 : (if d ∈ dp then [k] else []).length ≤ 1 := by split <;> simp
      have := G.len
      simp only [revK, List.length_append]
      omega
    refine wpAny_execs_cons (wpAny_Expr_any (wpAny_Call_append (by rfl) (by rfl) (by rfl) (by rfl) (wpAny_Subscript_Name slot_dict_getitem.lookup (nmL hl (by rfl) (nmL hl (by rfl) ⟨by exact hrv.isDict, vd_get hrv hin ?_⟩)))))
    rintro _ rfl
    refine ⟨_, _, rfl, hpl, nmC J.cel (by rfl) (app_int hi1 hlen fun h1 hn1 hs1 => ?_)⟩
    refine wpAny_execs_nil (wpAny_execs_nil ⟨rfl, ⟨_, _, rfl⟩, fun b hb => at_but hs1 fun q => hi4 (q ▸ hb), ?_⟩)
    obtain ⟨c1, c2, c3⟩ := inner_old ((hrk d).mp hin) hkn hd
    refine (J.grow hrv hrk hrr hri hin hs1 hn1).congr c1 c3 c2 (fun t => ?_) (by (repeat' (first | exact List.forall_mem_nil _ | refine List.forall_mem_cons.mpr ⟨rfl, ?_⟩)))
    by_cases he : t = d
    · subst he; rw [if_pos rfl, revK_at hd]
    · rw [if_neg he, revK_same he]
  · rw [if_neg (by simpa using hin)]
    have hnr : ¬ revKey nd (k + 1) k dp d := fun h => hin ((hrk d).mpr h)
    obtain ⟨c1, c2, c3⟩ := inner_new hnr hkn
    -- rev[dep] = [item]
    refine wpAny_execs_cons (wpAny_Assign_Subscript (new_one (fun Q' h => nmC J.cel (by rfl) h) fun h1 hn1 k1 sz1 => ?_))
    have J1 := J.kept k1
    have hl1 := J1.loc
    have hrv1 := hrv.at (at_ext k1)
    obtain ⟨a, hae⟩ : ∃ a : Nat, a = s.heap.objs.size := ⟨_, rfl⟩
    dsimp only at hn1 sz1 ⊢
    rw [← hae] at hn1 ⊢
    have hlo : lo ≤ a := by
      have := hl.lt
      have := F.l1
      omega
    have hra : ∀ t ∈ kr, ra t ≠ a := fun t ht => by
      have := (hrr t ht).1.lt
      omega
    have hava : a ∉ av := fun m => by
      obtain ⟨o, e⟩ := avk a m
      have := glt e
      omega
    have hda : a ≠ rd := by
      obtain ⟨rl, q, _⟩ := J.rdy
      have := q.lt
      omega
    have hne : ∀ t ∈ kr, t ≠ d := fun t ht e => hin (e ▸ ht)
    refine nmL hl1 (by rfl) (nmL hl1 (by rfl) (vd_set (F' := fun t v => v = .ref (if t = d then a else ra t)) hrv1 (by omega) (by rw [if_pos rfl]) (fun t ht hn u hu => by rw [if_neg hn]; exact hu) fun h2 hrv2 hs2 => ?_))
    rw [if_neg hin] at hrv2
    dsimp only at hs2 ⊢
    have hrr1 : ∀ t ∈ kr, IntL h1 (ra t) (revK nd k dp t) ∧ lo ≤ ra t ∧ ra t ≠ rd ∧ ra t ∉ av := fun t ht => ⟨(hrr t ht).1.at (at_ext k1), (hrr t ht).2⟩
    have J2 := (J1.row F hrk hrr1 hri hin hs2 hrv2 hn1 hlo hda hava hra)
    have av2 : ∀ b ∈ av, At s.heap h2 b := fun b hb o e => at_but hs2 (fun q => F.n3 (q ▸ hb)) o (k1 b o e)
    have hRL : ∀ t, revK nd k (dp ++ [d]) t = if t = d then [k] else revK nd k dp t := fun t => by
      by_cases he : t = d
      · subst he; rw [if_pos rfl, revK_at hd, revK_nil hnr]; rfl
      · rw [if_neg he, revK_same he]
    have hl2 := J2.loc
    -- if dep not in data
    have DD2 : VD prog w h2 D (up nd.length) FD := DD.at fun o e => J2.old D o hD e
    refine wpAny_execs_cons (wpAny_If (wpAny_isTrue_Compare1 (nmL hl2 (by rfl) (nmL hl2 (by rfl) (vd_notin DD2 (nsm hD60) (wpAny_truthy_bool ?_))))))
    by_cases hdn : d ∈ up nd.length
    · rw [if_neg (by simpa using hdn)]
      have hdlt := (mem_up.mp hdn).2
      obtain ⟨e1, e2⟩ := c2 hdlt
      exact wpAny_execs_nil (wpAny_execs_nil (wpAny_execs_nil ⟨rfl, ⟨_, _, rfl⟩, av2, J2.congr e1 c1 e2 hRL (by (repeat' (first | exact List.forall_mem_nil _ | refine List.forall_mem_cons.mpr ⟨rfl, ?_⟩)))⟩))
    · rw [if_pos (by simpa using hdn)]
      have hd8 := G.small k d (mem_deps.mp hdd).1
      have hdge : (nd.length : Int) ≤ d := by
        rw [mem_up] at hdn
        omega
      obtain ⟨e1, e2, e3⟩ := c3 hdge
      have hdd0 : deps nd d = [] := List.eq_nil_iff_forall_not_mem.mpr fun y hy => by
        have := deps_range hy
        omega
      obtain ⟨ks, hdg, hdk⟩ := J2.deg
      have hks8 : ks.length ≤ 8 := len_le_8 hdg.nodup fun t ht => key_small G (by omega) hdp (deg_rev ((hdk t).mp ht))
      -- in_degree[dep] = 0
      refine wpAny_execs_cons (wpAny_Assign_Subscript (wpAny_Constant_int (nmL hl2 (by rfl) (nmL hl2 (by rfl) (vd_set (F' := fun t v => ∃ tk, v = .int ((deps nd t).length : Nat) tk) hdg (by omega) ⟨_, by rw [hdd0]; rfl⟩ (fun _ _ _ _ h => h) fun h3 hdg3 hs3 => ?_)))))
      dsimp only at hs3 ⊢
      have J3 := J2.setDeg F hs3 hdg3 (DK' := degKey nd (k + 1) k (dp ++ [d])) fun t => by
        rw [e1 t]
        split
        · rename_i hm
          rw [hdk t]
          exact ⟨.inl, fun h => h.elim id fun e => (hdk t).mp (e ▸ hm)⟩
        · rw [List.mem_append, List.mem_singleton, hdk t]
      have hl3 := J3.loc
      -- ready.append(dep)
      obtain ⟨rl, hrl, hrn, hrk3⟩ := J3.rdy
      have hrl8 : rl.length ≤ 8 := len_le_8 hrn fun t ht => key_small G (by omega) hdp (rdy_rev ((hrk3 t).mp ht))
      obtain ⟨its, hpl⟩ := hrl.plainL
      refine wpAny_execs_cons (wpAny_Expr_any (wpAny_Call_append (by rfl) (by rfl) (by rfl) (by rfl) (nmL hl3 (by rfl) ⟨_, _, rfl, hpl, nmL hl3 (by rfl) (app_int hrl (by omega) fun h4 hn4 hs4 => ?_)⟩)))
      have hnd : d ∉ rl := fun m => e3 ((hrk3 d).mp m)
      have J4 := J3.setRdy F hs4 hn4 (YK' := rdyKey nd (k + 1) k (dp ++ [d]))
        (List.nodup_append.mpr ⟨hrn, List.nodup_cons.mpr ⟨List.not_mem_nil, List.nodup_nil⟩, fun a ha b hb e => hnd (by rw [← List.mem_singleton.mp hb, ← e]; exact ha)⟩)
        fun t => by rw [List.mem_append, List.mem_singleton, hrk3 t, e2 t]
      exact wpAny_execs_nil (wpAny_execs_nil (wpAny_execs_nil ⟨rfl, ⟨_, _, rfl⟩, fun b hb o e => at_but hs4 (fun q => F.n4 (q ▸ hb)) o (at_but hs3 (fun q => F.n2 (q ▸ hb)) o (av2 b hb o e)), J4.congr (fun _ => Iff.rfl) c1 (fun _ => Iff.rfl) hRL (by (repeat' (first | exact List.forall_mem_nil _ | refine List.forall_mem_cons.mpr ⟨rfl, ?_⟩)))⟩))
/-- one more place to keep off -/
theorem IJ.more {h h' : Heap} {I : Nat} {DK RK YK : Int → Prop} {RL : Int → List Int} {cv : Option Value} {l : List (Str × Value)} (J : IJ prog w h₀ lo L inD rv rd nd DK RK YK RL av cv l h) (k : Ext h h') (hI : h.get? I = none) :
    IJ prog w h₀ lo L inD rv rd nd DK RK YK RL (I :: av) cv l h' := by
  have K := J.kept k
  obtain ⟨kr', ra', c', d', e', f'⟩ := J.rev
  refine ⟨K.old, K.deg, ⟨kr', ra', c'.at (at_ext k), d', fun t ht => ?_, f'⟩, K.rdy, K.loc, K.cel⟩
  obtain ⟨q1, q2, q3, q4⟩ := e' t ht
  refine ⟨q1.at (at_ext k), q2, q3, fun m => ?_⟩
  rcases List.mem_cons.mp m with m | m
  · obtain ⟨_, ⟨_, e⟩, _⟩ := q1
    rw [m, hI] at e; cases e
  · exact q4 m
theorem IJ.less {h : Heap} {I : Nat} {DK RK YK : Int → Prop} {RL : Int → List Int} {cv : Option Value} {l : List (Str × Value)} (J : IJ prog w h₀ lo L inD rv rd nd DK RK YK RL (I :: av) cv l h) : IJ prog w h₀ lo L inD rv rd nd DK RK YK RL av cv l h :=
  ⟨J.old, J.deg, let ⟨kr, ra, a, b, c, d⟩ := J.rev; ⟨kr, ra, a, b, fun t ht => let ⟨q1, q2, q3, q4⟩ := c t ht; ⟨q1, q2, q3, fun m => q4 (.tail _ m)⟩, d⟩, J.rdy, J.loc, J.cel⟩
theorem Five.more {I : Nat} (F : Five lo L inD rv rd av) (h : I ≠ L ∧ I ≠ L + 1 ∧ I ≠ inD ∧ I ≠ rv ∧ I ≠ rd) : Five lo L inD rv rd (I :: av) :=
  { F with av1 := fun b hb => (List.mem_cons.mp hb).elim (fun e => e ▸ h) (F.av1 b) }
theorem IJ.stab {h h' : Heap} {I : Nat} {DK RK YK : Int → Prop} {RL : Int → List Int} {cv : Option Value} {l : List (Str × Value)} (F : Five lo L inD rv rd (I :: av)) (hI : lo ≤ I) (J : IJ prog w h₀ lo L inD rv rd nd DK RK YK RL (I :: av) cv l h) (k : Kp [I] h h') :
    IJ prog w h₀ lo L inD rv rd nd DK RK YK RL (I :: av) cv l h' := by
  obtain ⟨q1, q2, q3, q4, q5⟩ := F.av1 I (.head _)
  have n : ∀ {b : Nat}, I ≠ b → At h h' b := fun e => k.at fun m => e (List.mem_singleton.mp m).symm
  exact ⟨fun b o hb e => n (by omega) o (J.old b o hb e), let ⟨ks, a, b⟩ := J.deg; ⟨ks, a.at (n q3), b⟩,
    let ⟨kr, ra, a, b, c, d⟩ := J.rev; ⟨kr, ra, a.at (n q4), b, fun t ht => ⟨(c t ht).1.at (n fun e => (c t ht).2.2.2 (e ▸ .head _)), (c t ht).2⟩, d⟩,
    let ⟨rl, a, b⟩ := J.rdy; ⟨rl, a.at (n q5), b⟩, J.loc.at (n q1), cell_at J.cel (n q2)⟩

theorem init_inner (hA : A.handled = none) (F : Five lo L inD rv rd av) (G : Good nd) {k : Int} {tk : Tok} {dl : Nat} (hkn : k < (nd.length : Int)) (hk0 : 0 ≤ k)
    (h60 : 60 ≤ lo) (hD : D < lo) (hD60 : 60 ≤ D) (DD : VD prog w h₀ D (up nd.length) FD) (avk : ∀ b ∈ av, ∃ o, s.heap.get? b = some o) (hdl : dl ∈ av) (hdi : IntL s.heap dl (deps nd k)) {dv : Value}
    (J : IJ prog w h₀ lo L inD rv rd nd (degKey nd (k + 1) k []) (revKey nd (k + 1) k []) (rdyKey nd (k + 1) k []) (revK nd k []) av (some (.int k tk)) (("deg", dv) :: ("deps", .ref dl) :: initLoc x D inD rv rd) s.heap) :
    wpAny (model prog w) A (exec (initInner w) (initEnv w L))
      (fun f s' => f = .next ∧ Sh s s' ∧ (∀ b ∈ av, At s.heap s'.heap b) ∧
        IJ prog w h₀ lo L inD rv rd nd (degKey nd (k + 1) (k + 1) []) (revKey nd (k + 1) (k + 1) []) (rdyKey nd (k + 1) (k + 1) []) (revK nd (k + 1) []) av (some (.int k tk)) (initLoc x D inD rv rd) s'.heap) Nev s := by
  show wpAny _ _ (exec (.For _ _ _ _ _) _) _ _ _
  refine wpAny_For (nmL J.loc (by rfl) ?_)
  obtain ⟨vs, hpl, hints⟩ := id hdi
  refine wpAny_pyIter_list hpl.isList ?_
  obtain ⟨I, hIe⟩ : ∃ I : Nat, I = s.heap.objs.size := ⟨_, rfl⟩
  rw [← hIe]
  have hdlI : @Ne Nat dl I := by have := hdi.lt; omega
  have hIav : I ∉ av := fun m => by
    obtain ⟨o, e⟩ := avk I m
    have := glt e
    omega
  have hIlo : lo ≤ I := by have := J.loc.lt; have := F.l1; omega
  have F' : Five lo L inD rv rd (I :: av) := F.more ⟨by have := J.loc.lt; omega, by have := J.cel.lt; have : @LT.lt Nat _ (L + 1) s.heap.objs.size := this; omega,
    by obtain ⟨_, q, _⟩ := J.deg; have := q.lt; omega, by obtain ⟨_, _, q, _⟩ := J.rev; have := q.lt; omega, by obtain ⟨_, q, _⟩ := J.rdy; have := q.lt; omega⟩
  have W := Walks.list (prog := prog) (w := w) hA I dl hdlI vs.toArray
  have hnd := G.deps_nodup k
  refine for_walk W (fun i h => IJ prog w h₀ lo L inD rv rd nd (degKey nd (k + 1) k ((deps nd k).take i)) (revKey nd (k + 1) k ((deps nd k).take i)) (rdyKey nd (k + 1) k ((deps nd k).take i)) (revK nd k ((deps nd k).take i)) (I :: av) (some (.int k tk)) (initLoc x D inD rv rd) h
      ∧ ∀ b ∈ av, At s.heap h b)
    ⟨⟨_, by rw [hIe]; exact Heap.get?_push_size _ rfl, rfl, rfl⟩, (hpl.isList).push _⟩ ⟨(J.more (Ext.push _) (get_ge (Nat.le_of_eq hIe.symm))).congr (fun _ => Iff.rfl) (fun _ => Iff.rfl) (fun _ => Iff.rfl) (fun _ => rfl) (by (repeat' (first | exact List.forall_mem_nil _ | refine List.forall_mem_cons.mpr ⟨rfl, ?_⟩))), fun b _ => at_ext (Ext.push _)⟩
    (fun i h h' k J => ⟨J.1.stab F' hIlo k, fun b hb o e => k b o (fun m => hIav (List.mem_singleton.mp m ▸ hb)) (J.2 b hb o e)⟩) ?_ ?_
  · rintro i v s₁ hi hv hsh ⟨J₁, hav₁⟩ hst
    obtain ⟨d, td, rfl, hd⟩ := hints.at i v (by simpa using hv)
    have hdm : d ∈ deps nd k := List.mem_of_getElem? hd
    refine wpAny_assign_Name (stL J₁.loc fun h2 hl2 hs2 => ?_)
    have J₂ := J₁.locs F' hs2 hl2
    have hLI := (F'.av1 I (.head _)).1
    refine wpAny_mono (init_turn (s := { s₁ with heap := h2, toks := s₁.toks + 1 }) (x := x) (D := D) F' G hkn hk0 hdm (not_mem_take hnd hd) (fun t ht => List.mem_of_mem_take ht) h60 hD hD60 DD (fun b hb => ?_) J₂) (fun f s₃ h₃ => ?_) fun _ _ e => e
    · rcases List.mem_cons.mp hb with rfl | hb
      · obtain ⟨o, e, _⟩ := hst.1
        exact ⟨o, hs2.extBut _ o hLI e⟩
      · obtain ⟨o, e⟩ := avk b hb
        exact ⟨o, hs2.extBut b o ((F.av1 b hb).1) (hav₁ b hb o e)⟩
    · obtain ⟨hf, hsh₃, hav₃, J₃⟩ := h₃
      have hav : ∀ b ∈ I :: av, At s₁.heap s₃.heap b := fun b hb o e => hav₃ b hb o (hs2.extBut b o ((F'.av1 b hb).1) e)
      refine ⟨.inl hf, Sh.trans ⟨_, _, rfl⟩ hsh₃, ⟨?_, fun b hb o e => hav b (.tail _ hb) o (hav₁ b hb o e)⟩, fun b hb => ?_⟩
      · rw [take_snoc hd]; exact J₃
      · rcases List.mem_cons.mp hb with rfl | hb
        · exact hav _ (.head _)
        · rw [List.mem_singleton.mp hb]; exact hav _ (.tail _ hdl)
  · rintro s' hsh ⟨J', hav'⟩
    have e : (deps nd k).take vs.toArray.size = deps nd k := List.take_of_length_le (by rw [List.size_toArray, hints.length]; exact Nat.le_refl _)
    rw [e] at J'
    exact ⟨rfl, Sh.trans ⟨_, _, rfl⟩ hsh, hav', J'.less.congr (fun t => ((item_end hk0 t).1).symm) (fun t => ((item_end hk0 t).2.1).symm) (fun t => ((item_end hk0 t).2.2.1).symm) (fun t => ((item_end hk0 t).2.2.2).symm) (by (repeat' (first | exact List.forall_mem_nil _ | refine List.forall_mem_cons.mpr ⟨rfl, ?_⟩)))⟩
theorem loc_put {h : Heap} {L : Addr} {m : Str → Option Value} {y : Str} {v : Value} {l : List (Str × Value)} (hn : h.Ns L (fun z => if z = y then some v else m z)) (hm : ∀ y u, l.lookup y = some u → m y = some u) : Loc h L ((y, v) :: l) :=
  ⟨_, hn, fun z u hz => by
    rw [List.lookup_cons] at hz
    by_cases hyx : z = y
    · subst hyx
      simp only [beq_self_eq_true] at hz
      rw [if_pos rfl]; exact hz
    · have : (z == y) = false := by simpa using hyx
      rw [this] at hz
      rw [if_neg hyx]; exact hm z u hz⟩
def intP (q : Int → Bool) : Value → Bool
  | .int a _ => q a
  | _ => false
theorem filter_ints {q : Int → Bool} : ∀ {vs : List Value} {ns : List Int}, IntsAre vs ns → IntsAre (vs.filter (intP q)) (ns.filter q)
  | _, _, .nil => .nil
  | _, _, .cons a t r => by
    rw [List.filter_cons, List.filter_cons, show intP q (.int a t) = q a from rfl]
    split
    · exact .cons a t (filter_ints r)
    · exact filter_ints r
theorem paired_eq : ∀ {vs ys : List Value}, Paired (fun v y => y = v) vs ys → ys = vs
  | _, _, .nil => rfl
  | _, _, .cons e r => by rw [e, paired_eq r]

theorem IJ.apart {h : Heap} {dl : Nat} {DK RK YK : Int → Prop} {RL : Int → List Int} {cv : Option Value} {l : List (Str × Value)} (J : IJ prog w h₀ lo L inD rv rd nd DK RK YK RL av cv l h) (hD0 : h.get? dl = none) :
    dl ≠ L ∧ dl ≠ L + 1 ∧ dl ≠ inD ∧ dl ≠ rv ∧ dl ≠ rd := by
  refine ⟨?_, ?_, ?_, ?_, ?_⟩
  · rintro rfl
    obtain ⟨_, ⟨_, _, _, e, _⟩, _⟩ := J.loc
    rw [hD0] at e; cases e
  · rintro rfl
    obtain ⟨_, e, _⟩ := J.cel
    rw [hD0] at e; cases e
  · rintro rfl
    obtain ⟨_, q, _⟩ := J.deg
    obtain ⟨_, e, _⟩ := q.isDict
    rw [hD0] at e; cases e
  · rintro rfl
    obtain ⟨_, _, q, _⟩ := J.rev
    obtain ⟨_, e, _⟩ := q.isDict
    rw [hD0] at e; cases e
  · rintro rfl
    obtain ⟨_, ⟨_, ⟨_, e⟩, _⟩, _⟩ := J.rdy
    rw [hD0] at e; cases e
theorem init_comp (hA : A.handled = none) (F : Five lo L inD rv rd av) {k : Int} {tk : Tok} {al : Nat} {DK RK YK : Int → Prop} {RL : Int → List Int} {Q : Flow → Shared → Prop}
    (hal : IntL s.heap al (need nd k)) (hsz : (need nd k).length ≤ 8)
    (J : IJ prog w h₀ lo L inD rv rd nd DK RK YK RL av (some (.int k tk)) (("deps", .ref al) :: initLoc x D inD rv rd) s.heap)
    (hQ : ∀ (dl : Nat) s', Sh s s' → s.heap.get? dl = none → IntL s'.heap dl (deps nd k) → (∀ b o, b ≠ L → s.heap.get? b = some o → s'.heap.get? b = some o) →
      IJ prog w h₀ lo L inD rv rd nd DK RK YK RL (dl :: av) (some (.int k tk)) (("deps", .ref dl) :: initLoc x D inD rv rd) s'.heap → Q .next s') :
    wpAny (model prog w) A (exec (nthS (forBody (initLoop w)) 0) (initEnv w L)) Q Nev s := by
  obtain ⟨vs, hpl, hints⟩ := id hal
  show wpAny _ _ (exec (.Assign _ _ _) _) _ _ _
  refine wpAny_Assign_ListComp_free (cl := [("item", L + 1)]) (intP fun a => decide (a ≠ k)) (fun v y => y = v) (by rfl) (by rfl) (by decide) (by rfl) (by decide) (by rfl) (by rfl) (by rfl) (nmL J.loc (by rfl) (wpAny_pyIter_list hpl.isList ?_))
  obtain ⟨I, hIe⟩ : ∃ I : Nat, I = s.heap.objs.size := ⟨_, rfl⟩
  have hlI : @Ne Nat al I := by have := hal.lt; omega
  have hLI : @Ne Nat L I := by have : @LT.lt Nat _ L s.heap.objs.size := J.loc.lt; omega
  have ek : Ext s.heap (s.heap.push { cls := Value.type "list_iterator", data := Data.fields #[Value.ref al, Value.int 0 0] }) := Ext.push _
  obtain ⟨m, hn, hm⟩ := J.loc.at (at_ext ek)
  have W := Walks.list (prog := prog) (w := w) hA I al hlI vs.toArray
  rw [← hIe]
  refine ⟨I, _, _, _, _, _, m, rfl, W, by rw [List.size_toArray, sizeLine_eq, hints.length]; omega, ⟨⟨_, by rw [hIe]; exact Heap.get?_push_size _ rfl, rfl, rfl⟩, (hpl.isList).push _⟩, fun b hb => ?_, fun m => hLI (List.mem_singleton.mp m), hn, ⟨?_, ?_⟩, ?_⟩
  · have hsz : (s.heap.push { cls := Value.type "list_iterator", data := Data.fields #[Value.ref al, Value.int 0 0] }).objs.size = s.heap.objs.size + 1 := Heap.size_push _ _
    have := hal.lt
    show @LT.lt Nat _ b (s.heap.push _).objs.size
    rw [hsz]
    rcases List.mem_cons.mp hb with rfl | hb
    · omega
    · rw [List.mem_singleton.mp hb]; omega
  · -- the test
    intro C i v s₃ m₃ E' hC hv hn₃ hm₃ k₃ _
    obtain ⟨a, t, rfl, -⟩ := hints.at i v (by simpa using hv)
    have hc := cell_at J.cel (h' := s₃.heap) fun o e => k₃ _ o (fun q => by
      have h1 := glt e
      have h2 : (L + 1 : Nat) = I := List.mem_singleton.mp q
      omega) (ek _ _ e)
    refine wpAny_tests_one (wpAny_isTrue_Compare1 (wpAny_Name (wpAny_loadName_local (by rfl) (by rfl) hn₃ hm₃ (nmC hc (by rfl) (ne_int (wpAny_truthy_bool ⟨?_, _, _, rfl, fun _ _ e => e⟩))))))
    show (a != k) = decide (a ≠ k)
    by_cases h : a = k <;> simp [h]
  · intro C i v s₃ m₃ E' hC hv hpv hn₃ hm₃ k₃ _
    exact wpAny_Name (wpAny_loadName_local (by rfl) (by rfl) hn₃ hm₃ ⟨rfl, _, _, rfl, fun _ _ e => e⟩)
  · intro dl h' tk' ys us hD hl hp hlen hP hpair hns k'
    have hus : us = vs := list_of_places (by simpa using hlen) fun j v hj => hP j v hj
    have e := paired_eq hpair
    subst hus
    have hD0 : s.heap.get? dl = none := by
      cases q : s.heap.get? dl with
      | none => rfl
      | some o => rw [ek _ _ q] at hD; cases hD
    have kk : ∀ b o, b ≠ L → s.heap.get? b = some o → h'.get? b = some o := fun b o n e => k' b o n (fun q => by
      have h1 := glt e
      have h2 : (b : Nat) = I := List.mem_singleton.mp q
      omega) (ek _ _ e)
    refine hQ dl _ ⟨h', tk', rfl⟩ hD0 ⟨us.filter (intP fun a => decide (a ≠ k)), ?_, filter_ints hints⟩ kk ((J.more (fun _ _ e => e) hD0).locs' (F.more (J.apart hD0)) kk (loc_re (loc_put hns hm) (by (repeat' (first | exact List.forall_mem_nil _ | refine List.forall_mem_cons.mpr ⟨rfl, ?_⟩)))))
    rw [← e]; simpa using hp
theorem init_item (hA : A.handled = none) (F : Five lo L inD rv rd av) (G : Good nd) (GL : Gl w h₀) {k : Int} {tk : Tok} {al : Nat} (hkn : k < (nd.length : Int)) (hk0 : 0 ≤ k)
    (h60 : 60 ≤ lo) (hD : D < lo) (hD60 : 60 ≤ D) (DD : VD prog w h₀ D (up nd.length) FD) (avk : ∀ b ∈ av, ∃ o, s.heap.get? b = some o) (hal : IntL h₀ al (need nd k)) (hal' : al < lo)
    (J : IJ prog w h₀ lo L inD rv rd nd (degKey nd k k []) (revKey nd k k []) (rdyKey nd k k []) (revK nd k []) av (some (.int k tk)) (("deps", .ref al) :: initLoc x D inD rv rd) s.heap) :
    wpAny (model prog w) A (execs (forBody (initLoop w)) (initEnv w L))
      (fun f s' => f = .next ∧ Sh s s' ∧ (∀ b ∈ av, At s.heap s'.heap b) ∧
        IJ prog w h₀ lo L inD rv rd nd (degKey nd (k + 1) (k + 1) []) (revKey nd (k + 1) (k + 1) []) (rdyKey nd (k + 1) (k + 1) []) (revK nd (k + 1) []) av (some (.int k tk)) (initLoc x D inD rv rd) s'.heap) Nev s := by
  have hdp : ∀ t ∈ ([] : List Int), t ∈ deps nd k := fun _ h => absurd h List.not_mem_nil
  have hn8 : (need nd k).length ≤ 8 := len_le_8 (G.nodup k) fun t ht => G.small k t ht
  have hd8 : (deps nd k).length ≤ 8 := len_le_8 (G.deps_nodup k) fun t ht => G.small k t (mem_deps.mp ht).1
  obtain ⟨s1, s2, s3, s4⟩ := item_start (nd := nd) hk0 hkn
  show wpAny _ _ (execs (nthS (forBody (initLoop w)) 0 :: _) _) _ _ _
  refine wpAny_execs_cons (init_comp hA F (hal.at fun o e => J.old al o hal' e) hn8 J fun dl s1' hsh1 hdl0 hdl k1 J1 => ?_)
  obtain ⟨h1, tk1, rfl⟩ := hsh1
  dsimp only at hdl k1 J1 ⊢
  have av1 : ∀ b ∈ av, At s.heap h1 b := fun b hb o e => k1 b o (F.av1 b hb).1 e
  have F1 : Five lo L inD rv rd (dl :: av) := F.more (J.apart hdl0)
  -- deg = len(deps)
  have G1 : Gl w h1 := GL.low fun b o hb e => J1.old b o (by omega) e
  obtain ⟨us, hup, hui⟩ := id hdl
  refine wpAny_execs_cons (wpAny_Assign_Name (wpAny_Call_NameR (nmB G1 boot_len (PyProof.Rows.callWith_builtin1 (Calls.spliced_cons (nmL J1.loc (by rfl) (Calls.spliced_nil ?_)))))))
  have hus : (us.toArray.size : Int) = ((deps nd k).length : Nat) := by rw [List.size_toArray, hui.length]
  refine Calls.call_len_list hup.isList (by rw [List.size_toArray, hui.length]; omega) ?_
  rw [hus]
  refine stL J1.loc fun h2 hl2 hs2 => ?_
  dsimp only at hl2 hs2 ⊢
  have J2 := J1.locs F1 hs2 hl2
  have av2 : ∀ b ∈ dl :: av, At h1 h2 b := fun b hb => at_but hs2 (F1.av1 b hb).1
  -- in_degree[item] = deg
  obtain ⟨ks, hdg, hdk⟩ := J2.deg
  have hks8 : ks.length ≤ 8 := len_le_8 hdg.nodup fun t ht => key_small G (by omega) hdp (deg_rev ((hdk t).mp ht))
  refine wpAny_execs_cons (wpAny_Assign_Subscript (nmL J2.loc (by rfl) (nmL J2.loc (by rfl) (nmC J2.cel (by rfl) (vd_set (F' := fun t v => ∃ tk, v = .int ((deps nd t).length : Nat) tk) hdg (by omega) ⟨_, rfl⟩ (fun _ _ _ _ h => h) fun h3 hdg3 hs3 => ?_)))))
  dsimp only at hs3 ⊢
  have J3 := J2.setDeg F1 hs3 hdg3 (DK' := degKey nd (k + 1) k []) fun t => by
    rw [s1 t]
    split
    · rename_i hm
      rw [hdk t]
      exact ⟨.inl, fun h => h.elim id fun e => (hdk t).mp (e ▸ hm)⟩
    · rw [List.mem_append, List.mem_singleton, hdk t]
  have av3 : ∀ b ∈ dl :: av, At h2 h3 b := fun b hb => at_but hs3 (F1.av1 b hb).2.2.1
  -- if deg == 0: ready.append(item)
  refine wpAny_execs_cons (wpAny_If (wpAny_isTrue_Compare1 (nmL J3.loc (by rfl) (wpAny_Constant_int (eq_int (wpAny_truthy_bool ?_))))))
  have rest : ∀ (h4 : Heap) (tk4 : Nat), (∀ b ∈ dl :: av, At h3 h4 b) → IJ prog w h₀ lo L inD rv rd nd (degKey nd (k + 1) k []) (revKey nd k k []) (rdyKey nd (k + 1) k []) (revK nd k []) (dl :: av) (some (.int k tk)) (("deg", .int ((deps nd k).length : Nat) (tk1 + 1)) :: ("deps", .ref dl) :: initLoc x D inD rv rd) h4 →
      wpAny (model prog w) A (execs [nthS (forBody (initLoop w)) 4, initInner w] (initEnv w L)) (fun f s' => f = .next ∧ Sh s s' ∧ (∀ b ∈ av, At s.heap s'.heap b) ∧
        IJ prog w h₀ lo L inD rv rd nd (degKey nd (k + 1) (k + 1) []) (revKey nd (k + 1) (k + 1) []) (rdyKey nd (k + 1) (k + 1) []) (revK nd (k + 1) []) av (some (.int k tk)) (initLoc x D inD rv rd) s'.heap) Nev { s with heap := h4, toks := tk4 } := by
    intro h4 tk4 av4 J4
    have av04 : ∀ b ∈ av, At s.heap h4 b := fun b hb o e => av4 b (.tail _ hb) o (av3 b (.tail _ hb) o (av2 b (.tail _ hb) o (av1 b hb o e)))
    have hdl4 : IntL h4 dl (deps nd k) := ((hdl.at (av2 dl (.head _))).at (av3 dl (.head _))).at (av4 dl (.head _))
    obtain ⟨kr, ra, hrv, hrk, hrr, hri⟩ := J4.rev
    have hkr8 : kr.length ≤ 8 := len_le_8 hrv.nodup fun t ht => key_small G (by omega) hdp ((hrk t).mp ht)
    have r60 : 60 ≤ rv := Nat.le_trans h60 F.l3
    have fin : ∀ (h5 : Heap) (tk5 : Nat), (∀ b ∈ dl :: av, At h4 h5 b) → IJ prog w h₀ lo L inD rv rd nd (degKey nd (k + 1) k []) (revKey nd (k + 1) k []) (rdyKey nd (k + 1) k []) (revK nd k []) (dl :: av) (some (.int k tk)) (("deg", .int ((deps nd k).length : Nat) (tk1 + 1)) :: ("deps", .ref dl) :: initLoc x D inD rv rd) h5 →
        wpAny (model prog w) A (execs [initInner w] (initEnv w L)) (fun f s' => f = .next ∧ Sh s s' ∧ (∀ b ∈ av, At s.heap s'.heap b) ∧
          IJ prog w h₀ lo L inD rv rd nd (degKey nd (k + 1) (k + 1) []) (revKey nd (k + 1) (k + 1) []) (rdyKey nd (k + 1) (k + 1) []) (revK nd (k + 1) []) av (some (.int k tk)) (initLoc x D inD rv rd) s'.heap) Nev { s with heap := h5, toks := tk5 } := by
      intro h5 tk5 av5 J5
      have avk5 : ∀ b ∈ dl :: av, ∃ o, h5.get? b = some o := fun b hb => by
        rcases List.mem_cons.mp hb with rfl | hb'
        · obtain ⟨_, ⟨_, e⟩, _⟩ := hdl4
          exact ⟨_, av5 _ hb _ e⟩
        · obtain ⟨o, e⟩ := avk b hb'
          exact ⟨o, av5 b hb o (av04 b hb' o e)⟩
      refine wpAny_execs_cons (wpAny_mono (init_inner (s := { s with heap := h5, toks := tk5 }) (x := x) (D := D) hA F1 G hkn hk0 h60 hD hD60 DD avk5 (.head _) (hdl4.at (av5 dl (.head _))) J5) (fun f s6 h6 => ?_) fun _ _ e => e)
      obtain ⟨rfl, hsh6, av6, J6⟩ := h6
      exact wpAny_execs_nil ⟨rfl, Sh.trans ⟨_, _, rfl⟩ hsh6, fun b hb o e => av6 b (.tail _ hb) o (av5 b (.tail _ hb) o (av04 b hb o e)), J6.less⟩
    refine wpAny_execs_cons (wpAny_If (wpAny_isTrue_Compare1 (nmC J4.cel (by rfl) (nmL J4.loc (by rfl) (vd_notin hrv (nsm r60) (wpAny_truthy_bool ?_))))))
    by_cases hin : k ∈ kr
    · rw [if_neg (by simpa using hin)]
      refine wpAny_execs_nil (fin h4 _ (fun _ _ _ e => e) (J4.congr (fun _ => Iff.rfl) (fun t => ?_) (fun _ => Iff.rfl) (fun _ => rfl) (by (repeat' (first | exact List.forall_mem_nil _ | refine List.forall_mem_cons.mpr ⟨rfl, ?_⟩)))))
      rw [s2 t]
      exact ⟨fun h => h.elim id fun e => (hrk t).mp (e ▸ hin), .inl⟩
    · rw [if_pos (by simpa using hin)]
      refine wpAny_execs_cons (wpAny_Assign_Subscript (new_nil fun h5 hn5 _ k5 sz5 => ?_))
      obtain ⟨a, hae⟩ : ∃ a : Nat, a = h4.objs.size := ⟨_, rfl⟩
      dsimp only at hn5 sz5 k5 ⊢
      rw [← hae] at hn5 ⊢
      have J5 := J4.kept k5
      have hlo : lo ≤ a := by
        have : @LT.lt Nat _ L h4.objs.size := J4.loc.lt
        have := F.l1
        omega
      have hra : ∀ t ∈ kr, ra t ≠ a := fun t ht => by
        have := (hrr t ht).1.lt
        omega
      have hava : a ∉ dl :: av := fun m => by
        have : ∃ o, h4.get? a = some o := by
          rcases List.mem_cons.mp m with e | m'
          · obtain ⟨_, ⟨_, q⟩, _⟩ := hdl4
            rw [e]; exact ⟨_, q⟩
          · obtain ⟨o, q⟩ := avk a m'
            exact ⟨o, av04 a m' o q⟩
        obtain ⟨o, q⟩ := this
        have := glt q
        omega
      have hda : a ≠ rd := by
        obtain ⟨rl, q, _⟩ := J4.rdy
        have := q.lt
        omega
      have hne : ∀ t ∈ kr, t ≠ k := fun t ht e => hin (e ▸ ht)
      refine nmL J5.loc (by rfl) (nmC J5.cel (by rfl) (vd_set (F' := fun t v => v = .ref (if t = k then a else ra t)) (hrv.at (at_ext k5)) (by omega) (by rw [if_pos rfl]) (fun t ht hn u hu => by rw [if_neg hn]; exact hu) fun h6 hrv6 hs6 => ?_))
      rw [if_neg hin] at hrv6
      dsimp only at hs6 ⊢
      have J6 := J5.row F1 hrk (fun t ht => ⟨(hrr t ht).1.at (at_ext k5), (hrr t ht).2⟩) hri hin hs6 hrv6 hn5 hlo hda hava hra
      refine wpAny_execs_nil (fin h6 _ (fun b hb o e => at_but hs6 (F1.av1 b hb).2.2.2.1 o (k5 b o e)) (J6.congr (fun _ => Iff.rfl) s2 (fun _ => Iff.rfl) (fun t => ?_) (by (repeat' (first | exact List.forall_mem_nil _ | refine List.forall_mem_cons.mpr ⟨rfl, ?_⟩)))))
      by_cases he : t = k
      · subst he
        rw [if_pos rfl, revK_nil fun h => hin ((hrk t).mpr h)]
      · rw [if_neg he]
  by_cases h0 : ((deps nd k).length : Int) = 0
  · rw [if_pos (by simpa using h0)]
    have hdd : deps nd k = [] := List.length_eq_zero_iff.mp (by omega)
    obtain ⟨rl, hrl, hrn, hrk⟩ := J3.rdy
    have hrl8 : rl.length ≤ 8 := len_le_8 hrn fun t ht => key_small G (by omega) hdp (rdy_rev ((hrk t).mp ht))
    obtain ⟨its, hpl⟩ := hrl.plainL
    refine wpAny_execs_cons (wpAny_Expr_any (wpAny_Call_append (by rfl) (by rfl) (by rfl) (by rfl) (nmL J3.loc (by rfl) ⟨_, _, rfl, hpl, nmC J3.cel (by rfl) (app_int hrl (by omega) fun h4 hn4 hs4 => ?_)⟩)))
    refine wpAny_execs_nil (rest h4 _ (fun b hb => at_but hs4 (F1.av1 b hb).2.2.2.2) (J3.setRdy F1 hs4 hn4 (List.nodup_append.mpr ⟨hrn, List.nodup_cons.mpr ⟨List.not_mem_nil, List.nodup_nil⟩, fun a ha b hb e => s4 ((hrk k).mp (by rw [← List.mem_singleton.mp hb, ← e]; exact ha))⟩) fun t => ?_))
    rw [List.mem_append, List.mem_singleton, hrk t, s3 t]
    exact or_congr Iff.rfl ⟨fun e => ⟨e, hdd⟩, fun e => e.1⟩
  · rw [if_neg (by simpa using h0)]
    refine wpAny_execs_nil (rest h3 _ (fun _ _ _ e => e) (J3.congr (fun _ => Iff.rfl) (fun _ => Iff.rfl) (fun t => ?_) (fun _ => rfl) (by (repeat' (first | exact List.forall_mem_nil _ | refine List.forall_mem_cons.mpr ⟨rfl, ?_⟩)))))
    rw [s3 t]
    exact ⟨fun h => h.elim id fun e => absurd (by rw [e.2]; rfl) h0, .inl⟩
def NeedsAt (prog : Program) (w : World) (h : Heap) (D : Addr) (nd : Needs) : Prop := VD prog w h D (up nd.length) (fun k v => ∃ a, v = .ref a ∧ IntL h a (need nd k))
theorem up_get {n i : Nat} {k : Int} (h : (up n)[i]? = some k) : k = i ∧ i < n := by
  obtain ⟨hi, e⟩ := List.getElem?_eq_some_iff.mp h
  simp only [up, List.getElem_map, List.getElem_range, List.length_map, List.length_range] at e hi
  exact ⟨e.symm, hi⟩

theorem init_loop (hA : A.handled = none) (F : Five lo L inD rv rd []) (G : Good nd) (GL : Gl w h₀) (hlo : lo = h₀.objs.size) (hD60 : 60 ≤ D) (ND : NeedsAt prog w h₀ D nd) {cv : Option Value}
    (J : IJ prog w h₀ lo L inD rv rd nd (degKey nd 0 0 []) (revKey nd 0 0 []) (rdyKey nd 0 0 []) (revK nd 0 []) [] cv (initLoc x D inD rv rd) s.heap) :
    wpAny (model prog w) A (exec (initLoop w) (initEnv w L))
      (fun f s' => f = .next ∧ Sh s s' ∧ ∃ cv', IJ prog w h₀ lo L inD rv rd nd (degKey nd nd.length nd.length []) (revKey nd nd.length nd.length []) (rdyKey nd nd.length nd.length []) (revK nd nd.length []) [] cv' (initLoc x D inD rv rd) s'.heap) Nev s := by
  have h60 : 60 ≤ lo := hlo ▸ GL.size
  have hD : D < lo := hlo ▸ ND.lt
  obtain ⟨kvs, hdo, hks, hkF⟩ := id ND
  have hdo1 := dict_at hdo (h' := s.heap) fun o e => J.old D o hD e
  show wpAny _ _ (exec (.For _ _ _ _ _) _) _ _ _
  refine wpAny_For (wpAny_Call_items (nsm hD60) hdo1 (by rfl) (by rfl) (fun Q' h => nmL J.loc (by rfl) h) ?_)
  obtain ⟨ep, hda⟩ := (hdo1.push { cls := Value.type "dict_items", data := Data.fields #[Value.ref D] }).dictAt
  refine wpAny_pyIter_items ⟨_, Heap.get?_push_size _ rfl, rfl, rfl⟩ hda ?_
  obtain ⟨H1, hH1⟩ : ∃ H1, H1 = s.heap.push { cls := Value.type "dict_items", data := Data.fields #[Value.ref D] } := ⟨_, rfl⟩
  rw [← hH1] at hda ⊢
  dsimp only
  have e1 : Ext s.heap H1 := hH1 ▸ Ext.push _
  have z1 : H1.objs.size = s.heap.objs.size + 1 := by rw [hH1, Heap.size_push]
  obtain ⟨it, hit⟩ : ∃ it : Nat, it = H1.objs.size := ⟨_, rfl⟩
  rw [← hit]
  have hLs : @LT.lt Nat _ L s.heap.objs.size := J.loc.lt
  have hlL := F.l1
  have hit0 : s.heap.get? it = none := get_ge (by show @LE.le Nat _ _ it; omega)
  have F' : Five lo L inD rv rd [it] := F.more (J.apart hit0)
  have hDi : @Ne Nat D it := by omega
  have ekk : Ext s.heap (H1.push { cls := Value.type "dict_itemiterator", data := Data.fields #[Value.none, Value.bool false, Value.ref D, Value.int 0 0, Value.int (kvs.length : Nat) 0, Value.int (ep : Nat) 0, Value.none, Value.none] }) := e1.trans (Ext.push _)
  refine for_items hA hDi (by rw [hit]; exact Heap.get?_push_size _ rfl) (hda.push _) (fun i h => ∃ cv', IJ prog w h₀ lo L inD rv rd nd (degKey nd i i []) (revKey nd i i []) (rdyKey nd i i []) (revK nd i []) [it] cv' (initLoc x D inD rv rd) h)
    ⟨cv, J.more ekk hit0⟩ (fun i h h' k ⟨cv', J'⟩ => ⟨cv', J'.stab F' (by omega) k⟩) (by rfl) (by rfl) ?_ ?_
  · rintro i k t v s₁ hv hsh ⟨cv', J₁⟩ ⟨ok, ov, hit₁⟩ hda₁
    have hki : (up nd.length)[i]? = some k := by rw [← hks, List.getElem?_map, hv]; rfl
    obtain ⟨rfl, hin⟩ := up_get hki
    obtain ⟨v', hv', al, rfl, hal⟩ := hkF _ (List.mem_of_getElem? hki)
    have hnod : (kvs.map (·.1)).Nodup := hks ▸ up_nodup _
    rw [valueAt_of_get hnod hv] at hv'
    cases hv'
    have hal' : @LT.lt Nat _ al lo := hlo ▸ hal.lt
    show wpAny _ _ (assignInOrder [_, _] [_, _]) _ _ _
    refine wpAny_assignInOrder_more (wpAny_assign_Name (stC J₁.cel (by rfl) fun h2 hc2 hs2 => ?_))
    have J₂ := J₁.cell F' hs2 hc2
    refine wpAny_assignInOrder_more (wpAny_assign_Name (stL J₂.loc fun h3 hl3 hs3 => wpAny_assignInOrder_none ?_))
    dsimp only at hl3 hs3 ⊢
    have J₃ := J₂.locs F' hs3 hl3
    have f := F'.av1 it (.head _)
    have ait : ∀ o, s₁.heap.get? it = some o → h3.get? it = some o := fun o e => at_but hs3 f.1 o (at_but hs2 f.2.1 o e)
    refine wpAny_mono (init_item (s := { s₁ with heap := h3, toks := s₁.toks + 1 }) (x := x) (D := D) hA F' G GL (by omega) (by omega) h60 hD hD60 ND (fun b hb => ?_) hal hal' J₃) (fun f s₄ h₄ => ?_) fun _ _ e => e
    · rw [List.mem_singleton.mp hb]
      exact ⟨_, ait _ hit₁⟩
    · obtain ⟨hf, hsh₄, av₄, J₄⟩ := h₄
      refine ⟨hf, Sh.trans ⟨_, _, rfl⟩ hsh₄, ⟨_, by simpa using J₄⟩, fun o e => av₄ it (.head _) o (ait o e), fun o e => ?_⟩
      obtain ⟨o₀, hD0⟩ : ∃ o, h₀.get? D = some o := let ⟨o, q, _⟩ := ND.isDict; ⟨o, q⟩
      have q1 := J₁.old D o₀ hD hD0
      rw [e] at q1; cases q1
      exact J₄.old D _ hD hD0
  · rintro s' hsh ⟨cv', J'⟩
    have hlen : kvs.length = nd.length := by
      have := congrArg List.length hks
      simpa [up] using this
    rw [hlen] at J'
    exact ⟨rfl, Sh.trans ⟨_, _, rfl⟩ hsh, cv', J'.less⟩

theorem new_dict {prog : Program} {w : World} {A : Around} {E : Value → Shared → Prop} {s : Shared} {pos : Pos} {env : Env} {Q : Value → Shared → Prop} (h : ∀ h', (∀ F, VD prog w h' s.heap.objs.size [] F) → Ext s.heap h' → h'.objs.size = s.heap.objs.size + 1 → Q (.ref s.heap.objs.size) { s with heap := h' }) :
    wpAny (model prog w) A (eval (.Dict [] [] pos) env) Q E s :=
  wpAny_Dict_empty (h _ (fun _ => VD.new _) (Ext.push _) (Heap.size_push _ _))

theorem init_body (hA : A.handled = none) (G : Good nd) (GL : Gl w h₀) (hL : L = h₀.objs.size) (hD60 : 60 ≤ D) (ND : NeedsAt prog w h₀ D nd) {cv : Option Value} {dx : Nat}
    (k : Ext h₀ s.heap) (hloc : Loc s.heap L [("data", .ref D), ("self", .ref x)]) (hcel : s.heap.IsCell (L + 1 : Nat) cv)
    (h1 : h₀.get? x = some (instObj 43 dx)) (h2 : h₀.get? dx = some (W.dictOf [] 0)) (hdx : 60 ≤ dx) :
    wpAny (model prog w) A (execs (bodyAt w.params 26) (initEnv w L))
      (fun f s' => f = .next ∧ Sh s s' ∧ Kp [dx] h₀ s'.heap ∧ ∃ (inD rv rd : Nat) (ks ks' rdl : List Int), L < inD ∧ L < rv ∧ L < rd ∧ inD ≠ rv ∧ SelfAt s'.heap x dx inD rv rd ((things nd).length - rdl.length) ∧
        IntL s'.heap rd rdl ∧ rdl.Perm (layer nd 0) ∧ (∀ t, t ∈ ks ↔ t ∈ things nd) ∧ (∀ t, t ∈ ks' ↔ t ∈ things nd) ∧
        VD prog w s'.heap inD ks (fun t v => ∃ tk, v = .int (cnt nd (placedN nd 0) t) tk) ∧ VD prog w s'.heap rv ks' (fun t v => ∃ a : Nat, v = .ref a ∧ L ≤ a ∧ IntL s'.heap a (revOf nd t))) Nev s := by
  have h60 : 60 ≤ L := hL ▸ GL.size
  have hx : x < L := hL ▸ glt h1
  have hdL : dx < L := hL ▸ glt h2
  have hDL : D < L := hL ▸ ND.lt
  have hcl : @LT.lt Nat _ (L + 1) s.heap.objs.size := by obtain ⟨_, e, _⟩ := hcel; exact glt e
  show wpAny _ _ (execs (_ :: _ :: _ :: initLoop w :: _) _) _ _ _
  -- in_degree = {}
  refine wpAny_execs_cons (wpAny_Assign_Name (new_dict (prog := prog) (w := w) fun ha hna ka za => stL (hloc.at (at_ext ka)) fun hb hlb hsb => ?_))
  obtain ⟨inD, hinD⟩ : ∃ inD : Nat, inD = s.heap.objs.size := ⟨_, rfl⟩
  rw [← hinD] at hna hlb
  dsimp only at hlb hsb ⊢
  have zb : hb.objs.size = s.heap.objs.size + 1 := hsb.1.trans za
  have nLi : @Ne Nat inD L := by omega
  have hnb : ∀ F, VD prog w hb inD [] F := fun F => (hna F).at (at_but hsb nLi)
  have kb : Kp [L] h₀ hb := ((Kp.ext k).trans (Kp.ext ka)).trans (Kp.but hsb (.head _))
  have cb := cell_at (cell_at hcel (at_ext ka)) (at_but hsb (show @Ne Nat (L + 1) L by omega))
  -- rev = {}
  refine wpAny_execs_cons (wpAny_Assign_Name (new_dict (prog := prog) (w := w) fun hc hnc kc zc => stL (hlb.at (at_ext kc)) fun hd hld hsd => ?_))
  obtain ⟨rv, hrv⟩ : ∃ rv : Nat, rv = hb.objs.size := ⟨_, rfl⟩
  dsimp only at hnc
  rw [← hrv] at hnc hld
  dsimp only at hld hsd zc kc ⊢
  have zd : hd.objs.size = hb.objs.size + 1 := hsd.1.trans zc
  have nLr : @Ne Nat rv L := by omega
  have hnd : ∀ F, VD prog w hd rv [] F := fun F => (hnc F).at (at_but hsd nLr)
  have hndi : ∀ F, VD prog w hd inD [] F := fun F => ((hnb F).at (at_ext kc)).at (at_but hsd nLi)
  have kd : Kp [L] h₀ hd := (kb.trans (Kp.ext kc)).trans (Kp.but hsd (.head _))
  have cd := cell_at (cell_at cb (at_ext kc)) (at_but hsd (show @Ne Nat (L + 1) L by omega))
  -- ready = []
  refine wpAny_execs_cons (wpAny_Assign_Name (new_nil fun he hne _ ke ze => stL (hld.at (at_ext ke)) fun hf hlf hsf => ?_))
  obtain ⟨rd, hrd⟩ : ∃ rd : Nat, rd = hd.objs.size := ⟨_, rfl⟩
  dsimp only at hne
  rw [← hrd] at hne hlf
  dsimp only at hlf hsf ze ke ⊢
  have nLd : @Ne Nat rd L := by omega
  have hnf := hne.at (at_but hsf nLd)
  have hnfi : ∀ F, VD prog w hf inD [] F := fun F => ((hndi F).at (at_ext ke)).at (at_but hsf nLi)
  have hnfr : ∀ F, VD prog w hf rv [] F := fun F => ((hnd F).at (at_ext ke)).at (at_but hsf nLr)
  have kf : Kp [L] h₀ hf := (kd.trans (Kp.ext ke)).trans (Kp.but hsf (.head _))
  have cf := cell_at (cell_at cd (at_ext ke)) (at_but hsf (show @Ne Nat (L + 1) L by omega))
  have F : Five L L inD rv rd [] := ⟨by omega, by omega, by omega, by omega, by omega, by omega, by omega, by omega, by omega, Nat.le_refl _, by omega, by omega, by omega, fun b hb => absurd hb List.not_mem_nil⟩
  have no : ∀ {t : Int}, t ∈ ([] : List Int) ↔ False := fun {t} => ⟨fun h => absurd h List.not_mem_nil, False.elim⟩
  have J : IJ prog w h₀ L L inD rv rd nd (degKey nd 0 0 []) (revKey nd 0 0 []) (rdyKey nd 0 0 []) (revK nd 0 []) [] cv (initLoc x D inD rv rd) hf :=
    ⟨fun b o hb e => kf b o (fun m => Nat.ne_of_lt hb (List.mem_singleton.mp m)) e, ⟨[], hnfi _, fun t => no.trans ⟨False.elim, (keys_zero t).1⟩⟩,
      ⟨[], fun _ => 0, hnfr _, fun t => no.trans ⟨False.elim, (keys_zero t).2.1⟩, fun t ht => absurd ht List.not_mem_nil, fun t ht => absurd ht List.not_mem_nil⟩,
      ⟨[], hnf, List.nodup_nil, fun t => no.trans ⟨False.elim, (keys_zero t).2.2⟩⟩, hlf, cf⟩
  refine wpAny_execs_cons (wpAny_mono (init_loop (s := ⟨hf, _, _, _, _⟩) (x := x) (D := D) hA F G GL hL hD60 ND J) (fun f s₁ hs₁ => ?_) fun _ _ e => e)
  obtain ⟨rfl, ⟨hg, tkg, rfl⟩, cv', J'⟩ := hs₁
  dsimp only at J' ⊢
  obtain ⟨ks, hdg, hdk⟩ := J'.deg
  obtain ⟨kr, ra, hrw, hrk, hrr, hri⟩ := J'.rev
  obtain ⟨rdl, hrl, hrn, hry⟩ := J'.rdy
  have hkt : ∀ t, t ∈ ks ↔ t ∈ things nd := fun t => (hdk t).trans (init_end G t).1
  have hkt' : ∀ t, t ∈ kr ↔ t ∈ things nd := fun t => (hrk t).trans (init_end G t).2.1
  have hperm : rdl.Perm (layer nd 0) := perm_of hrn (ready_nodup _) fun t => (hry t).trans (init_end G t).2.2.1
  have hksp : ks.Perm (things nd) := perm_of hdg.nodup things_nodup hkt
  have ht8 := things_len (nd := nd)
  have hrl8 : rdl.length ≤ 8 := by rw [hperm.length_eq]; exact Nat.le_trans ((ready_nodup _).length_le_of_subset fun y hy => (mem_ready.mp hy).1) ht8
  have g1 := J'.old x _ hx h1
  have g2 := J'.old dx _ hdL h2
  have Gg : Gl w hg := GL.low fun b o hb e => J'.old b o (by omega) e
  have nLx : @Ne Nat L dx := by omega
  have nxL : @Ne Nat x L := by omega
  have hxd := inst_ne_dictOf h1 h2
  -- self.in_degree = in_degree
  refine wpAny_execs_cons (plainObj_wpAny_Assign_Attribute (nmL J'.loc (by rfl) (nmL J'.loc (by rfl) (sa Gg J'.loc nLx g1 g2 (by rfl) (fun _ _ => by exact Nat.le_of_ble_eq_true rfl) fun i1 l1 d1 k1 => ?_))))
  dsimp only at d1 k1 ⊢
  have G1 : Gl w i1 := Gg.low fun b o hb e => k1 b o (by show @Ne Nat b L; omega) (by show @Ne Nat b dx; omega) e
  -- self.rev = rev
  refine wpAny_execs_cons (plainObj_wpAny_Assign_Attribute (nmL l1 (by rfl) (nmL l1 (by rfl) (sa G1 l1 nLx (k1 _ _ nxL hxd g1) d1 (by rfl) (fun _ _ => by exact Nat.le_of_ble_eq_true rfl) fun i2 l2 d2 k2 => ?_))))
  dsimp only at d2 k2 ⊢
  have G2 : Gl w i2 := G1.low fun b o hb e => k2 b o (by show @Ne Nat b L; omega) (by show @Ne Nat b dx; omega) e
  -- self.ready = ready
  refine wpAny_execs_cons (plainObj_wpAny_Assign_Attribute (nmL l2 (by rfl) (nmL l2 (by rfl) (sa G2 l2 nLx (k2 _ _ nxL hxd (k1 _ _ nxL hxd g1)) d2 (by rfl) (fun _ _ => by exact Nat.le_of_ble_eq_true rfl) fun i3 l3 d3 k3 => ?_))))
  dsimp only at d3 k3 ⊢
  have G3 : Gl w i3 := G2.low fun b o hb e => k3 b o (by show @Ne Nat b L; omega) (by show @Ne Nat b dx; omega) e
  have kk : ∀ (b : Nat) o, b ≠ L → b ≠ dx → hg.get? b = some o → i3.get? b = some o := fun b o a c e => k3 b o a c (k2 b o a c (k1 b o a c e))
  have hiL : @Ne Nat inD L := by omega
  have hid : @Ne Nat inD dx := by omega
  have hrL : @Ne Nat rd L := by omega
  have hrdx : @Ne Nat rd dx := by omega
  have hdg3 := hdg.at fun o e => kk inD o hiL hid e
  have hrl3 := hrl.at fun o e => kk rd o hrL hrdx e
  -- self.remaining = len(in_degree) - len(ready)
  refine wpAny_execs_cons (plainObj_wpAny_Assign_Attribute (wpAny_BinOp (wpAny_Call_NameR (nmB G3 boot_len (PyProof.Rows.callWith_builtin1 (Calls.spliced_cons (nmL l3 (by rfl) (Calls.spliced_nil ?_))))))))
  refine vd_len hdg3 (nsm (by omega)) (by rw [hksp.length_eq]; omega) fun t0 tk0 => ?_
  dsimp only
  refine wpAny_Call_NameR (nmB G3 boot_len (PyProof.Rows.callWith_builtin1 (Calls.spliced_cons (nmL l3 (by rfl) (Calls.spliced_nil ?_)))))
  obtain ⟨us, hup, hui⟩ := id hrl3
  have hus : (us.toArray.size : Int) = rdl.length := by rw [List.size_toArray, hui.length]
  refine Calls.call_len_list hup.isList (by rw [hus]; omega) (sub_int ?_)
  rw [hus, hksp.length_eq]
  dsimp only
  refine nmL l3 (by rfl) (sa G3 l3 nLx (k3 _ _ nxL hxd (k2 _ _ nxL hxd (k1 _ _ nxL hxd g1))) d3 (by rfl) (fun _ _ => by exact Nat.le_of_ble_eq_true rfl) fun i4 l4 d4 k4 => ?_)
  dsimp only at d4 k4 ⊢
  have kk4 : ∀ (b : Nat) o, b ≠ L → b ≠ dx → hg.get? b = some o → i4.get? b = some o := fun b o a c e => k4 b o a c (kk b o a c e)
  refine wpAny_execs_nil ⟨rfl, ⟨_, _, rfl⟩, fun b m e => ?_, inD, rv, rd, ks, kr, rdl, by omega, by omega, by omega, by omega,
    ⟨⟨_, _, _, _⟩, _, _, _, _, _, _, k4 _ _ nxL hxd (k3 _ _ nxL hxd (k2 _ _ nxL hxd (k1 _ _ nxL hxd g1))), d4⟩, hrl.at fun o e => kk4 rd o hrL hrdx e, hperm, hkt, hkt',
    (hdg.at fun o e => kk4 inD o hiL hid e).mono fun t _ v ⟨tk, e⟩ => ⟨tk, by rw [e]; show Value.int _ _ = .int (cnt nd [] t : Int) tk; rw [cnt_nil]⟩,
    (hrw.at fun o e => kk4 rv o (by omega) (by omega) e).mono fun t ht v e => ⟨ra t, e, (hrr t ht).2.1, ?_⟩⟩
  · intro e'
    have hb : @LT.lt Nat _ b L := hL ▸ glt e'
    exact kk4 b _ (by omega) (fun q => e (by rw [q]; exact .head _)) (J'.old b _ hb e')
  · obtain ⟨q1, q2, q3, q4⟩ := hrr t ht
    rw [(init_end G t).2.2.2] at q1
    exact q1.at fun o e => kk4 _ o (loc_ne_list J'.loc q1).symm (show @Ne Nat (ra t) dx by omega) e
end
end Mine

namespace Mine
/-! ## the calls that law makes -/
noncomputable abbrev lawEnv (w : World) (L fa : Addr) (cd : Value) : Env := envOfC "law" (fnAt w.params 59).scope L fa cd
noncomputable abbrev lawA (w : World) (L fa : Addr) (cd : Value) : Around := callerA.deeper (lawEnv w L fa cd)

section
variable {prog : Program} {w : World} {E : Value → Shared → Prop} {s : Shared} {nd : Needs} {L fa x dx inD rv rd : Addr} {cd : Value} {rem : Int} {ks ks' : List Int} {r : Nat} {hb : Heap} {m : Str → Option Value} {l : List (Str × Value)}

theorem nocell40 : ∀ y ∈ (fnAt w.params 40).scope.names, y.2 ≠ .cell := by
  have h : ((fnAt w.params 40).scope.names.all fun y => decide (y.2 ≠ .cell)) = true := by rfl
  exact fun y hy => of_decide_eq_true (List.all_eq_true.mp h y hy)
theorem pynext_ok {A : Around} {Q : Option Value → Shared → Prop} (hA : A.handled = none) (hd : A.depth < recursionLimit) (G : Good nd) (Gb : Gl w hb) (F : Fr hb L s.heap m) (hks : ks.length ≤ 8) {rdl : List Int}
    (hkt : ∀ t, t ∈ ks ↔ t ∈ things nd) (hkt' : ∀ t, t ∈ ks' ↔ t ∈ things nd)
    (S : SelfAt s.heap x dx inD rv rd rem) (hrd : IntL s.heap rd rdl) (hperm : rdl.Perm (layer nd r)) (hne : rdl ≠ [])
    (D : VD prog w s.heap inD ks (fun t v => ∃ tk, v = .int (cnt nd (placedN nd r) t) tk))
    (RV : VD prog w s.heap rv ks' (fun t v => ∃ a, v = .ref a ∧ IntL s.heap a (revOf nd t))) (hid : inD ≠ rv ∧ inD ≠ dx) (hlo : @LE.le Nat _ 60 inD ∧ @LE.le Nat _ 60 dx)
    (hQ : ∀ s' rd' nl, Sh s s' → Kp [inD, dx] s.heap s'.heap → s.heap.objs.size ≤ rd' → SelfAt s'.heap x dx inD rv rd' (rem - nl.length) → IntL s'.heap rd' nl → nl.Perm (layer nd (r + 1)) →
      VD prog w s'.heap inD ks (fun t v => ∃ tk, v = .int (cnt nd (placedN nd (r + 1)) t) tk) → Q (some (.ref rd)) s') :
    wpAny (model prog w) A (pyNext (.ref x)) Q E s := by
  have GL : Gl w s.heap := Gb.keeps F.keep
  obtain ⟨hs, t₁, t₂, t₃, t₄, t₅, n, h1, h2⟩ := id S
  refine owit_next F Gb.X (inst_of h1 h2) (f := 40) (by rfl) (by rfl) (wpAny_call ?_)
  refine codeAny_call_def (fd := fnAt w.params 40) (body := bodyAt w.params 40) (binds := [("self", .ref x)]) hd (GL.X 40 _ (e40 w.params)) rfl GL.nolimit (GL.code (by rfl)) (b40 _)
    (BindsTo.of_eq (by rfl)) nocell40 (fun y hy => by rw [List.mem_singleton.mp hy]; rfl) (fun h₀ hns hk => ?_) (by rfl) (by rfl) (by rfl)
  refine wpAny_noRaise (wpAny_mono (next_body (A := A.deeper _) (s := { s with heap := h₀, toks := s.toks + 1 }) (x := x) (h₀ := s.heap) hA G hks GL hk hkt hkt' ⟨_, hns, fun y u hy => ?_⟩ S hrd hperm hne D RV hid ⟨hlo.1, hlo.2, GL.size⟩) (fun f s' hf => ?_) fun _ _ z => z)
  · exact hy
  · obtain ⟨rfl, hsh, kp, rd', nl, a, b, c, d, e⟩ := hf
    exact hQ s' rd' nl (Sh.trans ⟨_, _, rfl⟩ hsh) kp a b c d e

/-- the frames left out of a heap -/
def bare (h : Heap) (Ln L : Addr) : Heap := hideAll h [Ln, L]
theorem bare_of {h : Heap} {Ln L b : Addr} {o : Obj} (e : (bare h Ln L).get? b = some o) : h.get? b = some o := of_hideAll _ e
theorem bare_get {h : Heap} {Ln L b : Addr} {o : Obj} (e : h.get? b = some o) (h1 : b ≠ Ln) (h2 : b ≠ L) : (bare h Ln L).get? b = some o :=
  hideAll_get _ e fun q => by
    rcases List.mem_cons.mp q with q | q
    · exact h1 q
    · exact h2 (List.mem_singleton.mp q)
theorem leave_next {A : Around} {h : Heap} {s' : Shared} {e Ln : Addr} {cls : String} {Q : Unit → Shared → Prop} {m' : Str → Option Value} (hfr : A.frames = some [lawEnv w L fa cd]) (hx : Heap.NewExc h s'.heap e cls) (hn : h.Ns Ln m') (hl : h.Ns L m)
    (hQ : ∀ h' a0, Heap.FlyingW (bare h Ln L) [lawEnv w L fa cd] e (.type cls) a0 h' → h.UpToSlots h' → Q () { s' with heap := h' }) :
    wpAny (model prog w) (A.deeper (nextEnv w Ln)) (leaving (nextEnv w Ln) (.ref e)) Q E s' := by
  obtain ⟨ob, tp, he, hcls, hd⟩ := hx.there
  have hen : (bare h Ln L).get? e = none := by
    cases q : (bare h Ln L).get? e with
    | none => rfl
    | some o => have := bare_of q; rw [hx.new] at this; cases this
  have n1 : (bare h Ln L).get? Ln = none := hideAll_none _ (.head _)
  have n2 : (bare h Ln L).get? L = none := hideAll_none _ (.tail _ (.head _))
  have fr : h.FunFrames (bare h Ln L) [nextEnv w Ln, lawEnv w L fa cd] :=
    .cons (by show ScopeKind.function ≠ _; decide) rfl hn n1 (.cons (by show ScopeKind.function ≠ _; decide) rfl hl n2 trivial)
  refine wpAny_leaving_firstW (base := bare h Ln L) (a0 := tp) (Around.frames_deeper hfr) (fr.of_keeps fun b o hb _ => ⟨o, hx.keeps b o hb, rfl⟩) rfl he (fun b o hb => hx.keeps b o (bare_of hb)) hen hd rfl rfl fun h' hL => ?_
  obtain ⟨k1, ⟨_, _, k2⟩, k3, k4⟩ := hL
  exact hQ h' tp ⟨k1, hen, k2, by rw [← hcls]; exact k3⟩ ((Heap.UpToSlots.of_keeps hx.keeps).trans k4)

def assertTest : Stmt → Expr
  | .Assert t _ _ => t
  | _ => default
def ifBody : Stmt → List Stmt
  | .If _ b _ _ => b
  | _ => []
noncomputable abbrev nextTest (w : World) : Expr := assertTest (nthS (ifBody (nthS (bodyAt w.params 40) 1)) 0)
def assertMsg : Stmt → Expr
  | .Assert _ (some t) _ => t
  | _ => default
noncomputable abbrev nextMsg (w : World) : Expr := assertMsg (nthS (ifBody (nthS (bodyAt w.params 40) 1)) 0)
set_option maxHeartbeats 2000000 in
theorem pynext_end {A : Around} {Q : Option Value → Shared → Prop} (hA : A.handled = none) (hd : A.depth < recursionLimit) (hfr : A.frames = some [lawEnv w L fa cd]) (Gb : Gl w hb) (F : Fr hb L s.heap m)
    (S : SelfAt s.heap x dx inD rv rd rem) (hrd : IntL s.heap rd [])
    (hQ : rem = 0 → ∀ h' tk, h'.Ns L m → (∀ b o, b ≠ L → s.heap.get? b = some o → h'.get? b = some o) → Q none { s with heap := h', toks := tk })
    (hE : rem ≠ 0 → ∀ B e a0 h' tk, Heap.FlyingW B [lawEnv w L fa cd] e (.type "AssertionError") a0 h' → (∀ b o, b ≠ L → s.heap.get? b = some o → B.get? b = some o) → B.get? L = none → h'.Ns L m → E (.ref e) { s with heap := h', toks := tk }) :
    wpAny (model prog w) A (pyNext (.ref x)) Q E s := by
  have GL : Gl w s.heap := Gb.keeps F.keep
  obtain ⟨hs, t₁, t₂, t₃, t₄, t₅, n, h1, h2⟩ := id S
  refine owit_next F Gb.X (inst_of h1 h2) (f := 40) (by rfl) (by rfl) (wpAny_call ?_)
  refine codeAny_call_def (fd := fnAt w.params 40) (body := bodyAt w.params 40) (binds := [("self", .ref x)]) hd (GL.X 40 _ (e40 w.params)) rfl GL.nolimit (GL.code (by rfl)) (b40 _)
    (BindsTo.of_eq (by rfl)) nocell40 (fun y hy => by rw [List.mem_singleton.mp hy]; rfl) (fun h₀ hns hk => ?_) (by rfl) (by rfl) (by rfl)
  obtain ⟨Ln, hLn⟩ : ∃ Ln : Nat, Ln = s.heap.objs.size := ⟨_, rfl⟩
  rw [← hLn] at hns ⊢
  have hloc : Loc h₀ Ln [("self", .ref x)] := ⟨_, hns, fun y u hy => hy⟩
  have hLL : @LT.lt Nat _ L Ln := by rw [hLn]; exact F.ns.lt
  show wpAny _ _ (execs (_ :: nthS (bodyAt w.params 40) 1 :: _) _) _ _ _
  -- ready = self.ready
  refine wpAny_execs_cons (wpAny_Assign_Name (Attribute_name (nmL hloc (by rfl) (ga (GL.keeps hk) (hk _ _ h1) (hk _ _ h2) (by rfl) (stL hloc fun ha hla hsa => ?_)))))
  dsimp only at hla hsa ⊢
  have ka : Ext s.heap ha := fun b o e => at_but hsa (by show @Ne Nat b Ln; have := glt e; omega) o (hk b o e)
  obtain ⟨vs, hpl, hints⟩ := hrd.at (at_ext ka)
  cases hints
  refine wpAny_execs_cons (wpAny_If (isTrue_not (wpAny_isTrue_value (nmL hla (by rfl) (wpAny_truthy_list hpl.isList (by decide) ?_)))))
  show wpAny _ _ (execs [_, _] _) _ _ _
  dsimp only
  have hnl : ha.Ns L m := (F.ns.keeps hk).sameBut hsa (by show @Ne Nat L Ln; omega)
  obtain ⟨ml, hnn, _⟩ := id hla
  have out : ∀ {h' : Heap} {e : Addr} {cls : String} {a0 : Value}, ha.UpToSlots h' → Heap.FlyingW (bare ha Ln L) [lawEnv w L fa cd] e (.type cls) a0 h' →
      h'.Ns L m ∧ (∀ b o, b ≠ L → s.heap.get? b = some o → (bare ha Ln L).get? b = some o) ∧ (bare ha Ln L).get? L = none := fun u f =>
    ⟨u.ns hnl, fun b o hb e => bare_get (ka b o e) (by show @Ne Nat b Ln; have := glt e; omega) hb, hideAll_none _ (.tail _ (.head _))⟩
  have T : ∀ (tk : Nat) (Q' : Bool → Shared → Prop) (E' : Value → Shared → Prop), (∀ t, Q' (rem == 0) { s with heap := ha, toks := t }) →
      wpAny (model prog w) (A.deeper (nextEnv w Ln)) (isTrue (nextTest w) (nextEnv w Ln) (eval (nextTest w) (nextEnv w Ln))) Q' E' { s with heap := ha, toks := tk } := by
    intro tk Q' E' h
    refine wpAny_noRaise (wpAny_isTrue_Compare1 (Attribute_name (nmL hla (by rfl) (ga (GL.keeps ka) (ka _ _ h1) (ka _ _ h2) (by rfl) (wpAny_Constant_int (eq_int (wpAny_truthy_bool (h _))))))))
  by_cases hr : rem = 0
  · -- the assertion holds; StopIteration
    refine wpAny_execs_cons (wpAny_Assert_holds (T _ _ _ fun t₀ => ⟨by subst hr; rfl, ?_⟩))
    dsimp only
    refine wpAny_execs_cons (owsi_raiseC hA (nmB (GL.keeps ka) PyProof.Rows.Boot.«StopIteration» ⟨rfl, rfl⟩) fun h' e hm => ?_)
    refine leave_next hfr hm.newExc hnn hnl fun h2' a0 hf hu => ?_
    dsimp only at hu
    obtain ⟨o1, o2, o3⟩ := out hu hf
    obtain ⟨ob, hob, hobc⟩ := hf.there
    unfold OwitStop
    refine wpAny_isInstance (T := "StopIteration") (b := true) (show ∃ o, h2'.get? e = some o ∧ o.cls = .type "StopIteration" from ⟨ob, hob, hobc⟩) (by rw [isSubtype_type]; kernel_rfl) ?_
    rw [if_pos rfl]
    exact hQ hr _ _ o1 fun b o hb e => hf.1 b o (o2 b o hb e)
  · refine wpAny_execs_cons ?_
    show wpAny _ _ (exec (.Assert (nextTest w) (some (nextMsg w)) _) _) _ _ _
    refine wpAny_Assert_msg_new hA (wpAny_mono (T _ (fun b s₁ => b = (rem == 0) ∧ ∃ t, s₁ = { s with heap := ha, toks := t }) Nev fun t₀ => ⟨rfl, _, rfl⟩) (fun b s₁ h₁ => ?_) fun _ _ z => z.elim)
    obtain ⟨rfl, t₀, rfl⟩ := h₁
    rw [if_neg (by simpa using hr)]
    show wpAny _ _ (eval (.Constant (.str _) _ _) _) _ _ _
    refine wpAny_Constant_str ?_
    intro h' e hm
    dsimp only at hm ⊢
    refine leave_next hfr hm hnn hnl fun h2' a0 hf hu => ?_
    obtain ⟨o1, o2, o3⟩ := out hu hf
    obtain ⟨ob, hob, hobc⟩ := hf.there
    unfold OwitStop
    refine wpAny_isInstance (T := "AssertionError") (b := false) (show ∃ o, h2'.get? e = some o ∧ o.cls = .type "AssertionError" from ⟨ob, hob, hobc⟩) (by rw [isSubtype_type]; kernel_rfl) ?_
    rw [if_neg Bool.false_ne_true]
    exact hE hr _ _ _ _ _ hf o2 o3 o1
end
end Mine

namespace Mine
section
variable {prog : Program} {w : World} {E : Value → Shared → Prop} {s : Shared} {nd : Needs} {L fa x dx inD rv rd : Addr} {cd : Value} {rem : Int} {ks ks' : List Int} {r : Nat} {hb : Heap} {m : Str → Option Value} {l : List (Str × Value)}
theorem loc_mem {h : Heap} {L : Addr} {m : Str → Option Value} {l : List (Str × Value)} (hn : h.Ns L m) (hm : ∀ p ∈ l, m p.1 = some p.2) : Loc h L l :=
  ⟨m, hn, fun y u hy => hm (y, u) (mem_of_lookup hy)⟩
theorem sh_of_same {a b : Shared} (x : ∃ h tk, b = { a with heap := h, toks := tk }) : Sh a b := x

set_option maxHeartbeats 2000000 in
theorem call_top {Q : Value → Shared → Prop} {D : Nat} (G : Good nd) (GL : Gl w s.heap) (hD60 : 60 ≤ D) (ND : NeedsAt prog w s.heap D nd)
    (hQ : ∀ s' (x dx inD rv rd : Nat) (ks ks' rdl : List Int), Sh s s' → Ext s.heap s'.heap → s.heap.objs.size ≤ x → s.heap.objs.size ≤ dx → s.heap.objs.size ≤ inD → s.heap.objs.size ≤ rv → s.heap.objs.size ≤ rd → inD ≠ rv → inD ≠ dx → rv ≠ dx →
      SelfAt s'.heap x dx inD rv rd ((things nd).length - rdl.length) →
        IntL s'.heap rd rdl → rdl.Perm (layer nd 0) → (∀ t, t ∈ ks ↔ t ∈ things nd) → (∀ t, t ∈ ks' ↔ t ∈ things nd) →
        VD prog w s'.heap inD ks (fun t v => ∃ tk, v = .int (cnt nd (placedN nd 0) t) tk) → VD prog w s'.heap rv ks' (fun t v => ∃ a : Nat, v = .ref a ∧ s.heap.objs.size ≤ a ∧ IntL s'.heap a (revOf nd t)) → Q (.ref x) s') :
    wpAny (model prog w) (lawA w L fa cd) (call (.ref 43) [.ref D]) Q E s := by
  obtain ⟨hh, g, d, t, os⟩ := s
  refine wpAny_call (make_core (init := .ref 26) (makes_of GL.X (by rfl)) (looks_findIn (r := some (.ref 26)) GL.X (by rfl)) (fun self => bind_fn GL.X self (f := 26) (by rfl)) (.inl rfl) ?_)
  dsimp only at GL ND hQ ⊢
  obtain ⟨dx, hdx⟩ : ∃ dx : Nat, dx = hh.objs.size := ⟨_, rfl⟩
  obtain ⟨H, hH⟩ : ∃ H, H = (hh.push emptyDict).push (instObj 43 hh.objs.size) := ⟨_, rfl⟩
  have kH : Ext hh H := hH ▸ (Ext.push _).trans (Ext.push _)
  have zH : H.objs.size = dx + 2 := by rw [hH, Heap.size_push, Heap.size_push, hdx]
  have h2 : H.get? dx = some (W.dictOf [] 0) := by
    rw [hH, hdx]
    exact Heap.get?_push_of_some _ (Heap.get?_push_size _ rfl)
  have h1 : H.get? (dx + 1) = some (instObj 43 dx) := by
    rw [hH, hdx]
    have := Heap.get?_push_size (hh.push emptyDict) (o := instObj 43 hh.objs.size) rfl
    rwa [Heap.size_push] at this
  have G60 := GL.size
  rw [← hH, ← hdx]
  have GH : Gl w H := GL.keeps kH
  refine codeAny_call_cells (fd := fnAt w.params 26) (body := bodyAt w.params 26) (vals := [.ref (dx + 1), .ref D]) (binds := [("self", .ref (dx + 1)), ("data", .ref D)]) (by exact Nat.le_of_ble_eq_true (by kernel_rfl)) (GH.X 26 _ (e26 w.params)) rfl GH.nolimit (GH.code (by rfl)) (b26 _)
    (by rfl) (by rfl) (fun y hy => ?_) (fun s₁ X => ?_) (by rfl) (by rfl) (by rfl)
  · rcases List.mem_cons.mp hy with rfl | hy
    · exact .inl rfl
    · rw [List.mem_singleton.mp hy]; exact .inl rfl
  · have hsh : Sh ⟨H, g, d, t, os⟩ s₁ := X.toInCall.same
    have hc := X.cell "item" (H.objs.size + 1) rfl
    refine wpAny_noRaise (wpAny_mono (init_body (s := s₁) (h₀ := H) (x := dx + 1) (D := D) (nd := nd) (dx := dx) rfl G GH rfl hD60 ((VD.at ND (at_ext kH)).mono fun _ _ _ ⟨a, e, q⟩ => ⟨a, e, q.at (at_ext kH)⟩) X.toInCall.keep (loc_mem X.toInCall.ns fun p hp => ?_) hc h1 h2 (by omega)) (fun f s' hf => ?_) fun _ _ z => z)
    · rcases List.mem_cons.mp hp with rfl | hp
      · rfl
      · rw [List.mem_singleton.mp hp]; rfl
    · obtain ⟨rfl, hsh', kp, inD, rv, rd, ks, ks', rdl, l1, l2, l3, hne, S, hr, hp, k1, k2, D1, R1⟩ := hf
      refine ⟨rfl, hQ s' (dx + 1) dx inD rv rd ks ks' rdl ?_ (fun b o e => ?_) (by omega) (by omega) (by omega) (by omega) (by omega) hne (by omega) (by omega) S hr hp k1 k2 D1 (R1.mono fun _ _ _ ⟨a, e, p, q⟩ => ⟨a, e, by omega, q⟩)⟩
      · obtain ⟨h', tk, rfl⟩ := hsh.trans hsh'
        exact ⟨h', tk, rfl⟩
      · have : @LT.lt Nat _ b hh.objs.size := glt e
        exact kp b o (fun m => by have q : @Eq Nat b dx := List.mem_singleton.mp m; omega) (kH b o e)
end
end Mine

namespace Mine
section
variable {prog : Program} {w : World} {E : Value → Shared → Prop} {s : Shared} {nd : Needs} {L fa : Addr} {cd : Value}
theorem nocell54 : ∀ y ∈ (fnAt w.params 54).scope.names, y.2 ≠ .cell := by
  have h : ((fnAt w.params 54).scope.names.all fun y => decide (y.2 ≠ .cell)) = true := by rfl
  exact fun y hy => of_decide_eq_true (List.all_eq_true.mp h y hy)
set_option maxHeartbeats 1000000 in
theorem call_at {A : Around} {Q : Value → Shared → Prop} {ls : Addr} {vs : List Value} {ns : List Int} {k o : Int} {t t' : Tok} (hd : A.depth < recursionLimit) (GL : Gl w s.heap) (hl : s.heap.IsList ls vs.toArray) (hi : IntsAre vs ns) (hlen : ns.length ≤ 1000) (hk0 : 0 ≤ k)
    (hQ : ∀ s' v t, Sh s s' → Ext s.heap s'.heap → Q (.int v t) s') :
    wpAny (model prog w) A (call (.ref 54) [.ref ls, .int k t, .int o t']) Q E s := by
  refine wpAny_call ?_
  refine codeAny_call_def (fd := fnAt w.params 54) (body := bodyAt w.params 54) (binds := [("script", .ref ls), ("k", .int k t), ("other", .int o t')]) hd (GL.X 54 _ (e54 w.params)) rfl GL.nolimit (GL.code (by rfl)) (b54 _)
    (BindsTo.of_eq (by rfl)) nocell54 (fun y hy => ?_) (fun h₀ hns hk => ?_) (by rfl) (by rfl) (by rfl)
  · rcases List.mem_cons.mp hy with rfl | hy
    · rfl
    rcases List.mem_cons.mp hy with rfl | hy
    · rfl
    · rw [List.mem_singleton.mp hy]; rfl
  have hloc : Loc h₀ s.heap.objs.size [("script", .ref ls), ("k", .int k t), ("other", .int o t')] := loc_mem hns fun p hp => by
    rcases List.mem_cons.mp hp with rfl | hp
    · rfl
    rcases List.mem_cons.mp hp with rfl | hp
    · rfl
    · rw [List.mem_singleton.mp hp]; rfl
  have hl' : h₀.IsList ls vs.toArray := let ⟨o, e, c, n, d⟩ := hl; ⟨o, hk _ _ e, c, n, d⟩
  have hty : ∃ o, h₀.get? ls = some o ∧ o.cls = .type "list" := let ⟨o, e, c, _⟩ := hl'; ⟨o, e, c⟩
  have hvl := hi.length
  refine wpAny_noRaise ?_
  show wpAny _ _ (execs [_] (callEnv (fnAt w.params 54) s.heap.objs.size 54)) _ _ _
  refine wpAny_execs_cons (wpAny_Return_some (wpAny_IfExp (wpAny_isTrue_Compare1 (nmL hloc (by rfl) (wpAny_Call_NameR (nmB (GL.keeps hk) boot_len (PyProof.Rows.callWith_builtin1 (Calls.spliced_cons (nmL hloc (by rfl) (Calls.spliced_nil ?_))))))))))
  refine Calls.call_len_list hl' (by rw [List.size_toArray]; omega) (lt_int (wpAny_truthy_bool ?_))
  dsimp only
  by_cases h : k < (vs.toArray.size : Int)
  · rw [if_pos (decide_eq_true h)]
    rw [List.size_toArray] at h
    obtain ⟨v, hv⟩ : ∃ v, vs[k.toNat]? = some v := ⟨_, List.getElem?_eq_getElem (by omega)⟩
    obtain ⟨z, tz, rfl, -⟩ := hi.at _ v hv
    refine wpAny_Subscript_Name slot_list_getitem.lookup (nmL hloc (by rfl) (nmL hloc (by rfl) ⟨by exact hty, ?_⟩))
    exact wpAny_getItem_list hl' hk0 (by omega) (by simpa using hv) (hQ _ z tz ⟨_, _, rfl⟩ hk)
  · rw [if_neg (by simpa using h)]
    exact nmL hloc (by rfl) (hQ _ o t' ⟨_, _, rfl⟩ hk)
end
end Mine

namespace Mine
/-! ## a comprehension whose variable is a cell -/
section
variable {prog : Program} {w : World} {A : Around} {E : Value → Shared → Prop} {s : Shared} {env : Env}
theorem newEnv_cell {M : Model} {scope : Scope} {cl : List (Str × Addr)} {x qual : Str} {globals : Addr} {Q : Env → Shared → Prop}
    (hcells : ∀ n, cellsFrom n scope.names cl = (x, n) :: cl) (hpush : ∀ h, pushCells h scope.names = h.push { cls := .type "cell", data := .cell none })
    (hQ : Q { scope, locals := s.heap.objs.size, globals, cells := (x, s.heap.objs.size + 1) :: cl, qual, func := none, code := env.code, frame := env.frame, builtins := env.builtins }
      { s with heap := (s.heap.push { cls := .type "dict", data := .dict #[] }).push { cls := .type "cell", data := .cell none } }) :
    wpAny M A (newFunctionEnv scope globals cl [] qual none .none (some env)) Q E s := by
  simp only [newFunctionEnv, Option.isSome_some, if_true]
  refine wpAny_bind (wpAny_alloc ?_)
  refine wpAny_bind (wpAny_layCells _ (fun name kind cells => by cases hkc : kind == NameKind.cell <;> simp [hkc]) _ _ _ _ ?_)
  rw [hcells, hpush]
  refine wpAny_bind ?_
  rw [List.forIn_nil]
  refine wpAny_pure (wpAny_pure ?_)
  have : (s.heap.push { cls := .type "dict", data := .dict #[] }).objs.size = s.heap.objs.size + 1 := Heap.size_push _ _
  dsimp only
  rw [this]
  exact hQ
theorem comp_cell {iter test : Expr} {x y : Str} {px py ep : Pos} {scope : Scope} {cl : List (Str × Addr)} {pos spos : Pos} {ns : List Int} {Q : Flow → Shared → Prop} {l : List (Str × Value)} (q : Int → Bool)
    (hsw : swapsWith (.ListComp (.Name x ep) [⟨.Name x px, iter, [test], 0⟩] scope pos) (some (.Name y py)) spos.line env = pure true)
    (hclos : closureFor scope env = pure cl) (hcells : ∀ n, cellsFrom n scope.names cl = (x, n) :: cl) (hpush : ∀ h, pushCells h scope.names = h.push { cls := .type "cell", data := .cell none })
    (hkind : scope.kind = .function) (hnames : ∀ z ∈ scope.names, z.2 = .local → scope.names.lookup z.1 = some .local) (hxk : ∀ C cl', (compEnvC scope cl' C env).kindOf x = some .cell) (hdb : (x == ("__debug__" : Str)) = false)
    (hy : env.kindOf y = some .local) (hp : (env.scope.kind == .class || (env.scope.kind == .module && env.locals != env.globals)) = false) (hlen : ns.length ≤ 100)
    (h : wpAny (model prog w) A (eval iter env) (fun xv s₁ => wpAny (model prog w) A (pyIter xv) (fun it s₂ => ∃ I fp wr n P St, it = .ref I ∧ Walks prog w A I fp wr n P St ∧ n = ns.length ∧ St 0 s₂.heap ∧ (∀ b ∈ fp, b < s₂.heap.objs.size) ∧
      (∀ i v, P i v → ∃ t, ∃ a, v = .int a t ∧ ns[i]? = some a) ∧ env.locals ∉ wr ∧ Loc s₂.heap env.locals l ∧
      (∀ (C X : Addr) (i : Nat) a t (s₃ : Shared), s₂.heap.objs.size ≤ C → s₂.heap.objs.size ≤ X → ns[i]? = some a → s₃.heap.IsCell X (some (.int a t)) → Kp wr s₂.heap s₃.heap →
        wpAny (model prog w) A (isTrue test (compEnvC scope ((x, X) :: cl) C env) (eval test (compEnvC scope ((x, X) :: cl) C env))) (fun ok s₄ => ok = q a ∧ Sh s₃ s₄ ∧ Ext s₃.heap s₄.heap) Nev s₃) ∧
      (∀ D s', Sh s₂ s' → s₂.heap.objs.size ≤ D → IntL s'.heap D (ns.filter q) → Loc s'.heap env.locals ((y, .ref D) :: l) → Kp (env.locals :: wr) s₂.heap s'.heap → Q .next s')) Nev s₁) Nev s)
    (hs : ∀ x, foldedSetIterable iter env x = pure x := by intro _; rfl) :
    wpAny (model prog w) A (exec (.Assign [.Name y py] (.ListComp (.Name x ep) [⟨.Name x px, iter, [test], 0⟩] scope pos) spos) env) Q Nev s := by
  rw [exec_Assign_Name_used _ _ _ _ hsw]
  refine wpAny_bind (wpAny_standAt (wpAny_bind ?_))
  show wpAny _ A (do let _ ← comprehension (.ListComp (.Name x ep) [⟨.Name x px, iter, [test], 0⟩] scope pos) scope env _ (newList []) false (eval iter env) (some (assign (.Name y py) env))) _ _ s
  refine wpAny_bind (wpAny_mono (wpAny_comprehension_free (use := some (assign (.Name y py) env)) (Q := fun _ s' => Q .next s') rfl hs hclos hkind hnames
    (wpAny_mono h (fun xv s₁ h₁ => wpAny_mono h₁ (fun it s₂ h₂ => ?_) fun _ _ e => e) fun _ _ e => e)) (fun _ s' hq => wpAny_pure (wpAny_pure hq)) fun _ _ e => e)
  obtain ⟨I, fp, wr, n, P, St, rfl, W, rfl, hst, hfp, hP, hLw, hloc, ht, hQ⟩ := h₂
  refine wpAny_newObj_type ?_
  refine newEnv_cell hcells hpush ?_
  dsimp only
  obtain ⟨D, hD⟩ : ∃ D : Nat, D = s₂.heap.objs.size := ⟨_, rfl⟩
  obtain ⟨H, hH⟩ : ∃ H, H = ((s₂.heap.push { cls := .type "list", dict := none, data := .seq ([] : List Value).toArray }).push { cls := .type "dict", data := .dict #[] }).push { cls := .type "cell", data := .cell none } := ⟨_, rfl⟩
  have hz1 : (s₂.heap.push { cls := .type "list", dict := none, data := .seq ([] : List Value).toArray }).objs.size = D + 1 := by rw [Heap.size_push, hD]
  have hz2 : ((s₂.heap.push { cls := .type "list", dict := none, data := .seq ([] : List Value).toArray }).push { cls := .type "dict", data := .dict #[] }).objs.size = D + 2 := by rw [Heap.size_push, hz1]
  have kH : Ext s₂.heap H := hH ▸ ((Ext.push _).trans (Ext.push _)).trans (Ext.push _)
  have hacc : IntL H D [] := ⟨[], ⟨0, by rw [hH, hD]; exact Heap.get?_push_of_some _ (Heap.get?_push_of_some _ (Heap.get?_push_size _ rfl))⟩, .nil⟩
  have hC : H.Ns (D + 1 : Nat) fun _ => none := by
    have := Heap.Ns.new (s₂.heap.push { cls := .type "list", dict := none, data := .seq ([] : List Value).toArray }) (.type "dict")
    rw [hz1] at this
    rw [hH]
    exact this.keeps fun b o e => Heap.get?_push_of_some _ e
  have hX : H.IsCell (D + 2 : Nat) none := by
    have := Heap.get?_push_size ((s₂.heap.push { cls := .type "list", dict := none, data := .seq ([] : List Value).toArray }).push { cls := .type "dict", data := .dict #[] }) (o := { cls := .type "cell", data := .cell none }) rfl
    rw [hz2] at this
    rw [hH]
    exact ⟨_, this, rfl⟩
  rw [← hH, hz1, ← hD]
  obtain ⟨cenv, hcenv⟩ : ∃ cenv, cenv = compEnvC scope ((x, (D + 2 : Nat)) :: cl) (D + 1 : Nat) env := ⟨_, rfl⟩
  have hfpD : ∀ {b : Nat}, b ∈ fp → b < D := fun hb => hD ▸ hfp _ hb
  have hwrD : ∀ {b : Nat}, b ∈ wr → b < D := fun hb => hfpD (W.sub _ hb)
  have old : ∀ {b : Nat} {o}, s₂.heap.get? b = some o → b < D := fun e => by rw [hD]; exact glt e
  have hkx : cenv.kindOf x = some .cell := hcenv ▸ hxk _ _
  have hkk : cenv.scope.kind = .function := by rw [hcenv]; exact hkind
  have hcx : cenv.cells.lookup x = some (D + 2 : Nat) := by rw [hcenv]; simp [compEnvC]
  -- the loop
  have loop : ∀ s₃ : Shared, s₃ = { s₂ with heap := H } → codeAny (model prog w) A (.compLoop (.ListComp (.Name x ep) [⟨.Name x px, iter, [test], 0⟩] scope pos) 0 (.ref I) (.ref D) cenv)
      (compPost (model prog w) A Nev (some (assign (.Name y py) env)) (fun _ s' => Q .next s') (.ref D) (D + 1 : Nat)) s₃ := by
    rintro _ rfl
    refine codeAny_compLoop_tests (fun k s' => ∃ i cv m, Sh s₂ s' ∧ St i s'.heap ∧ IntL s'.heap D ((ns.take i).filter q) ∧ s'.heap.Ns (D + 1 : Nat) m ∧ s'.heap.IsCell (D + 2 : Nat) cv ∧ Kp wr s₂.heap s'.heap ∧ i ≤ ns.length ∧ k = ns.length + 1 - i) ?_ (ns.length + 1)
      ⟨0, none, _, ⟨_, _, rfl⟩, W.frame _ _ _ hst fun b _ o e => kH b o e, hacc, hC, hX, Kp.ext kH, Nat.zero_le _, rfl⟩
    rintro k s' ⟨i, cv, m, hsh, hst', hacc', hC', hX', kp, hi, rfl⟩
    by_cases hlt : i < ns.length
    · refine wpAny_noRaise (W.item i s' _ _ hlt hst' fun v h₁ tk₁ hv hst₁ hk₁ => ?_)
      obtain ⟨t, a, rfl, ha⟩ := hP i v hv
      dsimp only
      have nwD : (D : Nat) ∉ wr := fun hm => Nat.lt_irrefl _ (hwrD hm)
      have nwC : (D + 1 : Nat) ∉ wr := fun hm => by have := hwrD hm; omega
      have nwX : (D + 2 : Nat) ∉ wr := fun hm => by have := hwrD hm; omega
      refine wpAny_assign_Name (wpAny_storeName_cell hkk hkx hcx (cell_at hX' (hk₁ _ · nwX)) fun h₂ hX₂ hs₂ => ?_)
      have kp₂ : Kp wr s₂.heap h₂ := fun b o hb e => at_but hs₂ (by show @Ne Nat b (D + 2); have := old e; omega) o (hk₁ b o hb (kp b o hb e))
      have ac₂ := (hacc'.at (hk₁ _ · nwD)).at (at_but hs₂ (by show @Ne Nat D (D + 2); omega))
      have C₂ := (hC'.at' (hk₁ _ · nwC)).sameBut hs₂ (by show @Ne Nat (D + 1) (D + 2); omega)
      have st₂ := W.frame _ _ _ hst₁ fun b hb o e => at_but hs₂ (by show @Ne Nat b (D + 2); have := hfpD hb; omega) o e
      refine wpAny_tests_one (wpAny_noRaise (wpAny_mono (hcenv ▸ ht (D + 1 : Nat) (D + 2 : Nat) i a t { s' with heap := h₂, toks := tk₁ } (by show @LE.le Nat _ s₂.heap.objs.size _; omega) (by show @LE.le Nat _ s₂.heap.objs.size _; omega) ha hX₂ kp₂) (fun ok s₄ h₄ => ?_) fun _ _ e => e))
      obtain ⟨rfl, ⟨h4, tk4, rfl⟩, k4⟩ := h₄
      dsimp only at k4 ⊢
      have ac₄ := ac₂.at (at_ext k4)
      have X₄ := cell_at hX₂ (at_ext k4)
      have C₄ := C₂.at' (at_ext k4)
      have st₄ := W.frame _ _ _ st₂ fun b _ o e => k4 b o e
      have kp₄ : Kp wr s₂.heap h4 := kp₂.trans (Kp.ext k4)
      by_cases hq : q a = true
      · rw [if_pos hq]
        have hl1 : ((ns.take i).filter q).length ≤ 100 := Nat.le_trans (List.length_filter_le _ _) (Nat.le_trans (List.length_take_le _ _) (Nat.le_trans hi hlen))
        refine wpAny_noRaise (wpAny_Name (wpAny_loadName_cell hkk hkx hcx X₄ (wpAny_noRaise (app_int ac₄ (by omega) fun h5 ac₅ hs₅ => ?_))) hdb)
        refine ⟨ns.length + 1 - (i + 1), by omega, i + 1, _, m, (hsh.trans ⟨_, _, rfl⟩).trans ⟨_, _, rfl⟩, W.frame _ _ _ st₄ fun b hb o e => at_but hs₅ (by show @Ne Nat b D; have := hfpD hb; omega) o e, ?_, C₄.sameBut hs₅ (by show @Ne Nat (D + 1) D; omega), cell_at X₄ (at_but hs₅ (by show @Ne Nat (D + 2) D; omega)), fun b o hb e => at_but hs₅ (by show @Ne Nat b D; have := old e; omega) o (kp₄ b o hb e), hlt, rfl⟩
        rw [take_succ_filter q ns i a ha, if_pos hq]
        exact ac₅
      · rw [if_neg hq]
        refine ⟨ns.length + 1 - (i + 1), by omega, i + 1, _, m, (hsh.trans ⟨_, _, rfl⟩).trans ⟨_, _, rfl⟩, st₄, ?_, C₄, X₄, kp₄, hlt, rfl⟩
        rw [take_succ_filter q ns i a ha, if_neg hq, List.append_nil]
        exact ac₄
    · have hin : i = ns.length := by omega
      subst hin
      refine wpAny_noRaise (W.done s' _ _ hst' fun h₁ tk₁ hk₁ => ?_)
      have nwD : (D : Nat) ∉ wr := fun hm => Nat.lt_irrefl _ (hwrD hm)
      have nwC : (D + 1 : Nat) ∉ wr := fun hm => by have := hwrD hm; omega
      have ac₁ := hacc'.at (hk₁ _ · nwD)
      have C₁ := hC'.at' (hk₁ _ · nwC)
      rw [List.take_length] at ac₁
      have kp₁ : Kp wr s₂.heap h₁ := fun b o hb e => hk₁ b o hb (kp b o hb e)
      have hLl := hloc.lt
      have loc₁ := hloc.at (kp₁.at hLw)
      show wpAny _ A (assign (.Name y py) env (.ref D)) _ _ _
      refine wpAny_assign_Name (stL loc₁ (fun h₂ hl₂ hs₂ => ?_) hy hp)
      have LC : @Ne Nat env.locals (D + 1) := by omega
      have LD : @Ne Nat D env.locals := by omega
      refine ⟨m, C₁.sameBut hs₂ (Ne.symm LC), fun h₃ hs₃ => ?_⟩
      refine hQ D _ (hsh.trans ⟨_, _, rfl⟩) (by omega) ((ac₁.at (at_but hs₂ LD)).at (at_but hs₃ (by show @Ne Nat D (D + 1); omega))) (hl₂.at (at_but hs₃ LC)) fun b o hb e => ?_
      exact at_but hs₃ (by show @Ne Nat b (D + 1); have := old e; omega) o (at_but hs₂ (fun q => hb (q ▸ .head _)) o (kp₁ b o (fun q => hb (.tail _ q)) e))
  have lp := loop _ rfl
  have st0 : St 0 H := W.frame _ _ _ hst fun b _ o e => kH b o e
  have fin := codeAny_compStart_list lp (W.self 0 { s₂ with heap := H } _ _ st0 lp)
  rw [hcenv] at fin
  exact fin
end
end Mine

namespace Mine
/-! ## law: the things and what each needs -/
section
variable {prog : Program} {w : World} {A : Around} {E : Value → Shared → Prop} {s : Shared} {env : Env}
theorem walks_bound {I : Addr} {fp wr : List Addr} {n : Nat} {P : Nat → Value → Prop} {St : Nat → Heap → Prop} (W : Walks prog w A I fp wr n P St) : Walks prog w A I fp wr n (fun i v => i < n ∧ P i v) St :=
  ⟨W.sub, W.frame, fun i s Q E hi st hQ => W.item i s Q E hi st fun v h' tk hp => hQ v h' tk ⟨hi, hp⟩, W.done, W.self⟩
/-- an iterator over a range made -/
theorem iter_range {e : Expr} {rp rpos : Pos} {N : Nat} {K : Value → Shared → Prop} (hA : A.handled = none) (G : Gl w s.heap) (he : ∀ Q' : Value → Shared → Prop, (∀ t tk, Q' (.int N t) { s with toks := tk }) → wpAny (model prog w) A (eval e env) Q' E s) (hN : N ≤ 1000)
    (hK : ∀ I St s₂, Sh s s₂ → Ext s.heap s₂.heap → s.heap.objs.size ≤ I → I < s₂.heap.objs.size → Walks prog w A I [I] [I] N (fun i v => i < N ∧ ∃ t, v = .int (i : Nat) t) St → St 0 s₂.heap → (∀ i h, St i h → ∃ o, h.get? I = some o) → K (.ref I) s₂)
    (hse : backTo rpos (starEach [e] env) = [(false, eval e env)] := by rfl)
    (hg : env.globals = mainGlobals := by rfl) (hb : env.builtins = builtinsNs := by rfl) (hk : env.scope.kind = .function := by rfl) (hx : env.kindOf "range" = some .globalImplicit := by rfl) :
    wpAny (model prog w) A (eval (.Call (.Name "range" rp) [e] [] rpos) env) (fun xv s₁ => wpAny (model prog w) A (pyIter xv) K E s₁) E s := by
  refine wpAny_Call_NameR (nmB G boot_range ?_ (hg := hg) (hb := hb) (hk := hk) (hx := hx))
  rw [hse]
  refine PySem.callWith_type rfl (Calls.evalArgs_plain (Calls.spliced_cons (he _ fun t tk₀ => Calls.spliced_nil ?_)))
  refine call_range_1 ?_
  refine wpAny_pyIter_range (IsRange.new ..) (small_one (by decide) (by decide) (by omega) (by omega)) ?_
  have hsz : Builtin.Range.rangeSize 0 (N : Int) 1 = (N : Int) := by rw [rangeSize_one]; split <;> omega
  have e1 : (fun (i : Nat) v => ∃ t, v = Value.int (0 + (i : Nat) * 1) t) = fun (i : Nat) v => ∃ t, v = .int (i : Nat) t := by funext i v; simp
  have W := Walks.range (prog := prog) (w := w) hA (s.heap.push { cls := .type "range", data := .fields #[.int 0 tk₀, .int N t, .int 1 (tk₀ + 1)] }).objs.size 0 1 N
  rw [e1] at W
  refine hK _ _ _ ⟨_, _, rfl⟩ ((Ext.push _).trans (Ext.push _)) ?_ ?_ (walks_bound W) ?_ fun i h e => ⟨_, e⟩
  · rw [Heap.size_push]; exact Nat.le_succ _
  · show _ < (Heap.push _ _).objs.size
    rw [Heap.size_push, Heap.size_push, Heap.size_push]; exact Nat.lt_succ_self _
  · have e1 : (0 + ((0 : Nat) : Int) * 1) = 0 := by simp
    have e2 : ((N : Int) - ((0 : Nat) : Int)) = Builtin.Range.rangeSize 0 N 1 := by rw [hsz]; simp
    show IsRangeIter _ _ _ _ _
    rw [e1, e2]
    exact Heap.get?_push_size _ rfl
end

/-- law's frame and cells -/
structure LC (w : World) (hb : Heap) (L : Nat) (l : List (Str × Value)) (c1 c2 c3 : Option Value) (h : Heap) : Prop where
  g : Gl w hb
  sz : L = hb.objs.size
  ext : Ext hb h
  loc : Loc h L l
  c1 : h.IsCell (L + 1 : Nat) c1
  c2 : h.IsCell (L + 2 : Nat) c2
  c3 : h.IsCell (L + 3 : Nat) c3
namespace LC
variable {w : World} {hb h h' : Heap} {L : Nat} {l l' : List (Str × Value)} {c1 c2 c3 v : Option Value} {ls : List Addr}
theorem gl (x : LC w hb L l c1 c2 c3 h) : Gl w h := x.g.keeps x.ext
theorem lt (x : LC w hb L l c1 c2 c3 h) : L + 3 < h.objs.size := by obtain ⟨_, e, _⟩ := x.c3; exact glt e
theorem low (x : LC w hb L l c1 c2 c3 h) : 60 ≤ L := x.sz ▸ x.g.size
theorem kp (x : LC w hb L l c1 c2 c3 h) (k : Kp ls h h') (n : ∀ b ∈ ls, L + 3 < b) : LC w hb L l c1 c2 c3 h' := by
  have o : ∀ {b : Nat}, b ≤ L + 3 → b ∉ ls := fun hb' m => by have := n _ m; omega
  refine ⟨x.g, x.sz, fun b ob e => k b ob (o ?_) (x.ext b ob e), x.loc.at (k.at (o (by omega))), cell_at x.c1 (k.at (o (by omega))), cell_at x.c2 (k.at (o (by omega))), cell_at x.c3 (k.at (o (by omega)))⟩
  have := glt e
  have := x.sz
  omega
theorem kept (x : LC w hb L l c1 c2 c3 h) (k : Ext h h') : LC w hb L l c1 c2 c3 h' := x.kp (ls := []) (Kp.ext k) fun _ m => absurd m List.not_mem_nil
theorem but {a : Nat} (x : LC w hb L l c1 c2 c3 h) (s : Heap.SameBut a h h') (n : L + 3 < a) : LC w hb L l c1 c2 c3 h' := x.kp (ls := [a]) (Kp.but s (.head _)) fun b m => by rw [List.mem_singleton.mp m]; exact n
theorem old (x : LC w hb L l c1 c2 c3 h) {a : Nat} (s : Heap.SameBut a h h') (n : L ≤ a) : Ext hb h' := fun b o e => at_but s (by show @Ne Nat b a; have := glt e; have := x.sz; omega) o (x.ext b o e)
theorem locs (x : LC w hb L l c1 c2 c3 h) (s : Heap.SameBut L h h') (n : Loc h' L l') : LC w hb L l' c1 c2 c3 h' :=
  ⟨x.g, x.sz, x.old s (Nat.le_refl _), n, cell_at x.c1 (at_but s (by show @Ne Nat (L + 1) L; omega)), cell_at x.c2 (at_but s (by show @Ne Nat (L + 2) L; omega)), cell_at x.c3 (at_but s (by show @Ne Nat (L + 3) L; omega))⟩
theorem re (x : LC w hb L l c1 c2 c3 h) (k : ∀ p ∈ l', l.lookup p.1 = some p.2) : LC w hb L l' c1 c2 c3 h := { x with loc := loc_re x.loc k }
theorem set1 (x : LC w hb L l c1 c2 c3 h) (s : Heap.SameBut (L + 1 : Nat) h h') (n : h'.IsCell (L + 1 : Nat) v) : LC w hb L l v c2 c3 h' :=
  ⟨x.g, x.sz, x.old s (by omega), x.loc.at (at_but s (by show @Ne Nat L (L + 1); omega)), n, cell_at x.c2 (at_but s (by show @Ne Nat (L + 2) (L + 1); omega)), cell_at x.c3 (at_but s (by show @Ne Nat (L + 3) (L + 1); omega))⟩
theorem set2 (x : LC w hb L l c1 c2 c3 h) (s : Heap.SameBut (L + 2 : Nat) h h') (n : h'.IsCell (L + 2 : Nat) v) : LC w hb L l c1 v c3 h' :=
  ⟨x.g, x.sz, x.old s (by omega), x.loc.at (at_but s (by show @Ne Nat L (L + 2); omega)), cell_at x.c1 (at_but s (by show @Ne Nat (L + 1) (L + 2); omega)), n, cell_at x.c3 (at_but s (by show @Ne Nat (L + 3) (L + 2); omega))⟩
theorem set3 (x : LC w hb L l c1 c2 c3 h) (s : Heap.SameBut (L + 3 : Nat) h h') (n : h'.IsCell (L + 3 : Nat) v) : LC w hb L l c1 c2 v h' :=
  ⟨x.g, x.sz, x.old s (by omega), x.loc.at (at_but s (by show @Ne Nat L (L + 3); omega)), cell_at x.c1 (at_but s (by show @Ne Nat (L + 1) (L + 3); omega)), cell_at x.c2 (at_but s (by show @Ne Nat (L + 2) (L + 3); omega)), n⟩
end LC

noncomputable abbrev lawS (w : World) (i : Nat) : Stmt := nthS (bodyAt w.params 59) i
noncomputable abbrev lawJ (w : World) : Stmt := nthS (forBody (lawS w 2)) 2

theorem need_snoc {nd : Needs} {l : List Int} {k : Int} : need (nd ++ [l]) k = if k = (nd.length : Int) then l else need nd k := by
  unfold need
  split
  · rename_i h0
    by_cases hk : k = (nd.length : Int)
    · rw [if_pos hk]
      have : k.toNat = nd.length := by omega
      rw [this, List.getD_eq_getElem?_getD, List.getElem?_append_right (Nat.le_refl _)]
      simp
    · rw [if_neg hk, List.getD_eq_getElem?_getD, List.getD_eq_getElem?_getD]
      by_cases hl : k.toNat < nd.length
      · rw [List.getElem?_append_left hl]
      · rw [List.getElem?_eq_none (by simp; omega), List.getElem?_eq_none (by omega)]
  · rename_i h0
    rw [if_neg (by omega)]

theorem pow8 {j : Nat} (hj : j < 4) : ((8 : Int) ^ (j : Int).toNat).natAbs < 1073741824 := by
  match j, hj with
  | 0, _ => decide
  | 1, _ => decide
  | 2, _ => decide
  | 3, _ => decide
/-- a row under way: a list of things without repeats -/
def RowOk (h : Heap) (a : Nat) : Prop := ∃ lst, IntL h a lst ∧ lst.Nodup ∧ ∀ d ∈ lst, 0 ≤ d ∧ d < 8
def FN (h : Heap) (lo hi : Nat) (nd : Needs) (k : Int) (a : Nat) (j : Int) (v : Value) : Prop := if j = k then v = .ref a else ∃ b : Nat, v = .ref b ∧ lo < b ∧ b < hi ∧ IntL h b (need nd j)

section
variable {prog : Program} {w : World} {s : Shared} {nd : Needs} {hb : Heap} {L fa D a lo : Nat} {cd ls : Value} {cz c3 : Option Value} {k : Nat} {tk tn : Tok} {nm : Int}
structure NI (prog : Program) (w : World) (hb : Heap) (L D a lo : Nat) (nd : Needs) (k : Nat) (cz c3 : Option Value) (l : List (Str × Value)) (h : Heap) : Prop where
  lc : LC w hb L l cz (some (.ref D)) c3 h
  row : RowOk h a
  vd : VD prog w h D (up (k + 1)) (FN h lo a nd k a)
theorem NI.kp {l : List (Str × Value)} {h h' : Heap} {ls' : List Addr} (x : NI prog w hb L D a lo nd k cz c3 l h) (kk : Kp ls' h h') (n : ∀ b ∈ ls', @LT.lt Nat _ (L + 3) b ∧ @Ne Nat b D ∧ @LT.lt Nat _ a b) : NI prog w hb L D a lo nd k cz c3 l h' := by
  obtain ⟨lc, ⟨lst, r1, r2, r3⟩, vd⟩ := x
  refine ⟨lc.kp kk fun b hb => (n b hb).1, ⟨lst, r1.at (kk.at fun m => Nat.lt_irrefl _ (n _ m).2.2), r2, r3⟩, (vd.at (kk.at fun m => (n _ m).2.1 rfl)).mono fun j _ v hv => ?_⟩
  unfold FN at hv ⊢
  split
  · rename_i h; rwa [if_pos h] at hv
  · rename_i h
    rw [if_neg h] at hv
    obtain ⟨b, e, h1, h2, h3⟩ := hv
    exact ⟨b, e, h1, h2, h3.at (kk.at fun m => by have := (n _ m).2.2; omega)⟩
theorem NI.locs {l l' : List (Str × Value)} {h h' : Heap} (x : NI prog w hb L D a lo nd k cz c3 l h) (s : Heap.SameBut L h h') (n : Loc h' L l') (hlo : L + 3 < lo) (hla : lo < a) (hD : L + 3 < D) : NI prog w hb L D a lo nd k cz c3 l' h' := by
  obtain ⟨lc, ⟨lst, r1, r2, r3⟩, vd⟩ := x
  refine ⟨lc.locs s n, ⟨lst, r1.at (at_but s (by show @Ne Nat a L; omega)), r2, r3⟩, (vd.at (at_but s (by show @Ne Nat D L; omega))).mono fun j _ v hv => ?_⟩
  unfold FN at hv ⊢
  split
  · rename_i h; rwa [if_pos h] at hv
  · rename_i h
    rw [if_neg h] at hv
    obtain ⟨b, e, h1, h2, h3⟩ := hv
    exact ⟨b, e, h1, h2, h3.at (at_but s (by show @Ne Nat b L; omega))⟩
abbrev kLoc (k : Nat) (tk : Tok) (nm : Int) (tn : Tok) (ls : Value) : List (Str × Value) := [("number", .int nm tn), ("k", .int k tk), ("script", ls)]
set_option maxHeartbeats 1000000 in
theorem law_j {j : Nat} {tj : Tok} (hnm : 0 ≤ nm ∧ nm < 10000) (hj : j < 4) (hlo : L + 3 < lo) (hla : lo < a) (hD : L + 3 < D) (hDa : D ≠ a)
    (J : NI prog w hb L D a lo nd k cz c3 (("j", .int j tj) :: kLoc k tk nm tn ls) s.heap) :
    wpAny (model prog w) (lawA w L fa cd) (execs (forBody (lawJ w)) (lawEnv w L fa cd))
      (fun f s' => f = .next ∧ Sh s s' ∧ NI prog w hb L D a lo nd k cz c3 (kLoc k tk nm tn ls) s'.heap ∧ Kp [L, a] s.heap s'.heap) Nev s := by
  show wpAny _ _ (execs [_, _] _) _ _ _
  -- one = number // 4 // 8 ** j % 8
  refine wpAny_execs_cons (wpAny_Assign_Name (wpAny_BinOp (wpAny_BinOp (wpAny_BinOp (nmL J.lc.loc (by rfl) (wpAny_Constant_int (floordiv_int (by decide) ?_)))))))
  refine wpAny_BinOp (wpAny_Constant_int (nmL J.lc.loc (by rfl) (pow_int (by omega) ?_ (floordiv_int ?_ (wpAny_Constant_int (mod_int' (by decide) (stL J.lc.loc fun h1 hl1 hs1 => ?_))) (.inl (PyProof.noPylong_small (pow8 hj)))))))
  · show ((4 : Nat) : Int) * _ ≤ _
    omega
  · exact Int.pow_ne_zero (by decide)
  dsimp only at hl1 hs1 ⊢
  have J1 := J.locs hs1 hl1 hlo hla hD
  obtain ⟨one, hone⟩ : ∃ one : Int, one = ((nm.fdiv 4).fdiv (8 ^ (j : Int).toNat)).fmod 8 := ⟨_, rfl⟩
  rw [← hone] at J1 hl1
  have ho : 0 ≤ one ∧ one < 8 := by
    rw [hone, Int.fmod_eq_emod_of_nonneg _ (by decide)]
    exact ⟨Int.emod_nonneg _ (by decide), Int.emod_lt_of_pos _ (by decide)⟩
  obtain ⟨lc1, ⟨lst, r1, r2, r3⟩, vd1⟩ := id J1
  obtain ⟨vs, hpl, hints⟩ := id r1
  have hk : (k : Int) ∈ up (k + 1) := mem_up.mpr ⟨by omega, by omega⟩
  -- if one not in needs[k]
  refine wpAny_execs_cons (wpAny_If (wpAny_isTrue_Compare1 (nmL lc1.loc (by rfl) (wpAny_Subscript_Name slot_dict_getitem.lookup (nmC lc1.c2 (by rfl) (nmL lc1.loc (by rfl) ⟨vd1.typeIs, ?_⟩))))))
  refine vd_get vd1 hk fun v hv => ?_
  unfold FN at hv
  rw [if_pos rfl] at hv
  subst hv
  refine notin_list_ints hpl.isList hints (wpAny_truthy_bool ?_)
  dsimp only
  by_cases hin : one ∈ lst
  · rw [if_neg (by simpa using hin)]
    exact wpAny_execs_nil (wpAny_execs_nil ⟨rfl, ⟨_, _, rfl⟩, { J1 with lc := J1.lc.re (by (repeat' (first | exact List.forall_mem_nil _ | refine List.forall_mem_cons.mpr ⟨rfl, ?_⟩))) }, Kp.but hs1 (.head _)⟩)
  · rw [if_pos (by simpa using fun x hx (e : x = one) => hin (e ▸ hx))]
    have hl8 : lst.length ≤ 8 := len_le_8 r2 r3
    obtain ⟨its, hpL⟩ := r1.plainL
    refine wpAny_execs_cons (wpAny_Expr_any (wpAny_Call_append (by rfl) (by rfl) (by rfl) (by rfl) (wpAny_Subscript_Name slot_dict_getitem.lookup (nmC lc1.c2 (by rfl) (nmL lc1.loc (by rfl) ⟨vd1.typeIs, ?_⟩)))))
    refine vd_get vd1 hk fun v hv => ?_
    unfold FN at hv
    rw [if_pos rfl] at hv
    subst hv
    refine ⟨_, _, rfl, hpL, nmL lc1.loc (by rfl) (app_int r1 (by omega) fun h2 r2' hs2 => ?_)⟩
    dsimp only at hs2
    refine wpAny_execs_nil (wpAny_execs_nil ⟨rfl, ⟨_, _, rfl⟩, ⟨(lc1.but hs2 (by omega)).re (by (repeat' (first | exact List.forall_mem_nil _ | refine List.forall_mem_cons.mpr ⟨rfl, ?_⟩))), ⟨_, r2', ?_, ?_⟩, (vd1.at (at_but hs2 hDa)).mono fun i _ v hv => ?_⟩, (Kp.but hs1 (.head _)).trans (Kp.but hs2 (.tail _ (.head _)))⟩)
    · exact List.nodup_append.mpr ⟨r2, List.nodup_cons.mpr ⟨List.not_mem_nil, List.nodup_nil⟩, fun x hx y hy e => hin (by rw [← List.mem_singleton.mp hy, ← e]; exact hx)⟩
    · intro d hd
      rcases List.mem_append.mp hd with hd | hd
      · exact r3 d hd
      · rw [List.mem_singleton.mp hd]; exact ho
    · unfold FN at hv ⊢
      split
      · rename_i h; rwa [if_pos h] at hv
      · rename_i h
        rw [if_neg h] at hv
        obtain ⟨b, e, h1, h2, h3⟩ := hv
        exact ⟨b, e, h1, h2, h3.at (at_but hs2 (by show @Ne Nat b a; omega))⟩
end
end Mine

namespace Mine
section
variable {prog : Program} {w : World} {s : Shared} {nd : Needs} {hb : Heap} {L fa D lo : Nat} {cd : Value} {lsA : Addr} {cz c3 : Option Value} {k : Nat} {tk : Tok} {vs : List Value} {ns : List Int}
/-- the rows laid so far -/
structure RI (prog : Program) (w : World) (hb : Heap) (L D lo : Nat) (cz c3 : Option Value) (k : Nat) (l : List (Str × Value)) (h : Heap) : Prop where
  lc : LC w hb L l cz (some (.ref D)) c3 h
  vd : ∃ nd : Needs, nd.length = k ∧ (∀ j, (need nd j).Nodup) ∧ (∀ j, ∀ d ∈ need nd j, 0 ≤ d ∧ d < 8) ∧ VD prog w h D (up k) (fun j v => ∃ b : Nat, v = .ref b ∧ lo < b ∧ IntL h b (need nd j))
theorem RI.kp {l : List (Str × Value)} {h h' : Heap} {I : Nat} (x : RI prog w hb L D lo cz c3 k l h) (kk : Kp [I] h h') (n : L + 3 < I) (n2 : I ≠ D) (n3 : I ≤ lo) : RI prog w hb L D lo cz c3 k l h' := by
  obtain ⟨lc, nd, e1, e2, e3, vd⟩ := x
  refine ⟨lc.kp kk fun b m => by rw [List.mem_singleton.mp m]; exact n, nd, e1, e2, e3, (vd.at (kk.at fun m => n2 (List.mem_singleton.mp m).symm)).mono fun j _ v ⟨b, e, h1, h2⟩ => ⟨b, e, h1, h2.at (kk.at fun m => ?_)⟩⟩
  have q : @Eq Nat b I := List.mem_singleton.mp m
  omega
set_option maxHeartbeats 2000000 in
theorem law_k (hlo : L + 3 < lo) (hD : L + 3 < D) (hDl : D < lo) (hk6 : k < 6) (hl : hb.IsList lsA vs.toArray) (hi : IntsAre vs ns) (hlen : ns.length ≤ 63) (hlos : ∃ o, s.heap.get? lo = some o)
    (J : RI prog w hb L D lo cz c3 k [("k", .int k tk), ("script", .ref lsA)] s.heap) :
    wpAny (model prog w) (lawA w L fa cd) (execs (forBody (lawS w 2)) (lawEnv w L fa cd))
      (fun f s' => f = .next ∧ Sh s s' ∧ RI prog w hb L D lo cz c3 (k + 1) [("script", .ref lsA)] s'.heap ∧ (∀ o, s.heap.get? lo = some o → s'.heap.get? lo = some o)) Nev s := by
  obtain ⟨lc, nd, e1, e2, e3, vd⟩ := J
  have lst : ∀ {h : Heap}, Ext hb h → h.IsList lsA vs.toArray := fun x => let ⟨o, e, c, n, d⟩ := hl; ⟨o, x _ _ e, c, n, d⟩
  show wpAny _ _ (execs [_, _, lawJ w] _) _ _ _
  -- number = _law_at(script, 1 + k, 9 * k) % 10000
  refine wpAny_execs_cons (wpAny_Assign_Name (wpAny_BinOp (wpAny_Call_NameR (nmG lc.gl (v := .ref 54) (by rfl) ?_))))
  refine callWith_K lc.gl.X (by rfl) ?_
  refine Calls.spliced_cons (nmL lc.loc (by rfl) ?_)
  refine Calls.spliced_cons (wpAny_BinOp (wpAny_Constant_int (nmL lc.loc (by rfl) (add_int ?_))))
  refine Calls.spliced_cons (wpAny_BinOp (wpAny_Constant_int (nmL lc.loc (by rfl) (mul_int ?_))))
  refine Calls.spliced_nil ⟨lc.gl.X, ?_⟩
  refine call_at (by exact Nat.le_of_ble_eq_true (by kernel_rfl)) lc.gl (lst lc.ext) hi (by omega) (by omega) fun s1 v tv hsh1 k1 => ?_
  obtain ⟨h1, tk1, rfl⟩ := hsh1
  dsimp only at k1 ⊢
  refine wpAny_Constant_int (mod_int' (by decide) ?_)
  obtain ⟨nm, hnm⟩ : ∃ nm : Int, nm = v.fmod 10000 := ⟨_, rfl⟩
  rw [← hnm]
  have hn : 0 ≤ nm ∧ nm < 10000 := by
    rw [hnm, Int.fmod_eq_emod_of_nonneg _ (by decide)]
    exact ⟨Int.emod_nonneg _ (by decide), Int.emod_lt_of_pos _ (by decide)⟩
  have lc1 := lc.kept k1
  refine stL lc1.loc fun h2 hl2 hs2 => ?_
  dsimp only at hl2 hs2 ⊢
  have lc2 := lc1.locs hs2 hl2
  have nDL : @Ne Nat D L := by omega
  have vd2 : VD prog w h2 D (up k) (fun j v => ∃ b : Nat, v = .ref b ∧ lo < b ∧ IntL h2 b (need nd j)) :=
    ((vd.at (at_ext k1)).at (at_but hs2 nDL)).mono fun j _ v ⟨b, e, p, q⟩ => ⟨b, e, p, (q.at (at_ext k1)).at (at_but hs2 (by show @Ne Nat b L; omega))⟩
  have klo2 : ∀ o, s.heap.get? lo = some o → h2.get? lo = some o := fun o e => at_but hs2 (by show @Ne Nat lo L; omega) o (k1 _ o e)
  have z2 : lo < h2.objs.size := let ⟨o, e⟩ := hlos; glt (klo2 o e)
  -- needs[k] = []
  refine wpAny_execs_cons (wpAny_Assign_Subscript (new_nil fun h3 hn3 _ k3 z3 => ?_))
  obtain ⟨a, hae⟩ : ∃ a : Nat, a = h2.objs.size := ⟨_, rfl⟩
  dsimp only at hn3 k3 z3 ⊢
  rw [← hae] at hn3 z3 ⊢
  have lc3 := lc2.kept k3
  have hDa : D < a := by rw [hae]; exact vd2.lt
  have hkup : (k : Int) ∉ up k := fun m => by have := (mem_up.mp m).2; omega
  refine nmC lc3.c2 (by rfl) (nmL lc3.loc (by rfl) (vd_set (F' := FN h3 lo a nd k a) (vd2.at (at_ext k3)) (by simp [up]; omega) (by unfold FN; rw [if_pos rfl]) (fun j hj hjk u hu => ?_) fun h4 vd4 hs4 => ?_))
  · unfold FN
    rw [if_neg hjk]
    obtain ⟨b, e, p, q⟩ := hu
    exact ⟨b, e, p, by rw [hae]; exact q.lt, q.at (at_ext k3)⟩
  rw [if_neg hkup, ← up_succ] at vd4
  dsimp only at hs4 ⊢
  have lc4 := lc3.but hs4 hD
  have hrow4 : IntL h4 a [] := hn3.at (at_but hs4 (by show @Ne Nat a D; omega))
  have J4 : NI prog w hb L D a lo nd k cz c3 (kLoc k tk nm (tk1 + 1) (.ref lsA)) h4 :=
    ⟨lc4, ⟨[], hrow4, List.nodup_nil, fun _ m => absurd m List.not_mem_nil⟩, vd4.mono fun j _ v hv => by
      unfold FN at hv ⊢
      split
      · rename_i h; rwa [if_pos h] at hv
      · rename_i h
        rw [if_neg h] at hv
        obtain ⟨b, e, p, p', q⟩ := hv
        exact ⟨b, e, p, p', q.at (at_but hs4 (by show @Ne Nat b D; omega))⟩⟩
  have klo4 : ∀ o, s.heap.get? lo = some o → h4.get? lo = some o := fun o e => at_but hs4 (by show @Ne Nat lo D; omega) o (k3 _ o (klo2 o e))
  -- for j in range(number % 4)
  have hla : lo < a := by omega
  have hj4 : 0 ≤ nm.fmod 4 ∧ nm.fmod 4 < 4 := by
    rw [Int.fmod_eq_emod_of_nonneg _ (by decide)]
    exact ⟨Int.emod_nonneg _ (by decide), Int.emod_lt_of_pos _ (by decide)⟩
  obtain ⟨N, hN⟩ : ∃ N : Nat, nm.fmod 4 = N := ⟨(nm.fmod 4).toNat, by omega⟩
  refine wpAny_execs_cons ?_
  show wpAny _ _ (exec (.For _ _ (forBody (lawJ w)) _ _) _) _ _ _
  refine wpAny_For (iter_range (N := N) rfl lc4.gl (fun Q' hq => wpAny_BinOp (nmL lc4.loc (by rfl) (wpAny_Constant_int (mod_int' (by decide) (by rw [hN]; exact hq _ _))))) (by omega) fun I St s5 hsh5 k5 hI5 hI5' W hst _ => ?_)
  obtain ⟨h5, tk5, rfl⟩ := hsh5
  dsimp only at k5 hI5 hI5' hst ⊢
  have hDI : D < I := Nat.lt_of_lt_of_le J4.vd.lt hI5
  have haI : a < I := Nat.lt_of_lt_of_le hrow4.lt hI5
  have hstab : ∀ (l : List (Str × Value)) {h h' : Heap}, Kp [I] h h' → NI prog w hb L D a lo nd k cz c3 l h → NI prog w hb L D a lo nd k cz c3 l h' := fun l h h' kk x =>
    x.kp kk fun b m => by
      have q : @Eq Nat b I := List.mem_singleton.mp m
      refine ⟨?_, ?_, ?_⟩
      · show L + 3 < b; omega
      · show @Ne Nat b D; omega
      · show a < b; omega
  refine for_walk W (fun i h => NI prog w hb L D a lo nd k cz c3 (kLoc k tk nm (tk1 + 1) (.ref lsA)) h ∧ (∀ o, s.heap.get? lo = some o → h.get? lo = some o)) hst ?_ ?_ ?_ ?_
  · exact ⟨J4.kp (ls' := []) (Kp.ext k5) fun _ m => absurd m List.not_mem_nil, fun o e => k5 _ o (klo4 o e)⟩
  · rintro i h h' kk ⟨j1, j2⟩
    exact ⟨hstab _ kk j1, fun o e => kk lo o (fun m => by have q : @Eq Nat lo I := List.mem_singleton.mp m; omega) (j2 o e)⟩
  · rintro i v s6 hi6 ⟨_, tj, rfl⟩ hsh6 ⟨j1, j2⟩ hst6
    refine wpAny_assign_Name (stL j1.lc.loc fun h7 hl7 hs7 => ?_)
    refine wpAny_mono (law_j (s := { s6 with heap := h7, toks := s6.toks + 1 }) (fa := fa) (cd := cd) (j := i) (tj := tj) hn (by omega) hlo hla hD (by omega) (j1.locs hs7 hl7 hlo hla hD)) (fun f s8 h8 => ?_) fun _ _ e => e
    obtain ⟨rfl, hsh8, J8, kp8⟩ := h8
    dsimp only at kp8
    have kp7 : Kp [L, a] s6.heap s8.heap := (Kp.but hs7 (.head _)).trans kp8
    have nla : lo ∉ [L, a] := fun m => by
      rcases List.mem_cons.mp m with q | q
      · have q : @Eq Nat lo L := q; omega
      · have q : @Eq Nat lo a := List.mem_singleton.mp q; omega
    refine ⟨.inl rfl, Sh.trans ⟨_, _, rfl⟩ hsh8, ⟨J8, fun o e => kp7 lo o nla (j2 o e)⟩, fun b hb o e => kp7 b o (fun m => ?_) e⟩
    have q : @Eq Nat b I := List.mem_singleton.mp hb
    rcases List.mem_cons.mp m with q' | q'
    · have q' : @Eq Nat b L := q'; omega
    · have q' : @Eq Nat b a := List.mem_singleton.mp q'; omega
  · rintro s9 hsh9 ⟨j1, j2⟩
    obtain ⟨lc9, ⟨lst9, r1, r2, r3⟩, vd9⟩ := j1
    refine wpAny_execs_nil ⟨rfl, Sh.trans ⟨_, _, rfl⟩ hsh9, ⟨lc9.re (by (repeat' (first | exact List.forall_mem_nil _ | refine List.forall_mem_cons.mpr ⟨rfl, ?_⟩))), nd ++ [lst9], by simp [e1], fun j => ?_, fun j d hd => ?_, vd9.mono fun j hj v hv => ?_⟩, j2⟩
    · rw [need_snoc]
      split
      · exact r2
      · exact e2 j
    · rw [need_snoc] at hd
      split at hd
      · exact r3 d hd
      · exact e3 j d hd
    · unfold FN at hv
      rw [need_snoc, e1]
      by_cases hjk : j = (k : Int)
      · rw [if_pos hjk] at hv ⊢
        exact ⟨a, hv, hla, r1⟩
      · rw [if_neg hjk] at hv ⊢
        obtain ⟨b, e, p, p', q⟩ := hv
        exact ⟨b, e, p, q⟩
end
end Mine

namespace Mine
section
variable {prog : Program} {w : World} {s : Shared} {nd : Needs} {hb : Heap} {L fa D lo : Nat} {cd : Value} {lsA : Addr} {cz c2 c3 : Option Value} {k : Nat} {tk : Tok} {vs : List Value} {ns : List Int}
theorem law_0 (hl : hb.IsList lsA vs.toArray) (hi : IntsAre vs ns) (hlen : ns.length ≤ 63) (lc : LC w hb L [("script", .ref lsA)] cz c2 c3 s.heap) :
    wpAny (model prog w) (lawA w L fa cd) (exec (lawS w 0) (lawEnv w L fa cd))
      (fun f s' => f = .next ∧ Sh s s' ∧ ∃ (n : Nat) (t : Tok), 1 ≤ n ∧ n ≤ 6 ∧ LC w hb L [("script", .ref lsA)] (some (.int n t)) c2 c3 s'.heap) Nev s := by
  have lst : ∀ {h : Heap}, Ext hb h → h.IsList lsA vs.toArray := fun x => let ⟨o, e, c, n, d⟩ := hl; ⟨o, x _ _ e, c, n, d⟩
  show wpAny _ _ (exec (.Assign _ _ _) _) _ _ _
  refine wpAny_Assign_Name (wpAny_BinOp (wpAny_Constant_int (wpAny_BinOp (wpAny_Call_NameR (nmG lc.gl (v := .ref 54) (by rfl) ?_)))))
  refine callWith_K lc.gl.X (by rfl) ?_
  refine Calls.spliced_cons (nmL lc.loc (by rfl) ?_)
  refine Calls.spliced_cons (wpAny_Constant_int (k := 0) (pos := default) ?_)
  refine Calls.spliced_cons (wpAny_Constant_int (k := 0) (pos := default) ?_)
  refine Calls.spliced_nil ⟨lc.gl.X, ?_⟩
  refine call_at (by exact Nat.le_of_ble_eq_true (by kernel_rfl)) lc.gl (lst lc.ext) hi (by omega) (by decide) fun s1 v tv hsh1 k1 => ?_
  obtain ⟨h1, tk1, rfl⟩ := hsh1
  dsimp only at k1 ⊢
  refine wpAny_Constant_int (mod_int' (by decide) (add_int ?_))
  have lc1 := lc.kept k1
  have hn : 0 ≤ v.fmod 6 ∧ v.fmod 6 < 6 := by
    rw [Int.fmod_eq_emod_of_nonneg _ (by decide)]
    exact ⟨Int.emod_nonneg _ (by decide), Int.emod_lt_of_pos _ (by decide)⟩
  obtain ⟨n, hN⟩ : ∃ n : Nat, 1 + v.fmod 6 = n := ⟨(1 + v.fmod 6).toNat, by omega⟩
  rw [hN]
  refine stC lc1.c1 (by rfl) fun h2 hc2 hs2 => ?_
  exact ⟨rfl, ⟨_, _, rfl⟩, n, _, by omega, by omega, lc1.set1 hs2 hc2⟩
/-- the rows, once laid -/
def NV (prog : Program) (w : World) (L : Nat) (h : Heap) (D : Nat) (nd : Needs) : Prop := VD prog w h D (up nd.length) (fun j v => ∃ b : Nat, v = .ref b ∧ L + 3 < b ∧ IntL h b (need nd j))
theorem NV.needs {h : Heap} (x : NV prog w L h D nd) : NeedsAt prog w h D nd := VD.mono x fun _ _ _ ⟨b, e, _, q⟩ => ⟨b, e, q⟩
theorem NV.at {h h' : Heap} (x : NV prog w L h D nd) (k : Ext h h') : NV prog w L h' D nd := (VD.at x (at_ext k)).mono fun _ _ _ ⟨b, e, p, q⟩ => ⟨b, e, p, q.at (at_ext k)⟩
theorem NV.low {h h' : Heap} {i : Nat} (x : NV prog w L h D nd) (hD : L + 3 < D) (k : Heap.SameBut i h h') (hi : i ≤ L + 3) : NV prog w L h' D nd :=
  (VD.at x (at_but k (by show @Ne Nat D i; omega))).mono fun _ _ _ ⟨b, e, p, q⟩ => ⟨b, e, p, q.at (at_but k (by show @Ne Nat b i; omega))⟩
theorem NV.kp {h h' : Heap} {ls : List Addr} (x : NV prog w L h D nd) (k : Kp ls h h') (n : ∀ b ∈ ls, h.get? b = none ∨ @LE.le Nat _ b (L + 3)) (hD : L + 3 < D) : NV prog w L h' D nd := by
  have no : ∀ {b : Nat}, (∃ o, h.get? b = some o) → L + 3 < b → b ∉ ls := fun ⟨o, e⟩ hb m => by
    rcases n _ m with q | q
    · rw [q] at e; cases e
    · omega
  refine (VD.at x (k.at (no ?_ hD))).mono fun _ _ _ ⟨b, e, p, q⟩ => ⟨b, e, p, q.at (k.at (no ?_ p))⟩
  · obtain ⟨o, e, _⟩ := VD.isDict x
    exact ⟨o, e⟩
  · obtain ⟨_, ⟨_, e⟩, _⟩ := q
    exact ⟨_, e⟩
set_option maxHeartbeats 1000000 in
theorem law_12 {n : Nat} {tn : Tok} (hn : 1 ≤ n ∧ n ≤ 6) (hl : hb.IsList lsA vs.toArray) (hi : IntsAre vs ns) (hlen : ns.length ≤ 63) (lc : LC w hb L [("script", .ref lsA)] (some (.int n tn)) c2 c3 s.heap)
    {rest : List Stmt} {Q : Flow → Shared → Prop}
    (hQ : ∀ D s' nd, Sh s s' → L + 3 < D → Good nd → nd.length = n → LC w hb L [("script", .ref lsA)] (some (.int n tn)) (some (.ref D)) c3 s'.heap → NV prog w L s'.heap D nd →
      wpAny (model prog w) (lawA w L fa cd) (execs rest (lawEnv w L fa cd)) Q Nev s') :
    wpAny (model prog w) (lawA w L fa cd) (execs (lawS w 1 :: lawS w 2 :: rest) (lawEnv w L fa cd)) Q Nev s := by
  refine wpAny_execs_cons ?_
  show wpAny _ _ (exec (.Assign _ _ _) _) _ _ _
  refine wpAny_Assign_Name (new_dict (prog := prog) (w := w) fun h1 hn1 k1 z1 => ?_)
  obtain ⟨D, hD⟩ : ∃ D : Nat, D = s.heap.objs.size := ⟨_, rfl⟩
  dsimp only
  rw [← hD] at hn1 z1 ⊢
  have lc1 := lc.kept k1
  have hDL : L + 3 < D := by rw [hD]; exact lc.lt
  refine stC lc1.c2 (by rfl) fun h2 hc2 hs2 => ?_
  have lc2 := lc1.set2 hs2 hc2
  have hn2 : ∀ F, VD prog w h2 D [] F := fun F => (hn1 F).at (at_but hs2 (by show @Ne Nat D (L + 2); omega))
  refine wpAny_execs_cons ?_
  show wpAny _ _ (exec (.For _ _ (forBody (lawS w 2)) _ _) _) _ _ _
  refine wpAny_For (iter_range (N := n) rfl lc2.gl (fun Q' hq => nmC lc2.c1 (by rfl) (hq tn s.toks)) (by omega) fun I St s5 hsh5 k5 hI5 hI5' W hst hSt => ?_)
  obtain ⟨h5, tk5, rfl⟩ := hsh5
  dsimp only at k5 hI5 hI5' hst ⊢
  have hDI : D < I := Nat.lt_of_lt_of_le (hn2 (fun _ _ => True)).lt hI5
  have lc5 := lc2.kept k5
  refine for_walk W (fun i h => RI prog w hb L D I (some (.int n tn)) c3 i [("script", .ref lsA)] h) hst ?_ ?_ ?_ ?_
  · exact ⟨lc5, [], rfl, fun j => by unfold need; split <;> simp, fun j d hd => by unfold need at hd; split at hd <;> simp at hd, ((hn2 _).at (at_ext k5))⟩
  · intro i h h' kk j1
    exact j1.kp kk (by omega) (by omega) (Nat.le_refl _)
  · rintro i v s6 hi6 ⟨_, tj, rfl⟩ hsh6 ⟨lc6, nd, e1, e2, e3, vd6⟩ hst6
    obtain ⟨o6, ho6⟩ := hSt _ _ hst6
    refine wpAny_assign_Name (stL lc6.loc fun h7 hl7 hs7 => ?_)
    have nIL : @Ne Nat I L := by omega
    have ho7 := at_but hs7 nIL _ ho6
    refine wpAny_mono (law_k (s := { s6 with heap := h7, toks := s6.toks + 1 }) (fa := fa) (cd := cd) (k := i) (tk := tj) (by omega) hDL hDI (by omega) hl hi hlen ⟨_, ho7⟩ ⟨lc6.locs hs7 hl7, nd, e1, e2, e3, (vd6.at (at_but hs7 (by show @Ne Nat D L; omega))).mono fun _ _ _ ⟨b, e, p, q⟩ => ⟨b, e, p, q.at (at_but hs7 (by show @Ne Nat b L; omega))⟩⟩) (fun f s8 h8 => ?_) fun _ _ e => e
    obtain ⟨rfl, hsh8, J8, k8⟩ := h8
    refine ⟨.inl rfl, Sh.trans ⟨_, _, rfl⟩ hsh8, J8, fun b hb o e => ?_⟩
    rw [List.mem_singleton.mp hb] at e ⊢
    exact k8 o (at_but hs7 nIL o e)
  · rintro s9 hsh9 ⟨lc9, nd, e1, e2, e3, vd9⟩
    refine hQ D s9 nd (Sh.trans ⟨_, _, rfl⟩ hsh9) hDL ⟨by omega, e2, e3⟩ e1 lc9 ?_
    unfold NV
    rw [e1]
    exact vd9.mono fun _ _ _ ⟨b, e, p, q⟩ => ⟨b, e, by omega, q⟩
end
end Mine

namespace Mine
section
variable {prog : Program} {w : World} {A : Around} {E : Value → Shared → Prop} {s : Shared} {env : Env}
theorem ints_by {P : Nat → Value → Prop} {ns : List Int} (hP : ∀ i v, P i v → ∃ t, ∃ a, v = Value.int a t ∧ ns[i]? = some a) : ∀ (vs : List Value), vs.length = ns.length → (∀ (j : Nat) (v : Value), vs[j]? = some v → P j v) → IntsAre vs ns := by
  intro vs hl hv
  have key : ∀ (vs : List Value) (ns : List Int), vs.length = ns.length → (∀ (j : Nat) (v : Value), vs[j]? = some v → ∃ t, ∃ a, v = Value.int a t ∧ ns[j]? = some a) → IntsAre vs ns := by
    intro vs
    induction vs with
    | nil =>
      intro ns hl _
      have : ns = [] := List.length_eq_zero_iff.mp hl.symm
      subst this; exact .nil
    | cons v vs ih =>
      intro ns hl hv
      cases ns with
      | nil => simp at hl
      | cons n ns =>
        obtain ⟨t, a, rfl, e⟩ := hv 0 v rfl
        simp only [List.getElem?_cons_zero, Option.some.injEq] at e
        subst e
        exact .cons _ t (ih ns (by simpa using hl) fun j v' h' => hv (j + 1) v' h')
  exact key vs ns hl fun j v h => hP j v (hv j v h)
theorem filt {iter test : Expr} {x : Str} {px ep pos : Pos} {scope : Scope} {cl : List (Str × Addr)} {ns : List Int} {Q : Value → Shared → Prop} (q : Int → Bool)
    (hclos : closureFor scope env = pure cl) (hcell : ∀ y ∈ scope.names, y.2 ≠ .cell) (hkind : scope.kind = .function)
    (hnames : ∀ y ∈ scope.names, y.2 = .local → scope.names.lookup y.1 = some .local) (hx : scope.names.lookup x = some .local) (hdb : (x == ("__debug__" : Str)) = false) (hlen : ns.length ≤ 100)
    (h : wpAny (model prog w) A (eval iter env) (fun xv s₁ => wpAny (model prog w) A (pyIter xv) (fun it s₂ => ∃ I fp wr n P St, it = .ref I ∧ Walks prog w A I fp wr n P St ∧ n = ns.length ∧ St 0 s₂.heap ∧ (∀ b ∈ fp, b < s₂.heap.objs.size) ∧
      (∀ i v, P i v → ∃ t, ∃ a, v = .int a t ∧ ns[i]? = some a) ∧
      (∀ C (i : Nat) a t (s₃ : Shared) m₃ E', ns[i]? = some a → s₃.heap.Ns C m₃ → m₃ x = some (.int a t) → Kp wr s₂.heap s₃.heap →
        wpAny (model prog w) A (isTrue test (compEnvC scope cl C env) (eval test (compEnvC scope cl C env))) (fun ok s₄ => ok = q a ∧ Sh s₃ s₄ ∧ Ext s₃.heap s₄.heap) E' s₃) ∧
      (∀ D s', Sh s₂ s' → s₂.heap.get? D = none → IntL s'.heap D (ns.filter q) → Kp wr s₂.heap s'.heap → Q (.ref D) s')) E s₁) E s)
    (hs : ∀ x, foldedSetIterable iter env x = pure x := by intro _; rfl) :
    wpAny (model prog w) A (eval (.ListComp (.Name x ep) [⟨.Name x px, iter, [test], 0⟩] scope pos) env) Q E s := by
  refine wpAny_ListComp_free (intP q) (fun v y => y = v) hclos hcell hkind hnames hx (wpAny_mono h (fun xv s₁ h₁ => wpAny_mono h₁ (fun it s₂ h₂ => ?_) fun _ _ e => e) fun _ _ e => e) hs
  obtain ⟨I, fp, wr, n, P, St, rfl, W, rfl, hst, hfp, hP, ht, hQ⟩ := h₂
  refine ⟨I, fp, wr, _, P, St, rfl, W, by rw [sizeLine_eq]; omega, hst, hfp, ⟨?_, ?_⟩, ?_⟩
  · intro C i v s₃ m₃ E' hC hv hn₃ hm₃ k₃ _
    obtain ⟨t, a, rfl, ha⟩ := hP i v hv
    refine wpAny_tests_one (wpAny_mono (ht C i a t s₃ m₃ E' ha hn₃ hm₃ k₃) (fun ok s₄ h₄ => ?_) fun _ _ e => e)
    obtain ⟨rfl, ⟨h4, tk4, rfl⟩, k4⟩ := h₄
    exact ⟨rfl, h4, tk4, rfl, k4⟩
  · intro C i v s₃ m₃ E' hC hv hpv hn₃ hm₃ k₃ _
    have hkl : (compEnvC scope cl C env).kindOf x = some .local := lookup_relabel_local hx
    exact wpAny_Name (wpAny_loadName_local hkind hkl hn₃ hm₃ ⟨rfl, _, _, rfl, fun _ _ e => e⟩) hdb
  · intro D h' tk ys vs hD hl hp hlen' hPv hpair k'
    have hi := ints_by hP vs hlen' hPv
    have e := paired_eq hpair
    refine hQ D _ ⟨h', tk, rfl⟩ hD ⟨vs.filter (intP q), ?_, filter_ints hi⟩ k'
    rw [← e]; simpa using hp
end
theorem LC.comp {w : World} {hb h h' : Heap} {L : Nat} {l l' : List (Str × Value)} {c1 c2 c3 : Option Value} {wr : List Addr} (x : LC w hb L l c1 c2 c3 h) (k : Kp (L :: wr) h h') (n : ∀ b ∈ wr, @LT.lt Nat _ (L + 3) b) (hl : Loc h' L l') : LC w hb L l' c1 c2 c3 h' := by
  have o : ∀ {b : Nat}, b ≤ L + 3 → b ≠ L → b ∉ L :: wr := fun hb' hn m => by
    rcases List.mem_cons.mp m with q | q
    · exact hn q
    · have := n _ q; omega
  refine ⟨x.g, x.sz, fun b ob e => k b ob (o ?_ ?_) (x.ext b ob e), hl, cell_at x.c1 (k.at (o (by omega) (by omega))), cell_at x.c2 (k.at (o (by omega) (by omega))), cell_at x.c3 (k.at (o (by omega) (by omega)))⟩
  · have := glt e
    have := x.sz
    show @LE.le Nat _ b _
    omega
  · have := glt e
    have := x.sz
    show @Ne Nat b L
    omega
theorem any_eq_mem {l : List Int} {k : Int} : (l.any fun x => x == k) = decide (k ∈ l) := by
  induction l with
  | nil => rfl
  | cons a l ih =>
    rw [List.any_cons, ih]
    by_cases h : a = k
    · subst h; simp
    · have : ¬ k = a := fun e => h e.symm
      simp [h, this]
theorem up_at {n i : Nat} (h : i < n) : (up n)[i]? = some (i : Int) := by
  unfold up
  rw [List.getElem?_map, List.getElem?_range h]; rfl
section
variable {prog : Program} {w : World} {s : Shared} {nd : Needs} {hb : Heap} {L fa D : Nat} {cd : Value} {lsV : Value} {c3 : Option Value} {tn : Tok}
set_option maxHeartbeats 2000000 in
theorem law_3 (hn : nd.length ≤ 6) (G : Good nd) (hD : L + 3 < D) (lc : LC w hb L [("script", lsV)] (some (.int nd.length tn)) (some (.ref D)) c3 s.heap) (nv : NV prog w L s.heap D nd) {Q : Flow → Shared → Prop}
    (hQ : ∀ T s', Sh s s' → L + 3 < T → LC w hb L [("things", .ref T), ("script", lsV)] (some (.int nd.length tn)) (some (.ref D)) c3 s'.heap → NV prog w L s'.heap D nd → IntL s'.heap T (things nd) → Q .next s') :
    wpAny (model prog w) (lawA w L fa cd) (exec (lawS w 3) (lawEnv w L fa cd)) Q Nev s := by
  show wpAny _ _ (exec (.Assign _ _ _) _) _ _ _
  refine comp_cell (cl := [("size", L + 1), ("needs", L + 2)]) (ns := up 8) (l := [("script", lsV)]) (isThing nd) (by rfl) (by rfl) (fun _ => by rfl) (fun _ => by rfl) (by rfl) (by decide) (fun _ _ => by rfl) (by decide) (by rfl) (by rfl) (by decide) ?_
  refine iter_range (N := 8) rfl lc.gl (fun Q' hq => wpAny_Constant_int (hq _ _)) (by decide) fun I St s2 hsh2 k2 hI2 hI2' W hst hSt => ?_
  obtain ⟨h2, tk2, rfl⟩ := hsh2
  dsimp only at k2 hI2 hI2' hst ⊢
  have lc2 := lc.kept k2
  have nv2 := nv.at k2
  have hLI : @LT.lt Nat _ (L + 3) I := Nat.lt_of_lt_of_le lc.lt hI2
  refine ⟨I, [I], [I], _, _, St, rfl, W, rfl, hst, fun b m => by rw [List.mem_singleton.mp m]; exact hI2', ?_, ?_, lc2.loc, ?_, ?_⟩
  · rintro i v ⟨hi, t, rfl⟩
    exact ⟨t, _, rfl, up_at hi⟩
  · intro m
    have q : @Eq Nat L I := List.mem_singleton.mp m
    omega
  · intro C X i a t s₃ hC hX ha hcX kp
    have lc3 := lc2.kp kp fun b m => by rw [List.mem_singleton.mp m]; exact hLI
    have nv3 : NV prog w L s₃.heap D nd := nv.kp (ls := [I]) ((Kp.ext k2).trans kp) (fun b m => by rw [List.mem_singleton.mp m]; exact .inl (get_ge hI2)) hD
    obtain ⟨rfl, hi8⟩ := up_get ha
    refine wpAny_isTrue_BoolOp (wpAny_allTrue_Or_cons (wpAny_isTrue_Compare1 (nmC hcX (by rfl) (nmC lc3.c1 (by rfl) (lt_int (wpAny_truthy_bool ?_))))))
    by_cases hlt : ((i : Nat) : Int) < (nd.length : Int)
    · rw [if_pos (decide_eq_true hlt)]
      exact ⟨by unfold isThing; rw [decide_eq_true hlt]; rfl, Sh.refl _, fun _ _ e => e⟩
    · rw [if_neg (by simpa using hlt)]
      refine wpAny_allTrue_Or_cons (wpAny_isTrue_Compare1 ?_)
      refine filt (cl := [("needs", L + 2), ("k", X)]) (ns := up nd.length) (fun o => decide (((i : Nat) : Int) ∈ need nd o)) (by rfl) (by decide) (by rfl) (by decide) (by rfl) (by decide) (by simp [up]; omega) ?_
      refine iter_range (N := nd.length) rfl lc3.gl (fun Q' hq => nmC lc3.c1 (by rfl) (hq _ s₃.toks)) (by omega) fun I' St' s4 hsh4 k4 hI4 hI4' W' hst' _ => ?_
      obtain ⟨h4, tk4, rfl⟩ := hsh4
      dsimp only at k4 hI4 hI4' hst' ⊢
      have cX4 := cell_at hcX (at_ext k4)
      refine ⟨I', [I'], [I'], _, _, St', rfl, W', by simp [up], hst', fun b m => by rw [List.mem_singleton.mp m]; exact hI4', ?_, ?_, ?_⟩
      · rintro i v ⟨hi, t, rfl⟩
        exact ⟨t, _, rfl, up_at hi⟩
      · intro C' j o t' s₅ m₅ E' hj hns hm kp5
        have k5 : Ext s₃.heap s₅.heap := fun b o e => kp5 b o (fun m => by
          have q : @Eq Nat b I' := List.mem_singleton.mp m
          have := glt e
          have hI4 : @LE.le Nat _ s₃.heap.objs.size I' := hI4
          omega) (k4 b o e)
        have lc5 := lc3.kept k5
        have nv5 := nv3.at k5
        have cX5 := cell_at hcX (at_ext k5)
        obtain ⟨rfl, hjn⟩ := up_get hj
        refine wpAny_isTrue_Compare1 (nmC cX5 (by rfl) (wpAny_Subscript_Name slot_dict_getitem.lookup (nmC lc5.c2 (by rfl) (wpAny_Name (wpAny_loadName_local (by rfl) (by rfl) hns hm ⟨VD.typeIs nv5, ?_⟩)))))
        refine vd_get nv5 (mem_up.mpr ⟨by omega, by omega⟩) ?_
        rintro _ ⟨b, rfl, hb, us, hpl, hints⟩
        refine in_list_ints hpl.isList hints (wpAny_truthy_bool ⟨?_, ⟨_, _, rfl⟩, fun _ _ e => e⟩)
        exact any_eq_mem
      · intro R s' hsh' hR hRL kp'
        have k' : Ext s₃.heap s'.heap := fun b o e => kp' b o (fun m => by
          have q : @Eq Nat b I' := List.mem_singleton.mp m
          have := glt e
          have hI4 : @LE.le Nat _ s₃.heap.objs.size I' := hI4
          omega) (k4 b o e)
        refine new_nil fun h6 hn6 _ k6 z6 => ?_
        obtain ⟨us, hup, hui⟩ := hRL.at (at_ext k6)
        obtain ⟨us', hup', hui'⟩ := hn6
        refine ne_intsK hup.isList hui hup'.isList hui' (by exact Nat.le_of_ble_eq_true (by kernel_rfl)) (wpAny_truthy_bool ?_)
        have hT : isThing nd (i : Nat) = !decide ((up nd.length).filter (fun o => decide (((i : Nat) : Int) ∈ need nd o)) = []) := by
          unfold isThing
          rw [decide_eq_false hlt, Bool.false_or]
          by_cases hex : ∃ o ∈ up nd.length, ((i : Nat) : Int) ∈ need nd o
          · rw [decide_eq_true hex]
            obtain ⟨o, ho, hk⟩ := hex
            have : (up nd.length).filter (fun o => decide (((i : Nat) : Int) ∈ need nd o)) ≠ [] := fun e => by
              have m : o ∈ (up nd.length).filter (fun o => decide (((i : Nat) : Int) ∈ need nd o)) := List.mem_filter.mpr ⟨ho, decide_eq_true hk⟩
              rw [e] at m; exact absurd m List.not_mem_nil
            rw [decide_eq_false this]; rfl
          · rw [decide_eq_false hex]
            have : (up nd.length).filter (fun o => decide (((i : Nat) : Int) ∈ need nd o)) = [] := List.filter_eq_nil_iff.mpr fun o ho hk => hex ⟨o, ho, of_decide_eq_true hk⟩
            rw [decide_eq_true this]; rfl
        rw [hT]
        have hsh6 : Sh s₃ { s' with heap := h6 } := (Sh.trans ⟨_, _, rfl⟩ hsh').trans ⟨_, _, rfl⟩
        have k36 : Ext s₃.heap h6 := fun b o e => k6 b o (k' b o e)
        generalize (!decide ((up nd.length).filter (fun o => decide (((i : Nat) : Int) ∈ need nd o)) = [])) = b
        cases b with
        | true => exact ⟨rfl, hsh6, k36⟩
        | false => exact wpAny_allTrue_Or_nil ⟨rfl, hsh6, k36⟩
  · intro T s' hsh hT hTL hloc kp
    have hTD : L + 3 < T := Nat.lt_of_lt_of_le lc2.lt hT
    refine hQ T s' (Sh.trans ⟨_, _, rfl⟩ hsh) hTD (lc2.comp kp (fun b m => by rw [List.mem_singleton.mp m]; exact hLI) hloc) ?_ hTL
    refine nv.kp (ls := [L, I]) ((Kp.ext k2).trans kp) (fun b m => ?_) hD
    rcases List.mem_cons.mp m with q | q
    · exact .inr (by rw [q]; exact Nat.le_add_right _ _)
    · rw [List.mem_singleton.mp q]; exact .inl (get_ge hI2)
end
end Mine

namespace Mine
section
variable {prog : Program} {w : World} {A : Around} {E : Value → Shared → Prop} {s : Shared} {env : Env}
theorem add_ints {a b L : Addr} {l : List (Str × Value)} {x y : List Int} {Q : Value → Shared → Prop} (hl : Loc s.heap L l) (ha : IntL s.heap a x) (hb : IntL s.heap b y) (hz : x.length + y.length ≤ 1000)
    (h : ∀ h', Loc h' L l → (∀ b o, b ≠ L → s.heap.get? b = some o → h'.get? b = some o) → IntL h' s.heap.objs.size (x ++ y) → Q (.ref s.heap.objs.size) { s with heap := h' }) :
    wpAny (model prog w) A (binaryOp .Add (.ref a) (.ref b)) Q E s := by
  obtain ⟨m, hn, hm⟩ := hl
  obtain ⟨vs, hp, hi⟩ := ha
  obtain ⟨ws, hq, hj⟩ := hb
  have F : Fr {} L s.heap m := ⟨hn, fun b o e => (by rw [get_empty] at e; exact nomatch e), Nat.zero_le _⟩
  have N : News {} L s.heap (restOf s.heap L L) := fun p hp => by
    obtain ⟨a, b, c⟩ := mem_restOf.mp hp
    exact ⟨c, a, get_empty _⟩
  refine add_lists (hsz := by rw [hi.length, hj.length, sizeLine_eq]; omega) F N hp.isList hq.isList fun h' F' N' => h h' ⟨m, F'.ns, hm⟩ (fun b o n e => (N' (b, o) (.tail _ (mem_restOf.mpr ⟨n, n, e⟩))).1) ⟨_, ⟨_, (N' _ (.head _)).1⟩, hi.append hj⟩
end
section
variable {prog : Program} {w : World} {s : Shared} {nd : Needs} {hb : Heap} {L fa D T : Nat} {cd : Value} {lsV : Value} {c1 c2 c3 : Option Value} {tn : Tok}
set_option maxHeartbeats 1000000 in
theorem law_4 (lc : LC w hb L [("things", .ref T), ("script", lsV)] c1 c2 c3 s.heap) {Q : Flow → Shared → Prop}
    (hQ : ∀ (pl due : Nat) s', Sh s s' → s.heap.objs.size ≤ pl → L + 3 < pl → L + 3 < due → pl < due → Kp [L, L + 3] s.heap s'.heap → IntL s'.heap pl [] → RefL s'.heap due [] →
      LC w hb L [("due", .ref due), ("things", .ref T), ("script", lsV)] c1 c2 (some (.ref pl)) s'.heap → Q .next s') :
    wpAny (model prog w) (lawA w L fa cd) (exec (lawS w 4) (lawEnv w L fa cd)) Q Nev s := by
  show wpAny _ _ (exec (.Assign _ _ _) _) _ _ _
  refine Assign_Tuple ?_
  refine wpAny_Tuple (Calls.spliced_cons (new_nil fun h1 hn1 _ k1 z1 => Calls.spliced_cons (new_nil fun h2 _ hn2 k2 z2 => Calls.spliced_nil ⟨by rw [sizeLine_eq]; exact Nat.le_of_ble_eq_true rfl, ?_⟩)))
  obtain ⟨pl, hpl⟩ : ∃ pl : Nat, pl = s.heap.objs.size := ⟨_, rfl⟩
  dsimp only at k1 k2 z1 z2 hn1 hn2 ⊢
  rw [← hpl] at hn1 z1 ⊢
  rw [z1] at hn2 z2 ⊢
  have lc2 := (lc.kept k1).kept k2
  have hz2 : h2.objs.size = pl + 2 := z2
  obtain ⟨H, hH⟩ : ∃ H, H = h2.push { cls := Value.type "tuple", data := Data.seq #[Value.ref pl, Value.ref (pl + 1 : Nat)] } := ⟨_, rfl⟩
  have kH : Ext h2 H := hH ▸ Ext.push _
  have ht : H.IsTuple (pl + 2 : Nat) #[Value.ref pl, Value.ref (pl + 1 : Nat)] := by
    have := Heap.get?_push_size h2 (o := { cls := Value.type "tuple", data := Data.seq #[Value.ref pl, Value.ref (pl + 1 : Nat)] }) rfl
    rw [hz2] at this
    rw [hH]
    exact ⟨_, this, rfl, _, rfl⟩
  have zH : H.objs.size = pl + 3 := by rw [hH, Heap.size_push, hz2]
  have hLp : L + 3 < pl := by rw [hpl]; exact lc.lt
  show wpAny _ _ (assign _ _ (.ref h2.objs.size)) _ _ { s with heap := h2.push _ }
  rw [hz2, ← hH]
  refine wpAny_assign_Tuple rfl ht rfl rfl fun h3 he => ?_
  dsimp only at he
  rw [zH] at he
  have kp3 : Kp [(pl + 3 : Nat)] H h3 := fun b o n e => he b o (fun q => n (by rw [q]; exact .head _)) e
  have lc3 := (lc2.kept kH).kp kp3 fun b m => by rw [List.mem_singleton.mp m]; show L + 3 < pl + 3; omega
  have n1 : IntL h3 pl [] := ((hn1.at (at_ext k2)).at (at_ext kH)).at (kp3.at fun m => by have q : @Eq Nat pl (pl + 3) := List.mem_singleton.mp m; omega)
  have n2 : RefL h3 (pl + 1 : Nat) [] := (hn2.at (at_ext kH)).at (kp3.at fun m => by have q : @Eq Nat (pl + 1) (pl + 3) := List.mem_singleton.mp m; omega)
  show wpAny _ _ (assignInOrder [_, _] [_, _]) _ _ _
  refine wpAny_assignInOrder_more (wpAny_assign_Name (stC lc3.c3 (by rfl) fun h4 hc4 hs4 => ?_))
  have lc4 := lc3.set3 hs4 hc4
  refine wpAny_assignInOrder_more (wpAny_assign_Name (stL lc4.loc fun h5 hl5 hs5 => wpAny_assignInOrder_none ?_))
  dsimp only at hs4 hs5 hl5 ⊢
  have a1 : ∀ {b : Nat}, b ≠ L → b ≠ L + 3 → At h3 h5 b := fun e1 e2 o e => at_but hs5 e1 o (at_but hs4 e2 o e)
  refine hQ pl (pl + 1) _ ⟨_, _, rfl⟩ (Nat.le_of_eq hpl.symm) hLp (by omega) (by omega) (fun b o n e => ?_) (n1.at (a1 (by omega) (by omega))) (n2.at (a1 (by omega) (by omega))) (lc4.locs hs5 hl5)
  have hb := glt e
  have nb1 : @Ne Nat b L := fun q => n (by rw [q]; exact .head _)
  have nb2 : @Ne Nat b (L + 3) := fun q => n (by rw [q]; exact .tail _ (.head _))
  have hb' : @LT.lt Nat _ b pl := by rw [hpl]; exact hb
  exact a1 nb1 nb2 o (kp3 b o (fun m => by have q : @Eq Nat b (pl + 3) := List.mem_singleton.mp m; omega) (kH b o (k2 b o (k1 b o e))))
end
end Mine

namespace Mine
noncomputable abbrev lawW (w : World) : List Stmt := whileBody (lawS w 5)
section
variable {prog : Program} {w : World} {s : Shared} {nd : Needs} {hb : Heap} {L fa D T pl due : Nat} {cd : Value} {lsV : Value} {c1 : Option Value} {P : List Int}
theorem ready_test {k : Int} (G : Good nd) : isReady nd P k = (!decide (k ∈ P) && decide ((need nd k).filter (fun o => (o != k) && !decide (o ∈ P)) = [])) := by
  unfold isReady
  congr 1
  · by_cases h : k ∈ P <;> simp [h]
  · by_cases h : ∀ d ∈ deps nd k, d ∈ P
    · rw [decide_eq_true h]
      have : (need nd k).filter (fun o => (o != k) && !decide (o ∈ P)) = [] := List.filter_eq_nil_iff.mpr fun o ho hk => by
        simp only [Bool.and_eq_true, bne_iff_ne, Bool.not_eq_true', decide_eq_false_iff_not] at hk
        exact hk.2 (h o (mem_deps.mpr ⟨ho, hk.1⟩))
      rw [decide_eq_true this]
    · rw [decide_eq_false h]
      have : (need nd k).filter (fun o => (o != k) && !decide (o ∈ P)) ≠ [] := fun e => h fun d hd => by
        obtain ⟨h1, h2⟩ := mem_deps.mp hd
        have := List.filter_eq_nil_iff.mp e d h1
        simp only [Bool.and_eq_true, bne_iff_ne, Bool.not_eq_true', decide_eq_false_iff_not] at this
        exact Classical.byContradiction fun hn => this ⟨h2, hn⟩
      rw [decide_eq_false this]
set_option maxHeartbeats 2000000 in
theorem law_ready (G : Good nd) (hD : L + 3 < D) (hP : P.length ≤ 100) (hT : L + 3 < T) (hpl : L + 3 < pl)
    (lc : LC w hb L [("due", .ref due), ("things", .ref T), ("script", lsV)] c1 (some (.ref D)) (some (.ref pl)) s.heap) (nv : NV prog w L s.heap D nd) (tT : IntL s.heap T (things nd)) (tP : IntL s.heap pl P) {Q : Flow → Shared → Prop}
    (hQ : ∀ R s', Sh s s' → s.heap.objs.size ≤ R → LC w hb L [("ready", .ref R), ("due", .ref due), ("things", .ref T), ("script", lsV)] c1 (some (.ref D)) (some (.ref pl)) s'.heap → Kp [L] s.heap s'.heap → IntL s'.heap R (readyOf nd P) → Q .next s') :
    wpAny (model prog w) (lawA w L fa cd) (exec (nthS (lawW w) 0) (lawEnv w L fa cd)) Q Nev s := by
  show wpAny _ _ (exec (.Assign _ _ _) _) _ _ _
  obtain ⟨vs, hpT, hiT⟩ := id tT
  have ht8 := things_len (nd := nd)
  refine comp_cell (cl := [("placed", L + 3), ("needs", L + 2)]) (ns := things nd) (l := [("due", .ref due), ("things", .ref T), ("script", lsV)]) (isReady nd P) (by rfl) (by rfl) (fun _ => by rfl) (fun _ => by rfl) (by rfl) (by decide) (fun _ _ => by rfl) (by decide) (by rfl) (by rfl) (by omega) ?_
  refine nmL lc.loc (by rfl) (wpAny_pyIter_list hpT.isList ?_)
  obtain ⟨I, hI⟩ : ∃ I : Nat, I = s.heap.objs.size := ⟨_, rfl⟩
  have ek : Ext s.heap (s.heap.push { cls := Value.type "list_iterator", data := Data.fields #[Value.ref T, Value.int 0 0] }) := Ext.push _
  have hTI : @Ne Nat T I := by have := tT.lt; omega
  have hLI : L + 3 < I := by rw [hI]; exact lc.lt
  have lc2 := lc.kept ek
  have hz : (s.heap.push { cls := Value.type "list_iterator", data := Data.fields #[Value.ref T, Value.int 0 0] }).objs.size = I + 1 := by rw [Heap.size_push, hI]
  have W := Walks.list (prog := prog) (w := w) (A := lawA w L fa cd) rfl I T hTI vs.toArray
  dsimp only
  rw [← hI]
  refine ⟨I, [I, T], [I], _, _, _, rfl, W, by rw [List.size_toArray, hiT.length], ⟨⟨_, by rw [hI]; exact Heap.get?_push_size _ rfl, rfl, rfl⟩, (hpT.isList).push _⟩, fun b hb => ?_, ?_, ?_, lc2.loc, ?_, ?_⟩
  · show @LT.lt Nat _ b (s.heap.push _).objs.size
    rw [hz]
    rcases List.mem_cons.mp hb with rfl | hb
    · exact Nat.lt_succ_self _
    · rw [List.mem_singleton.mp hb]; have := tT.lt; omega
  · intro i v hv
    obtain ⟨a, t, rfl, ha⟩ := hiT.at i v (by simpa using hv)
    exact ⟨t, a, rfl, ha⟩
  · intro m
    have q : @Eq Nat L I := List.mem_singleton.mp m
    omega
  · intro C X i a t s₃ hC hX ha hcX kp
    have k3 : Ext s.heap s₃.heap := fun b o e => kp b o (fun m => by
      have q : @Eq Nat b I := List.mem_singleton.mp m
      have : @LT.lt Nat _ b s.heap.objs.size := glt e
      omega) (ek b o e)
    have lc3 := lc.kept k3
    have nv3 := nv.at k3
    have tP3 := tP.at (at_ext k3)
    rw [ready_test G]
    obtain ⟨ws, hpP, hiP⟩ := id tP3
    have hak : 0 ≤ a ∧ a < 8 := thing_small (List.mem_of_getElem? ha)
    refine wpAny_isTrue_BoolOp (wpAny_allTrue_And_cons (wpAny_isTrue_Compare1 (nmC hcX (by rfl) (nmC lc3.c3 (by rfl) (notin_list_ints hpP.isList hiP (wpAny_truthy_bool ?_))))))
    rw [any_eq_mem]
    by_cases hin : a ∈ P
    · rw [decide_eq_true hin]
      exact ⟨rfl, Sh.refl _, fun _ _ e => e⟩
    rw [decide_eq_false hin]
    refine wpAny_allTrue_And_cons (wpAny_isTrue_Compare1 ?_)
    refine filt (cl := [("placed", L + 3), ("k", X)]) (ns := need nd a) (fun o => (o != a) && !decide (o ∈ P)) (by rfl) (by decide) (by rfl) (by decide) (by rfl) (by decide) (Nat.le_trans (len_le_8 (G.nodup a) fun t ht => G.small a t ht) (by decide)) ?_
    obtain ⟨kvs, hdo, hks, hkF⟩ := id nv3
    have hmap := hdo.mapOf
    refine wpAny_Call_method2_late (by rfl) (by rfl) (by rfl) (nmC lc3.c2 (by rfl) ⟨"dict", "dict.get", PySem.F.plainAttrs_dict, PySem.F.slot_dict_get, PySem.F.type_dict_get, hdo.typeIs, hmap.noDict, ?_⟩)
    refine wpAny_dict_get2 (knd := PySem.intKind prog w) (nsm (by have := lc.low; omega)) (nmC hcX (by rfl) (new_nil fun h4 hn4 _ k4 z4 => ⟨a, valueAt kvs, intKind_is prog w a t, (dict_at hdo (at_ext k4)).mapOf, ?_⟩))
    have lc4 := lc3.kept k4
    obtain ⟨b, hbv, hbI⟩ : ∃ b : Nat, (valueAt kvs a).getD (.ref s₃.heap.objs.size) = .ref b ∧ IntL h4 b (need nd a) := by
      by_cases hup : a ∈ up nd.length
      · obtain ⟨v, e, b, rfl, p, q⟩ := hkF a hup
        exact ⟨b, by rw [e]; rfl, q.at (at_ext k4)⟩
      · have e : valueAt kvs a = none := valueAt_none (by rw [hks]; exact hup)
        refine ⟨s₃.heap.objs.size, by rw [e]; rfl, ?_⟩
        rw [need_none fun h => hup (mem_up.mpr h)]
        exact hn4
    rw [hbv]
    obtain ⟨us, hpb, hib⟩ := id hbI
    refine wpAny_pyIter_list hpb.isList ?_
    dsimp only
    obtain ⟨J, hJ⟩ : ∃ J : Nat, J = h4.objs.size := ⟨_, rfl⟩
    have ek4 : Ext h4 (h4.push { cls := Value.type "list_iterator", data := Data.fields #[Value.ref b, Value.int 0 0] }) := Ext.push _
    have hbJ : @Ne Nat b J := by have := hbI.lt; omega
    have W' := Walks.list (prog := prog) (w := w) (A := lawA w L fa cd) rfl J b hbJ us.toArray
    rw [← hJ]
    have k34 : ∀ {h : Heap}, Kp [J] (h4.push { cls := Value.type "list_iterator", data := Data.fields #[Value.ref b, Value.int 0 0] }) h → Ext s₃.heap h := fun kk c o e => kk c o (fun m => by
      have q : @Eq Nat c J := List.mem_singleton.mp m
      have : @LT.lt Nat _ c h4.objs.size := glt (k4 c o e)
      omega) (ek4 c o (k4 c o e))
    refine ⟨J, [J, b], [J], _, _, _, rfl, W', by rw [List.size_toArray, hib.length], ⟨⟨_, by rw [hJ]; exact Heap.get?_push_size _ rfl, rfl, rfl⟩, (hpb.isList).push _⟩, fun c hc => ?_, ?_, ?_, ?_⟩
    · show @LT.lt Nat _ c (h4.push _).objs.size
      rw [Heap.size_push]
      rcases List.mem_cons.mp hc with rfl | hc
      · rw [hJ]; exact Nat.lt_succ_self _
      · rw [List.mem_singleton.mp hc]; have := hbI.lt; omega
    · intro i v hv
      obtain ⟨a, t, rfl, ha⟩ := hib.at i v (by simpa using hv)
      exact ⟨t, a, rfl, ha⟩
    · intro C' j o t' s₅ m₅ E' hj hns hm kp5
      have k5 := k34 kp5
      have lc5 := lc3.kept k5
      have cX5 := cell_at hcX (at_ext k5)
      obtain ⟨xs, hpx, hix⟩ := tP3.at (at_ext k5)
      refine wpAny_isTrue_BoolOp (wpAny_allTrue_And_cons (wpAny_isTrue_Compare1 (wpAny_Name (wpAny_loadName_local (by rfl) (by rfl) hns hm (nmC cX5 (by rfl) (ne_int (wpAny_truthy_bool ?_)))))))
      by_cases hoa : o = a
      · rw [show (o != a) = false by simp [hoa]]
        exact ⟨rfl, Sh.refl _, fun _ _ e => e⟩
      · rw [show (o != a) = true by simp [hoa]]
        refine wpAny_allTrue_And_cons (wpAny_isTrue_Compare1 (wpAny_Name (wpAny_loadName_local (by rfl) (by rfl) hns hm (nmC lc5.c3 (by rfl) (notin_list_ints hpx.isList hix (wpAny_truthy_bool ?_))))))
        rw [any_eq_mem]
        by_cases hoP : o ∈ P
        · rw [decide_eq_true hoP]
          exact ⟨rfl, Sh.refl _, fun _ _ e => e⟩
        · rw [decide_eq_false hoP]
          exact wpAny_allTrue_And_nil ⟨rfl, Sh.refl _, fun _ _ e => e⟩
    · intro R s' hsh' hR hRL kp'
      have k' := k34 kp'
      refine new_nil fun h6 hn6 _ k6 z6 => ?_
      obtain ⟨us, hup, hui⟩ := hRL.at (at_ext k6)
      obtain ⟨us', hup', hui'⟩ := hn6
      refine eq_intsK hup.isList hui hup'.isList hui' (by exact Nat.le_of_ble_eq_true (by kernel_rfl)) (wpAny_truthy_bool ?_)
      have hsh6 : Sh s₃ { s' with heap := h6 } := (Sh.trans ⟨_, _, rfl⟩ hsh').trans ⟨_, _, rfl⟩
      have k36 : Ext s₃.heap h6 := fun b o e => k6 b o (k' b o e)
      generalize decide ((need nd a).filter (fun o => (o != a) && !decide (o ∈ P)) = []) = b
      cases b with
      | true => exact wpAny_allTrue_And_nil ⟨rfl, hsh6, k36⟩
      | false => exact ⟨rfl, hsh6, k36⟩
  · intro R s' hsh hR hRL hloc kp
    refine hQ R s' (Sh.trans ⟨_, _, rfl⟩ hsh) (by have hR : @LE.le Nat _ _ R := hR; rw [hz] at hR; show @LE.le Nat _ _ R; omega) (lc2.comp kp (fun b m => by rw [List.mem_singleton.mp m]; exact hLI) hloc) (fun b o n e => kp b o (fun m => ?_) (ek b o e)) hRL
    rcases List.mem_cons.mp m with q | q
    · exact n (by rw [q]; exact .head _)
    · have q : @Eq Nat b I := List.mem_singleton.mp q
      have : @LT.lt Nat _ b s.heap.objs.size := glt e
      omega
end
end Mine

namespace Mine
/-- rows of ints -/
def Lays (h : Heap) (as : List Addr) (ls : List (List Int)) : Prop := as.length = ls.length ∧ ∀ (i : Nat) a l, as[i]? = some a → ls[i]? = some l → IntL h a l
def lays (nd : Needs) (r : Nat) : List (List Int) := (List.range r).map (layer nd)
theorem lays_succ (nd : Needs) (r : Nat) : lays nd (r + 1) = lays nd r ++ [layer nd r] := by simp [lays, List.range_succ]
theorem Lays.kp {h h' : Heap} {as : List Addr} {ls : List (List Int)} (x : Lays h as ls) (k : ∀ a ∈ as, At h h' a) : Lays h' as ls :=
  ⟨x.1, fun i a l ha hl => (x.2 i a l ha hl).at (k a (List.mem_of_getElem? ha))⟩
theorem Lays.snoc {h : Heap} {as : List Addr} {ls : List (List Int)} {a : Addr} {l : List Int} (x : Lays h as ls) (y : IntL h a l) : Lays h (as ++ [a]) (ls ++ [l]) := by
  refine ⟨by simp [x.1], fun i b m hb hm => ?_⟩
  by_cases hi : i < as.length
  · rw [List.getElem?_append_left hi] at hb
    rw [List.getElem?_append_left (x.1 ▸ hi)] at hm
    exact x.2 i b m hb hm
  · rw [List.getElem?_append_right (by omega)] at hb
    rw [List.getElem?_append_right (by have := x.1; omega), ← x.1] at hm
    by_cases h0 : i - as.length = 0
    · rw [h0] at hb hm
      cases hb; cases hm
      exact y
    · rw [List.getElem?_eq_none (by simp; omega)] at hb
      cases hb
theorem Lays.lt {h : Heap} {as : List Addr} {ls : List (List Int)} (x : Lays h as ls) {a : Addr} (ha : a ∈ as) : @LT.lt Nat _ a h.objs.size := by
  obtain ⟨i, hi, e⟩ := List.getElem_of_mem ha
  have hl : i < ls.length := x.1 ▸ hi
  exact (x.2 i a ls[i] (by rw [List.getElem?_eq_getElem hi, e]) (List.getElem?_eq_getElem hl)).lt
theorem layer_len (nd : Needs) (r : Nat) : (layer nd r).length ≤ 8 := Nat.le_trans ((ready_nodup _).length_le_of_subset fun y hy => (mem_ready.mp hy).1) things_len
section
variable {prog : Program} {w : World} {s : Shared} {nd : Needs} {hb Hs : Heap} {L fa D T due : Nat} {cd : Value} {lsV : Value} {c1 : Option Value} {P : List Int}
abbrev dLoc (due T : Nat) (lsV : Value) : List (Str × Value) := [("due", .ref due), ("things", .ref T), ("script", lsV)]
structure WI (w : World) (hb Hs : Heap) (L D T due : Nat) (lsV : Value) (c1 : Option Value) (nd : Needs) (r : Nat) (h : Heap) : Prop where
  kp : Kp [L, L + 3, due] Hs h
  rows : ∃ (pl : Nat) (as : List Addr), L + 3 < pl ∧ pl ≠ due ∧ LC w hb L (dLoc due T lsV) c1 (some (.ref D)) (some (.ref pl)) h ∧ IntL h pl (placedN nd r) ∧ RefL h due as ∧ Lays h as (lays nd r) ∧ ∀ a ∈ as, @LT.lt Nat _ due a
  ne : ∀ i < r, layer nd i ≠ []
theorem rounds_len {r : Nat} (h : ∀ i < r, layer nd i ≠ []) : r ≤ (placedN nd r).length := by
  induction r with
  | zero => exact Nat.zero_le _
  | succ r ih =>
    have := ih fun i hi => h i (by omega)
    have h1 : 0 < (layer nd r).length := List.length_pos_iff.mpr (h r (by omega))
    show _ ≤ (placedN nd r ++ layer nd r).length
    rw [List.length_append]; omega
set_option maxHeartbeats 2000000 in
theorem law_5 (G : Good nd) (hD : L + 3 < D) (hT : L + 3 < T) (hdue : Hs.objs.size ≤ due) (hdL : L + 3 < due) (nv : NV prog w L Hs D nd) (tT : IntL Hs T (things nd)) {Q : Flow → Shared → Prop}
    (J0 : WI w hb Hs L D T due lsV c1 nd 0 s.heap) (hQ : ∀ r s', Sh s s' → WI w hb Hs L D T due lsV c1 nd r s'.heap → layer nd r = [] → Q .next s') :
    wpAny (model prog w) (lawA w L fa cd) (exec (lawS w 5) (lawEnv w L fa cd)) Q Nev s := by
  show wpAny _ _ (exec (.While _ (lawW w) _ _) _) _ _ _
  refine wpAny_While (codeAny_whileLoop (fun n s' => ∃ r, Sh s s' ∧ WI w hb Hs L D T due lsV c1 nd r s'.heap ∧ n = 9 - (placedN nd r).length) ?_ _ ⟨0, Sh.refl _, J0, rfl⟩)
  rintro n s' ⟨r, hsh, ⟨kp, ⟨pl, as, hpl, hpd, lc, tP, tD, tL, gt⟩, ne⟩, rfl⟩
  have hP8 : (placedN nd r).length ≤ 8 := Nat.le_trans (placed_len r) things_len
  have nTs : @Ne Nat T due := by have := tT.lt; omega
  have inT : T ∉ [L, L + 3, due] := fun m => by
    simp only [List.mem_cons, List.not_mem_nil, or_false] at m
    omega
  have nv' : NV prog w L s'.heap D nd := nv.kp kp (fun b m => by
    rcases List.mem_cons.mp m with q | m
    · exact .inr (by rw [q]; exact Nat.le_add_right _ _)
    rcases List.mem_cons.mp m with q | m
    · exact .inr (by rw [q]; exact Nat.le_refl _)
    · rw [List.mem_singleton.mp m]; exact .inl (get_ge hdue)) hD
  refine wpAny_noRaise (wpAny_isTrue_value (wpAny_Constant_bool (wpAny_truthy_bool ?_)))
  rw [if_pos rfl]
  refine wpAny_noRaise ?_
  show wpAny _ _ (execs [nthS (lawW w) 0, _, _, _] _) _ _ _
  refine wpAny_execs_cons (law_ready (P := placedN nd r) G hD (by omega) hT hpl lc nv' (tT.at (kp.at inT)) tP fun R s1 hsh1 hR lc1 kp1 tR => ?_)
  obtain ⟨h1, tk1, rfl⟩ := hsh1
  dsimp only at lc1 kp1 tR ⊢
  have hR : @LE.le Nat _ s'.heap.objs.size R := hR
  have hdR : due < R := Nat.lt_of_lt_of_le tD.lt hR
  have one : ∀ {b : Nat}, b ≠ L → b ∉ [L] := fun n m => n (List.mem_singleton.mp m)
  have hLd : L ≠ due := by omega
  have kpa : Kp [L, L + 3, due] Hs h1 := kp.trans (kp1.mono fun b m => by rw [List.mem_singleton.mp m]; exact .head _)
  have tP1 := tP.at (kp1.at (one (by omega)))
  have tD1 := tD.at (kp1.at (one (by omega)))
  have tL1 : Lays h1 as (lays nd r) := tL.kp fun a ha => kp1.at (one (by have := gt a ha; show @Ne Nat a L; omega))
  -- if ready == []
  refine wpAny_execs_cons (wpAny_If (wpAny_isTrue_Compare1 (nmL lc1.loc (by rfl) (new_nil fun h2 hn2 _ k2 z2 => ?_))))
  dsimp only at k2 hn2 ⊢
  obtain ⟨us, hup, hui⟩ := tR.at (at_ext k2)
  obtain ⟨us', hup', hui'⟩ := hn2
  refine eq_intsK hup.isList hui hup'.isList hui' (by exact Nat.le_of_ble_eq_true (by kernel_rfl)) (wpAny_truthy_bool ?_)
  have lc2 := lc1.kept k2
  have kpb : Kp [L, L + 3, due] Hs h2 := kpa.trans (Kp.ext k2)
  have tP2 := tP1.at (at_ext k2)
  have tD2 := tD1.at (at_ext k2)
  have tL2 : Lays h2 as (lays nd r) := tL1.kp fun a ha => at_ext k2
  have tR2 := tR.at (at_ext k2)
  by_cases he : readyOf nd (placedN nd r) = []
  · rw [if_pos (decide_eq_true he)]
    refine wpAny_execs_cons (wpAny_Break ?_)
    exact hQ r _ (hsh.trans ⟨_, _, rfl⟩) ⟨kpb, ⟨pl, as, hpl, hpd, lc2.re (by (repeat' (first | exact List.forall_mem_nil _ | refine List.forall_mem_cons.mpr ⟨rfl, ?_⟩))), tP2, tD2, tL2, gt⟩, ne⟩ he
  · rw [if_neg (by simpa using he)]
    refine wpAny_execs_nil ?_
    have hr9 := rounds_len ne
    have hasl : as.length ≤ 8 := by have := tL2.1; simp only [lays, List.length_map, List.length_range] at this; omega
    -- due.append(ready)
    obtain ⟨its, hpL⟩ := tD2.plainL
    refine wpAny_execs_cons (wpAny_Expr_any (wpAny_Call_append (by rfl) (by rfl) (by rfl) (by rfl) (nmL lc2.loc (by rfl) ⟨_, _, rfl, hpL, nmL lc2.loc (by rfl) (app_ref tD2 (by omega) fun h3 tD3 hs3 => ?_)⟩)))
    dsimp only at hs3 ⊢
    have lc3 := lc2.but hs3 hdL
    have nd' : ∀ {b : Nat}, b ≠ due → At h2 h3 b := fun n => at_but hs3 n
    have tP3 := tP2.at (nd' hpd)
    have tR3 : IntL h3 R (layer nd r) := tR2.at (nd' (by omega))
    have tL3 := (tL2.kp (h' := h3) fun a ha => nd' (by have := gt a ha; show @Ne Nat a due; omega)).snoc tR3
    rw [← lays_succ] at tL3
    have kpc : Kp [L, L + 3, due] Hs h3 := kpb.trans (Kp.but hs3 (.tail _ (.tail _ (.head _))))
    -- placed = placed + ready
    refine wpAny_execs_cons (wpAny_Assign_Name (wpAny_BinOp (nmC lc3.c3 (by rfl) (nmL lc3.loc (by rfl) (add_ints lc3.loc tP3 tR3 (by have := layer_len nd r; omega) fun h4 hl4 k4 tN => ?_)))))
    obtain ⟨N, hN⟩ : ∃ N : Nat, N = h3.objs.size := ⟨_, rfl⟩
    dsimp only at k4 tN hl4 ⊢
    rw [← hN] at tN ⊢
    have kp4 : Kp [L] h3 h4 := fun b o n e => k4 b o (fun q => n (by rw [q]; exact .head _)) e
    have lc4 : LC w hb L _ c1 (some (.ref D)) (some (.ref pl)) h4 := lc3.comp (wr := []) kp4 (fun _ m => absurd m List.not_mem_nil) hl4
    have hLN : L + 3 < N := by rw [hN]; exact lc3.lt
    have hdN : due < N := by rw [hN]; exact tD3.lt
    refine stC lc4.c3 (by rfl) fun h5 hc5 hs5 => ?_
    have lc5 := lc4.set3 hs5 hc5
    have a5 : ∀ {b : Nat}, b ≠ L → b ≠ L + 3 → At h3 h5 b := fun e1 e2 o e => at_but hs5 e2 o (kp4 _ o (one e1) e)
    refine wpAny_execs_nil ⟨9 - (placedN nd (r + 1)).length, ?_, r + 1, hsh.trans ⟨_, _, rfl⟩, ⟨?_, ⟨N, as ++ [R], hLN, by omega, lc5.re (by (repeat' (first | exact List.forall_mem_nil _ | refine List.forall_mem_cons.mpr ⟨rfl, ?_⟩))), tN.at (at_but hs5 (by show @Ne Nat N (L + 3); omega)), tD3.at (a5 (by omega) (by omega)), tL3.kp fun a ha => ?_, fun a ha => ?_⟩, fun i hi => ?_⟩, rfl⟩
    · have h1 : 0 < (readyOf nd (placedN nd r)).length := List.length_pos_iff.mpr he
      show 9 - (placedN nd r ++ readyOf nd (placedN nd r)).length < _
      rw [List.length_append]; omega
    · refine kpc.trans fun b o n e => a5 (fun q => n ?_) (fun q => n ?_) o e
      · rw [q]; exact .head _
      · rw [q]; exact .tail _ (.head _)
    · have : due < a := by
        rcases List.mem_append.mp ha with ha | ha
        · exact gt a ha
        · rw [List.mem_singleton.mp ha]; exact hdR
      exact a5 (by omega) (by omega)
    · rcases List.mem_append.mp ha with ha | ha
      · exact gt a ha
      · rw [List.mem_singleton.mp ha]; exact hdR
    · by_cases hir : i < r
      · exact ne i hir
      · have : i = r := by omega
        subst this; exact he
end
end Mine

namespace Mine
section
variable {prog : Program} {w : World} {h h' : Heap} {d : Addr} {ks : List Int} {F F' : Int → Value → Prop}
variable {A : Around} {E : Value → Shared → Prop} {s : Shared} {k : Int} {t : Tok}
theorem vd_dset {Q : Unit → Shared → Prop} {v : Value} (x : VD prog w s.heap d ks F) (hsz : ks.length ≤ 1000) (hv : F' k v) (ho : ∀ j ∈ ks, j ≠ k → ∀ u, F j u → F' j u)
    (hQ : ∀ h', VD prog w h' d (if k ∈ ks then ks else ks ++ [k]) F' → Heap.SameBut d s.heap h' → Q () { s with heap := h', toks := s.toks + 1 }) :
    wpAny (model prog w) A (dictSet d (.int k t) v) Q E s := by
  obtain ⟨kvs, a, b, c⟩ := x
  subst b
  refine wpAny_dictSet_pairs (knd := PySem.intKind prog w) (hsz := by rw [sizeLine_eq]; simp only [List.length_map] at hsz; omega) (intKind_is prog w k t) a (fun h' a' s' => hQ h' ⟨_, a', keys_store, fun j hj => ?_⟩ s')
  rw [valueAt_store]
  by_cases hjk : j = k
  · subst hjk
    exact ⟨v, if_pos rfl, hv⟩
  · rw [if_neg hjk]
    have hj' : j ∈ kvs.map (·.1) := by
      split at hj
      · exact hj
      · rcases List.mem_append.mp hj with e | e
        · exact e
        · exact absurd (List.mem_singleton.mp e) hjk
    obtain ⟨u, e, f⟩ := c j hj'
    exact ⟨u, e, ho j hj' hjk u f⟩
end
theorem sub_slice {prog : Program} {w : World} {A : Around} {E : Value → Shared → Prop} {s : Shared} {env : Env} {value : Expr} {p pos : Pos} {Q : Value → Shared → Prop}
    (h : wpAny (model prog w) A (eval value env) (fun o s₁ => ∃ l items, o = .ref l ∧ s₁.heap.IsList l items ∧ items.size ≤ sizeLine ∧
        Q (.ref (s₁.heap.objs.size + 1)) { s₁ with heap := (s₁.heap.push { cls := .type "slice", data := .fields #[.none, .none, .none] }).push { cls := .type "list", data := .seq (slicePick items none none none) } }) E s) :
    wpAny (model prog w) A (eval (.Subscript value (.Slice none none none p) pos) env) Q E s := by
  refine Subscript_ (wpAny_mono h (fun o s₁ h₁ => wpAny_Slice (wpAny_evalPart_none (wpAny_evalPart_none (wpAny_evalPart_none ?_)))) fun _ _ e => e)
  obtain ⟨l, items, rfl, hl, hsz, hQ⟩ := h₁
  refine kba_turn (value' := .Name "_" ⟨0, 0, 0, 0⟩) (fun _ => rfl) ?_
  refine subscriptTail_ops (T := "list") (ops := [.ref s₁.heap.objs.size, .ref l]) (hl.push _).typeIs slot_list_getitem.lookup ?_ (by rfl) (fun _ => rfl)
  refine wpAny_getItem_list_slice (hl.push _) (Heap.IsSliceOf.new ..) .none .none .none (by simp) ?_ hsz
  rw [Heap.size_push]
  exact hQ
def tryBody : Stmt → List Stmt
  | .Try b _ _ _ _ => b
  | _ => []
def forIter : Stmt → Expr
  | .For _ i _ _ _ => i
  | _ => default
def callArg : Expr → Expr
  | .Call _ (a :: _) _ _ => a
  | _ => default
def compScopeOf : Expr → Scope
  | .DictComp _ _ _ sc _ => sc
  | _ => default
noncomputable abbrev lawT (w : World) : List Stmt := tryBody (lawS w 7)
noncomputable abbrev lawDC (w : World) : Expr := callArg (forIter (nthS (lawT w) 0))
section
variable {prog : Program} {w : World} {s : Shared} {nd : Needs} {hb : Heap} {L fa D : Nat} {cd : Value} {l : List (Str × Value)} {c1 c3 : Option Value} {E : Value → Shared → Prop}
set_option maxHeartbeats 2000000 in
theorem law_dc (G : Good nd) (hD : L + 3 < D) (lc : LC w hb L l c1 (some (.ref D)) c3 s.heap) (nv : NV prog w L s.heap D nd) {Q : Value → Shared → Prop}
    (hQ : ∀ D' s', Sh s s' → s.heap.objs.size ≤ D' → Ext s.heap s'.heap → NeedsAt prog w s'.heap D' nd → Q (.ref D') s') :
    wpAny (model prog w) (lawA w L fa cd) (eval (lawDC w) (lawEnv w L fa cd)) Q E s := by
  refine wpAny_noRaise ?_
  show wpAny _ _ (eval (.DictComp _ _ _ _ _) _) _ _ _
  rw [arm_eval_DictComp]
  refine wpAny_comprehension_free (use := none) (cl := [("needs", L + 2)]) (by rfl) (fun _ => by rfl) (by rfl) (by rfl) (by decide) (nmC lc.c2 (by rfl) ?_)
  obtain ⟨kvs, hdo, hks, hkF⟩ := id nv
  obtain ⟨ep, hda⟩ := hdo.dictAt
  have hlow := lc.low
  refine wpAny_pyIter_dict (knd := PySem.intKind prog w) (nsm (by omega)) hda ?_
  refine wpAny_newObj_type (wpAny_newFunctionEnv (by decide) (by intro y hy; simp at hy) (fun h₁ hns₁ hsb₁ => ?_) (by rfl))
  dsimp only at hns₁ hsb₁ ⊢
  obtain ⟨I, hI⟩ : ∃ I : Nat, I = s.heap.objs.size := ⟨_, rfl⟩
  obtain ⟨H1, hH1⟩ : ∃ H1, H1 = s.heap.push { cls := Value.type "dict_keyiterator", data := Data.fields #[Value.ref D, Value.int 0 0, Value.int (kvs.length : Nat) 0, Value.int (ep : Nat) 0] } := ⟨_, rfl⟩
  rw [← hH1] at hsb₁ hns₁ ⊢
  obtain ⟨H2, hH2⟩ : ∃ H2, H2 = H1.push { cls := Value.type "dict", data := Data.dict #[] } := ⟨_, rfl⟩
  rw [← hH2] at hsb₁ hns₁ ⊢
  have z1 : H1.objs.size = I + 1 := by rw [hH1, Heap.size_push, hI]
  have z2 : H2.objs.size = I + 2 := by rw [hH2, Heap.size_push, z1]
  rw [z2] at hsb₁ hns₁ ⊢
  rw [z1, ← hI]
  have k1 : Ext s.heap H1 := hH1 ▸ Ext.push _
  have k2 : Ext H1 H2 := hH2 ▸ Ext.push _
  have k3 : ∀ {b : Nat}, b < I + 2 → At H2 h₁ b := fun hb o e => hsb₁.extBut _ o (by show @Ne Nat _ (I + 2); omega) (Heap.get?_push_of_some _ e)
  have old1 : Ext s.heap h₁ := fun b o e => k3 (by have : @LT.lt Nat _ b s.heap.objs.size := glt e; omega) o (k2 b o (k1 b o e))
  have hI1 : h₁.get? I = some { cls := Value.type "dict_keyiterator", data := Data.fields #[Value.ref D, Value.int 0 0, Value.int (kvs.length : Nat) 0, Value.int (ep : Nat) 0] } :=
    k3 (by omega) _ (k2 _ _ (by rw [hH1, hI]; exact Heap.get?_push_size _ rfl))
  have hDI : @Ne Nat D I := by have : @LT.lt Nat _ D s.heap.objs.size := nv.lt; omega
  have W := Walks.dictKeys (knd := PySem.intKind prog w) (prog := prog) (w := w) (A := lawA w L fa cd) rfl I D hDI kvs ep
  have hst : h₁.IsKeyIter I D 0 kvs.length ep ∧ h₁.DictAt (PySem.intKind prog w) D kvs ep := ⟨⟨_, hI1, rfl, rfl⟩, hda.at' fun o e => old1 _ o e⟩
  have hacc : ∀ F, VD prog w h₁ (I + 1 : Nat) [] F := fun F => by
    have := VD.new (prog := prog) (w := w) (F := F) H1
    rw [z1] at this
    exact this.at fun o e => k3 (by omega) o (by rw [hH2]; exact e)
  have hlen : kvs.length = nd.length := by
    have := congrArg List.length hks
    simpa [up] using this
  obtain ⟨cenv, hcenv⟩ : ∃ cenv, cenv = compEnvC (compScopeOf (lawDC w)) [("needs", L + 2)] (I + 2 : Nat) (lawEnv w L fa cd) := ⟨_, rfl⟩
  have loop : ∀ s₃ : Shared, s₃ = { s with heap := h₁, toks := s.toks + ([] : List (Str × Value)).length } → codeAny (model prog w) (lawA w L fa cd) (.compLoop (lawDC w) 0 (.ref I) (.ref (I + 1 : Nat)) (compEnvC (compScopeOf (lawDC w)) [("needs", L + 2)] (I + 2 : Nat) (lawEnv w L fa cd)))
      (compPost (model prog w) (lawA w L fa cd) Nev none Q (.ref (I + 1 : Nat)) (I + 2 : Nat)) s₃ := by
    rintro _ rfl
    refine codeAny_compLoop_testsD (fun n s' => ∃ i m, Sh s s' ∧ (s'.heap.IsKeyIter I D i kvs.length ep ∧ s'.heap.DictAt (PySem.intKind prog w) D kvs ep) ∧ VD prog w s'.heap (I + 1 : Nat) (up i) (fun j v => ∃ b : Nat, v = .ref b ∧ I + 2 < b ∧ IntL s'.heap b (need nd j)) ∧
      s'.heap.Ns (I + 2 : Nat) m ∧ Ext s.heap s'.heap ∧ i ≤ kvs.length ∧ n = kvs.length + 1 - i) ?_ (kvs.length + 1)
      ⟨0, _, ⟨_, _, rfl⟩, hst, hacc _, hns₁, old1, Nat.zero_le _, rfl⟩
    rintro n s' ⟨i, m, hsh, hst', vd', hC', old', hi, rfl⟩
    have noI : ∀ {b : Nat}, b ≠ I → b ∉ [I] := fun n m => n (List.mem_singleton.mp m)
    by_cases hlt : i < kvs.length
    · refine wpAny_noRaise (W.item i s' _ _ hlt hst' fun v h4 tk4 hv hst4 hk4 => ?_)
      obtain ⟨kk, x, hkx, his⟩ := hv
      obtain ⟨t, rfl⟩ := Value.isInt_shape his
      have hki : (up nd.length)[i]? = some kk := by rw [← hks, List.getElem?_map, hkx]; rfl
      obtain ⟨rfl, hin⟩ := up_get hki
      dsimp only
      refine wpAny_assign_Name (wpAny_storeName_local (by rfl) (hC'.at' (hk4 _ · (noI (by omega)))) (fun h5 hn5 hs5 => ?_) (by rfl))
      have hs5 : Heap.SameBut (I + 2 : Nat) h4 h5 := hs5
      have old5 : Ext s.heap h5 := fun b o e => by
        have : @LT.lt Nat _ b s.heap.objs.size := glt e
        exact at_but hs5 (by show @Ne Nat b (I + 2); omega) o (hk4 b o (noI (by omega)) (old' b o e))
      have hst5 := W.frame _ _ _ hst4 fun b hb o e => at_but hs5 (by
        show @Ne Nat b (I + 2)
        rcases List.mem_cons.mp hb with q | q
        · have q : @Eq Nat b I := q; omega
        · have q : @Eq Nat b D := List.mem_singleton.mp q
          have : @LT.lt Nat _ D s.heap.objs.size := nv.lt
          omega) o e
      have nv5 := nv.at old5
      have lc5 := lc.kept old5
      refine wpAny_tests_nil ?_
      rw [if_pos rfl]
      refine wpAny_noRaise (wpAny_Name (wpAny_loadName_local (by rfl) (by rfl) hn5 (v := .int (i : Nat) t) (by simp) ?_) (by decide))
      refine wpAny_noRaise (sub_slice (wpAny_Subscript_Name slot_dict_getitem.lookup (nmC lc5.c2 (by rfl) (wpAny_Name (wpAny_loadName_local (by rfl) (by rfl) hn5 (v := .int (i : Nat) t) (by simp) ⟨VD.typeIs nv5, ?_⟩) (by decide)))))
      refine vd_get nv5 (mem_up.mpr ⟨by omega, by omega⟩) ?_
      rintro _ ⟨b, rfl, hb, us, hpl, hints⟩
      refine ⟨b, us.toArray, rfl, hpl.isList, ?_, ?_⟩
      · rw [List.size_toArray, hints.length, sizeLine_eq]
        exact Nat.le_trans (len_le_8 (G.nodup _) fun t ht => G.small _ t ht) (by decide)
      dsimp only
      obtain ⟨h6, hh6⟩ : ∃ h6, h6 = (h5.push { cls := Value.type "slice", data := Data.fields #[Value.none, Value.none, Value.none] }).push { cls := Value.type "list", data := Data.seq (slicePick us.toArray none none none) } := ⟨_, rfl⟩
      rw [← hh6]
      have k56 : Ext h5 h6 := hh6 ▸ (Ext.push _).trans (Ext.push _)
      have tN : IntL h6 (h5.objs.size + 1 : Nat) (need nd (i : Nat)) := by
        refine ⟨_, ⟨0, ?_⟩, slice_ints_all hints⟩
        have := Heap.get?_push_size (h5.push { cls := Value.type "slice", data := Data.fields #[Value.none, Value.none, Value.none] }) (o := { cls := Value.type "list", data := Data.seq (slicePick us.toArray none none none) }) rfl
        rw [Heap.size_push] at this
        rw [hh6]
        simpa using this
      have hI5 : I + 2 < h5.objs.size := hn5.lt
      have a45 : At s'.heap h5 (I + 1 : Nat) := fun o e => at_but hs5 (by show @Ne Nat (I + 1) (I + 2); omega) o (hk4 _ o (noI (by omega)) e)
      have vd6 : VD prog w h6 (I + 1 : Nat) (up i) (fun j v => ∃ b : Nat, v = .ref b ∧ I + 2 < b ∧ IntL h6 b (need nd j)) :=
        ((vd'.at a45).at (at_ext k56)).mono fun j _ v ⟨b, e, p, q⟩ => ⟨b, e, p, (q.at fun o e => at_but hs5 (by show @Ne Nat b (I + 2); omega) o (hk4 _ o (noI (by omega)) e)).at (at_ext k56)⟩
      have hnup : ((i : Nat) : Int) ∉ up i := fun m => by have := (mem_up.mp m).2; omega
      refine wpAny_noRaise (vd_dset (F' := fun j v => ∃ b : Nat, v = .ref b ∧ I + 2 < b ∧ IntL h6 b (need nd j)) vd6 (by simp [up]; have := G.len; omega) ⟨_, rfl, by omega, tN⟩ (fun _ _ _ _ e => e) fun h7 vd7 hs7 => ?_)
      rw [if_neg hnup, ← up_succ] at vd7
      dsimp only at hs7
      have hs7' : Heap.SameBut (I + 1 : Nat) h6 h7 := hs7
      refine ⟨kvs.length + 1 - (i + 1), by omega, i + 1, _, hsh.trans ⟨_, _, rfl⟩, W.frame _ _ _ hst5 fun b hb o e => at_but hs7' ?_ o (k56 b o e), vd7.mono fun j _ v ⟨b, e, p, q⟩ => ⟨b, e, p, q.at (at_but hs7' (by show @Ne Nat b (I + 1); omega))⟩,
        (hn5.keeps k56).sameBut hs7' (by show @Ne Nat (I + 2) (I + 1); omega), fun b o e => at_but hs7' ?_ o (k56 b o (old5 b o e)), hlt, rfl⟩
      · show @Ne Nat b (I + 1)
        rcases List.mem_cons.mp hb with q | q
        · have q : @Eq Nat b I := q; omega
        · have q : @Eq Nat b D := List.mem_singleton.mp q
          have : @LT.lt Nat _ D s.heap.objs.size := nv.lt
          omega
      · show @Ne Nat b (I + 1)
        have : @LT.lt Nat _ b s.heap.objs.size := glt e
        omega
    · have hin : i = kvs.length := by omega
      subst hin
      refine wpAny_noRaise (W.done s' _ _ hst' fun h4 tk4 hk4 => ?_)
      refine ⟨m, hC'.at' (hk4 _ · (noI (by omega))), fun h5 hs5 => ?_⟩
      have hs5 : Heap.SameBut (I + 2 : Nat) h4 h5 := hs5
      have a5 : ∀ {b : Nat}, b ≠ I → b ≠ I + 2 → At s'.heap h5 b := fun e1 e2 o e => at_but hs5 e2 o (hk4 _ o (noI e1) e)
      refine hQ (I + 1) _ (hsh.trans ⟨_, _, rfl⟩) (by omega) (fun b o e => ?_) ?_
      · have : @LT.lt Nat _ b s.heap.objs.size := glt e
        exact a5 (by omega) (by omega) o (old' b o e)
      · unfold NeedsAt
        rw [← hlen]
        exact (vd'.at (a5 (by omega) (by omega))).mono fun j _ v ⟨b, e, p, q⟩ => ⟨b, e, q.at (a5 (by omega) (by omega))⟩
  have lp := loop _ rfl
  exact codeAny_compStart_dict lp (W.self 0 _ _ _ hst lp)
end
end Mine

namespace Mine
theorem sorted_eq {a b : List Int} (ha : a.Pairwise (· ≤ ·)) (hb : b.Pairwise (· < ·)) (h : a.Perm b) : a = b := by
  refine List.Perm.eq_of_pairwise (le := fun x y : Int => x ≤ y) ?_ ha (hb.imp fun h => by omega) h
  intro x y _ _ h1 h2
  omega
theorem SelfAt.at {h h' : Heap} {x dx inD rv rd : Addr} {rem : Int} (S : SelfAt h x dx inD rv rd rem) (k1 : At h h' x) (k2 : At h h' dx) : SelfAt h' x dx inD rv rd rem :=
  let ⟨a, b, c, d, e, f, g, p, q⟩ := S
  ⟨a, b, c, d, e, f, g, k1 _ p, k2 _ q⟩
theorem SelfAt.nodx {h : Heap} {x dx inD rv rd a : Addr} {rem : Int} {l : List Int} (S : SelfAt h x dx inD rv rd rem) (y : IntL h a l) : @Ne Nat a dx := by
  obtain ⟨_, _, _, _, _, _, _, _, e'⟩ := S
  rintro rfl
  obtain ⟨_, ⟨n, e⟩, _⟩ := y
  rw [e] at e'
  have c := congrArg Obj.cls (Option.some.inj e')
  exact absurd (Value.type.inj c) (by decide)
section
variable {prog : Program} {w : World} {s : Shared} {nd : Needs} {hb Hw : Heap} {L fa D T due pl td x dx inD rv hi : Nat} {cd : Value} {lsV : Value} {c1 : Option Value} {ks ks' : List Int} {r : Nat} {E : Value → Shared → Prop}
/-- where things lie while the batches come -/
structure Lie (L td x dx inD rv hi : Nat) : Prop where
  p1 : L + 3 < td
  p2 : td < x
  p3 : td < dx
  p4 : td < inD
  p5 : td < rv
  p6 : x < hi
  p7 : dx < hi
  p8 : inD < hi
  p9 : rv < hi
  n1 : inD ≠ rv
  n2 : inD ≠ dx
  n3 : rv ≠ dx
abbrev tLoc (td due T : Nat) (lsV : Value) : List (Str × Value) := ("told", .ref td) :: dLoc due T lsV
structure TI (prog : Program) (w : World) (hb Hw : Heap) (L D T due pl td x dx inD rv hi : Nat) (lsV : Value) (c1 : Option Value) (nd : Needs) (ks ks' : List Int) (r : Nat) (h : Heap) : Prop where
  lc : LC w hb L (tLoc td due T lsV) c1 (some (.ref D)) (some (.ref pl)) h
  kp : Kp [L] Hw h
  rd : ∃ (rd : Nat) (rdl : List Int), td < rd ∧ SelfAt h x dx inD rv rd ((things nd).length - (placedN nd (r + 1)).length) ∧ IntL h rd rdl ∧ rdl.Perm (layer nd r)
  deg : VD prog w h inD ks (fun t v => ∃ tk, v = .int (cnt nd (placedN nd r) t) tk)
  rev : VD prog w h rv ks' (fun t v => ∃ a : Nat, v = .ref a ∧ td < a ∧ IntL h a (revOf nd t))
  told : ∃ tas, RefL h td tas ∧ Lays h tas (lays nd r) ∧ ∀ a ∈ tas, @LE.le Nat _ hi a
set_option maxHeartbeats 2000000 in
theorem told_turn (G : Good nd) (Y : Lie L td x dx inD rv hi) (hH : Hw.objs.size ≤ td) (hr9 : r ≤ 8) (hkt : ∀ t, t ∈ ks ↔ t ∈ things nd) (hkt' : ∀ t, t ∈ ks' ↔ t ∈ things nd) (hne : layer nd r ≠ [])
    (hih : hi ≤ s.heap.objs.size) (J : TI prog w hb Hw L D T due pl td x dx inD rv hi lsV c1 nd ks ks' r s.heap) {Q : Flow → Shared → Prop} {rest : Shared → Prop}
    (hrest : ∀ s', Sh s s' → hi ≤ s'.heap.objs.size → TI prog w hb Hw L D T due pl td x dx inD rv hi lsV c1 nd ks ks' (r + 1) s'.heap → rest s') :
    wpAny (model prog w) (lawA w L fa cd) (pyNext (.ref x)) (OwitTurn prog w (lawA w L fa cd) E (lawEnv w L fa cd) "batch" (forBody (nthS (lawT w) 0)) Q rest) E s := by
  obtain ⟨lc, kp, ⟨rd, rdl, htr, S, hrd, hperm⟩, deg, rev, ⟨tas, tT, tL, gt⟩⟩ := J
  have hks : ks.length ≤ 8 := by
    rw [(perm_of deg.nodup things_nodup hkt).length_eq]; exact things_len
  have hlow := lc.low
  obtain ⟨m, hns, hm⟩ := id lc.loc
  have F : Fr hb L s.heap m := ⟨hns, lc.ext, Nat.le_of_eq lc.sz.symm⟩
  obtain ⟨y1, y2, y3, y4, y5, y6, y7, y8, y9, yn1, yn2, yn3⟩ := id Y
  refine pynext_ok (ks := ks) (ks' := ks') (r := r) rfl (by exact Nat.le_of_ble_eq_true (by kernel_rfl)) G lc.g F hks hkt hkt' S hrd hperm (fun e => hne (by subst e; exact hperm.symm.eq_nil)) deg (rev.mono fun _ _ _ ⟨a, e, _, q⟩ => ⟨a, e, q⟩) ⟨yn1, yn2⟩ ⟨by show 60 ≤ inD; omega, by show 60 ≤ dx; omega⟩ ?_
  intro s1 rd' nl hsh1 kp1 hrd' S1 hnl hnp deg1
  obtain ⟨h1, tk1, rfl⟩ := hsh1
  dsimp only at kp1 S1 hnl deg1 ⊢
  have hrd' : @LE.le Nat _ s.heap.objs.size rd' := hrd'
  have hz1 : hi < h1.objs.size := Nat.lt_of_le_of_lt (Nat.le_trans hih hrd') hnl.lt
  have hxd : @Ne Nat x dx := by
    obtain ⟨_, _, _, _, _, _, _, e1, e2⟩ := S
    exact inst_ne_dictOf e1 e2
  have hxi : @Ne Nat x inD := by
    obtain ⟨_, _, _, _, _, _, _, e1, e2⟩ := S
    exact inst_ne_dict e1 deg
  have no1 : ∀ {b : Nat}, b ≠ inD → b ≠ dx → b ∉ ([inD, dx] : List Addr) := fun n1 n2 m => by
    rcases List.mem_cons.mp m with q | q
    · exact n1 q
    · exact n2 (List.mem_singleton.mp q)
  have lc1 := lc.kp kp1 fun b m => by
    rcases List.mem_cons.mp m with q | q
    · have q : @Eq Nat b inD := q; show L + 3 < b; omega
    · have q : @Eq Nat b dx := List.mem_singleton.mp q; show L + 3 < b; omega
  have hHs : ∀ {b : Nat} {o}, Hw.get? b = some o → b < td := fun e => Nat.lt_of_lt_of_le (glt e) hH
  have kpA : Kp [L] Hw h1 := fun b o n e => kp1 b o (no1 (by have := hHs e; show @Ne Nat b inD; omega) (by have := hHs e; show @Ne Nat b dx; omega)) (kp b o n e)
  have rev1 : VD prog w h1 rv ks' (fun t v => ∃ a : Nat, v = .ref a ∧ td < a ∧ IntL h1 a (revOf nd t)) := by
    exact (rev.at (kp1.at (no1 (Ne.symm yn1) yn3))).mono fun _ _ _ ⟨a, e, p, q⟩ => ⟨a, e, p, q.at (kp1.at (no1 (list_ne_dict q deg) (S.nodx q)))⟩
  have tT1 : RefL h1 td tas := tT.at (kp1.at (no1 (by omega) (by omega)))
  have tL1 : Lays h1 tas (lays nd r) := tL.kp fun a ha => kp1.at (no1 (by have := gt a ha; show @Ne Nat a inD; omega) (by have := gt a ha; show @Ne Nat a dx; omega))
  have hrd1 : IntL h1 rd rdl := hrd.at (kp1.at (no1 (list_ne_dict hrd deg) (S.nodx hrd)))
  have hrdL : L + 3 < rd := by omega
  have hnl8 := layer_len nd (r + 1)
  -- batch
  refine stL lc1.loc fun h2 hl2 hs2 => ?_
  dsimp only at hl2 hs2 ⊢
  have lc2 := lc1.locs hs2 hl2
  have a2 : ∀ {b : Nat}, b ≠ L → At h1 h2 b := fun n => at_but hs2 n
  have S2 := S1.at (a2 (b := x) (by omega)) (a2 (b := dx) (by omega))
  have hz2 : hi < h2.objs.size := by have := hs2.1; omega
  -- told.append(sorted(batch))
  show wpAny _ _ (execs [_] _) _ _ _
  obtain ⟨its, hpL⟩ := (tT1.at (a2 (b := td) (by omega))).plainL
  obtain ⟨us, hup, hui⟩ := hrd1.at (a2 (b := rd) (by omega))
  refine wpAny_noRaise (wpAny_execs_cons (wpAny_Expr_any (wpAny_Call_append (by rfl) (by rfl) (by rfl) (by rfl) (nmL lc2.loc (by rfl) ⟨_, _, rfl, hpL, ?_⟩))))
  refine wpAny_Call_NameR (nmB lc2.gl boot_sorted (PyProof.Rows.callWith_builtin1 (Calls.spliced_cons (nmL lc2.loc (by rfl) (Calls.spliced_nil ?_)))))
  refine sorted_ints hup.isList hui (by rw [hui.length, hperm.length_eq]; have := layer_len nd r; omega) fun out ns' hout hpm hso => ?_
  have hrow : ns' = layer nd r := sorted_eq hso (ready_sorted _) (hpm.trans hperm)
  subst hrow
  obtain ⟨R, hR⟩ : ∃ R : Nat, R = h2.objs.size + 1 := ⟨_, rfl⟩
  obtain ⟨h3, hh3⟩ : ∃ h3, h3 = sortedAll h2 us out := ⟨_, rfl⟩
  dsimp only
  rw [← hh3, ← hR]
  have k3 : Ext h2 h3 := fun b o e => hh3 ▸ sortedAll_old e
  have tR3 : IntL h3 R (layer nd r) := by
    obtain ⟨e, he⟩ := sortedAll_at h2 us out
    exact ⟨out.toList, ⟨e, by rw [hh3, hR]; simpa using he⟩, hout⟩
  have tT3 : RefL h3 td tas := (tT1.at (a2 (b := td) (by omega))).at (at_ext k3)
  have hasl : tas.length ≤ 8 := by have := tL1.1; simp only [lays, List.length_map, List.length_range] at this; omega
  refine app_ref tT3 (by omega) fun h4 tT4 hs4 => ?_
  dsimp only at hs4
  have a4 : ∀ {b : Nat}, b ≠ td → At h3 h4 b := fun n => at_but hs4 n
  have a24 : ∀ {b : Nat}, b ≠ L → b ≠ td → At h1 h4 b := fun e1 e2 o e => a4 e2 o (k3 _ o (a2 e1 o e))
  refine wpAny_execs_nil ?_
  show rest _
  have lc4 := ((lc2.kept k3).but hs4 y1).re (l' := tLoc td due T lsV) (by (repeat' (first | exact List.forall_mem_nil _ | refine List.forall_mem_cons.mpr ⟨rfl, ?_⟩)))
  refine hrest _ ⟨h4, _, rfl⟩ (Nat.le_of_lt (Nat.lt_of_lt_of_le (by omega : hi < R) (Nat.le_of_lt (tR3.at (a4 (by omega))).lt))) ⟨lc4, ?_, ⟨rd', nl, ?_, ?_, ?_, hnp⟩, (deg1.at (a24 (by omega) (by omega))), ?_, tas ++ [R], tT4, ?_, ?_⟩
  · exact fun b o n e => a24 (fun q => n (by rw [q]; exact .head _)) (by have := hHs e; show @Ne Nat b td; omega) o (kpA b o n e)
  · have := rev1.lt; omega
  · have e : ((things nd).length : Int) - (placedN nd (r + 1)).length - nl.length = (things nd).length - (placedN nd (r + 1 + 1)).length := by
      show _ = _ - ((placedN nd (r + 1) ++ layer nd (r + 1)).length : Int)
      rw [List.length_append, hnp.length_eq]; omega
    rw [← e]
    exact S1.at (a24 (b := x) (by omega) (by omega)) (a24 (b := dx) (by omega) (by omega))
  · exact hnl.at (a24 (b := rd') (by omega) (by omega))
  · exact (rev1.at (a24 (b := rv) (by omega) (by omega))).mono fun _ _ _ ⟨a, e, p, q⟩ => ⟨a, e, p, q.at (a24 (b := a) (by omega) (by omega))⟩
  · rw [lays_succ]
    exact (tL1.kp fun a ha => a24 (by have := gt a ha; show @Ne Nat a L; omega) (by have := gt a ha; show @Ne Nat a td; omega)).snoc (tR3.at (a4 (by omega)))
  · intro a ha
    rcases List.mem_append.mp ha with ha | ha
    · exact gt a ha
    · rw [List.mem_singleton.mp ha]; show @LE.le Nat _ hi R; omega
end
end Mine

namespace Mine
section
variable {prog : Program} {w : World} {s s₀ : Shared} {nd : Needs} {hb Hw : Heap} {L fa D T due pl td x dx inD rv hi R : Nat} {cd : Value} {lsV : Value} {c1 : Option Value} {ks ks' : List Int} {r : Nat} {E : Value → Shared → Prop} {l : List (Str × Value)}
/-- when the batches have come to an end -/
structure TE (w : World) (hb Hw : Heap) (L D pl td : Nat) (c1 : Option Value) (nd : Needs) (R : Nat) (l : List (Str × Value)) (h : Heap) : Prop where
  lc : LC w hb L l c1 (some (.ref D)) (some (.ref pl)) h
  kp : Kp [L] Hw h
  told : ∃ tas, RefL h td tas ∧ Lays h tas (lays nd R) ∧ ∀ a ∈ tas, @LT.lt Nat _ L a
theorem TE.to {h h' : Heap} {l' : List (Str × Value)} (x : TE w hb Hw L D pl td c1 nd R l h) (k : Kp [L] h h') (hl : Loc h' L l') (ht : L + 3 < td) : TE w hb Hw L D pl td c1 nd R l' h' := by
  obtain ⟨lc, kp, tas, a, b, c⟩ := x
  have n : ∀ {b : Nat}, L < b → b ∉ [L] := fun h m => by have q : @Eq Nat _ L := List.mem_singleton.mp m; omega
  exact ⟨lc.comp (wr := []) k (fun _ m => absurd m List.not_mem_nil) hl, kp.trans k, tas, a.at (k.at (n (by omega))), b.kp fun a' ha => k.at (n (c a' ha)), c⟩
set_option maxHeartbeats 1000000 in
theorem told_rest (G : Good nd) (Y : Lie L td x dx inD rv hi) (hH : Hw.objs.size ≤ td) (hR : R ≤ 8) (hkt : ∀ t, t ∈ ks ↔ t ∈ things nd) (hkt' : ∀ t, t ∈ ks' ↔ t ∈ things nd)
    (hne : ∀ i < R, layer nd i ≠ []) (hend : layer nd R = []) {Q : Flow → Shared → Prop}
    (hQ : ∀ s', Sh s₀ s' → TE w hb Hw L D pl td c1 nd R (tLoc td due T lsV) s'.heap → (things nd).length = (placedN nd R).length → Q .next s')
    (hE : (things nd).length ≠ (placedN nd R).length → ∀ B e a0 s' h m, Sh s₀ s' → Heap.FlyingW B [lawEnv w L fa cd] e (.type "AssertionError") a0 s'.heap → TE w hb Hw L D pl td c1 nd R (tLoc td due T lsV) h →
      (∀ b o, b ≠ L → h.get? b = some o → B.get? b = some o) → B.get? L = none → s'.heap.Ns L m → (∀ y u, (tLoc td due T lsV).lookup y = some u → m y = some u) → E (.ref e) s') :
    ∀ k r n (s : Shared), r + k = R → k < n → hi ≤ s.heap.objs.size → Sh s₀ s → TI prog w hb Hw L D T due pl td x dx inD rv hi lsV c1 nd ks ks' r s.heap →
      OwitRest prog w (lawA w L fa cd) E (lawEnv w L fa cd) "batch" (forBody (nthS (lawT w) 0)) Q x n s := by
  intro k
  induction k with
  | zero =>
    intro r n s hr hn hih hsh J
    have hr : r = R := by omega
    subst hr
    obtain ⟨n, rfl⟩ : ∃ n', n = n' + 1 := ⟨n - 1, by omega⟩
    obtain ⟨lc, kp, ⟨rd, rdl, htr, S, hrd, hperm⟩, deg, rev, ⟨tas, tT, tL, gt⟩⟩ := J
    rw [hend] at hperm
    have hrdl : rdl = [] := hperm.eq_nil
    subst hrdl
    obtain ⟨m, hns, hm⟩ := id lc.loc
    have F : Fr hb L s.heap m := ⟨hns, lc.ext, Nat.le_of_eq lc.sz.symm⟩
    have hp1 : placedN nd (r + 1) = placedN nd r := by
      show placedN nd r ++ layer nd r = _
      rw [hend, List.append_nil]
    rw [hp1] at S
    have y1 := Y.p1
    have y6 := Y.p6
    have y2 := Y.p2
    have te : TE w hb Hw L D pl td c1 nd r (tLoc td due T lsV) s.heap := ⟨lc, kp, tas, tT, tL, fun a ha => by have := gt a ha; show @LT.lt Nat _ L a; omega⟩
    refine OwitRest.succ (pynext_end rfl (by exact Nat.le_of_ble_eq_true (by kernel_rfl)) rfl lc.g F S hrd ?_ ?_)
    · intro h0 h' tk hns' hk
      refine hQ _ (hsh.trans ⟨_, _, rfl⟩) (te.to (fun b o n e => hk b o (fun q => n (by rw [q]; exact .head _)) e) ⟨m, hns', hm⟩ y1) (by omega)
    · intro h0 B e a0 h' tk hf hB hBL hns'
      exact hE (by omega) B e a0 _ s.heap m (hsh.trans ⟨_, _, rfl⟩) hf te hB hBL hns' hm
  | succ k ih =>
    intro r n s hr hn hih hsh J
    obtain ⟨n, rfl⟩ : ∃ n', n = n' + 1 := ⟨n - 1, by omega⟩
    exact OwitRest.succ (told_turn G Y hH (by omega) hkt hkt' (hne r (by omega)) hih J fun s' hsh' hz J' => ih (r + 1) n s' (by omega) (by omega) hz (hsh.trans hsh') J')
def tryHandlers : Stmt → List ExceptHandler
  | .Try _ h _ _ _ => h
  | _ => []
noncomputable abbrev lawH (w : World) : List ExceptHandler := tryHandlers (lawS w 7)
set_option maxHeartbeats 1000000 in
theorem law_caught {B h : Heap} {e : Addr} {a0 : Value} {m : Str → Option Value} {Q : Flow → Shared → Prop} (ht : L + 3 < td) (hf : Heap.FlyingW B [lawEnv w L fa cd] e (.type "AssertionError") a0 s.heap) (te : TE w hb Hw L D pl td c1 nd R l h)
    (hB : ∀ b o, b ≠ L → h.get? b = some o → B.get? b = some o) (hBL : B.get? L = none) (hns : s.heap.Ns L m) (hm : ∀ y u, l.lookup y = some u → m y = some u)
    (hQ : ∀ s', Sh s s' → TE w hb Hw L D pl td c1 nd R (("whole", .bool false) :: l) s'.heap → Q .next s') :
    wpAny (model prog w) (lawA w L fa cd) (noteFrame (.ref e) (lawEnv w L fa cd)) (fun _ s₂ => wpAny (model prog w) (lawA w L fa cd) (setFlight (.ref e) none) (fun _ s₃ => wpAny (model prog w) (lawA w L fa cd) (handleBy (.ref e) (lawEnv w L fa cd) (lawH w)) Q Nev s₃) Nev s₂) Nev s := by
  refine wpAny_looks_onW (base := B) (outer := []) rfl rfl hf fun h4 hheld hsm4 => ?_
  refine wpAny_landsW hheld fun h5 hf5 hsm5 => ?_
  obtain ⟨ob, hob, hobc⟩ := hf5.there
  have ext5 : Ext hb h5 := fun b o e => hf5.1 b o (hB b o (by have := glt e; have := te.lc.sz; show @Ne Nat b L; omega) (te.lc.ext b o e))
  show wpAny _ _ (handleBy _ _ (.ExceptHandler (some (.Name _ _)) none (_ :: _) _ :: _)) _ _ _
  refine wpAny_handleBy_builtin (X := "AssertionError") (T := "AssertionError") (b := true) PySem.F.isExc_AssertionError PySem.F.notTuple_AssertionError (by rw [isSubtype_type]; kernel_rfl)
    (nmB (te.lc.g.keeps ext5) PyProof.Rows.Boot.«AssertionError» ⟨rfl, ⟨ob, hob, hobc⟩, ?_⟩)
  rw [if_pos rfl]
  refine lands_againW hf5 fun h6 hf6 hsm6 => ?_
  have hns6 : h6.Ns L m := hsm6.ns (hsm5.ns (hsm4.ns hns))
  have k6 : Kp [L] h h6 := fun b o n e => hf6.1 b o (hB b o (fun q => n (by rw [q]; exact .head _)) e)
  have te6 := te.to k6 ⟨m, hns6, hm⟩ ht
  refine wpAny_noRaise (wpAny_execs_cons (wpAny_Assign_Name (wpAny_Constant_bool (stL te6.lc.loc fun h7 hl7 hs7 => wpAny_execs_nil (hQ _ ⟨_, _, rfl⟩ (te6.to (Kp.but hs7 (.head _)) hl7 ht))))))
end
end Mine

namespace Mine
section
variable {prog : Program} {w : World} {s : Shared} {nd : Needs} {hb : Heap} {L fa D T due pl x dx R : Nat} {cd : Value} {lsV : Value} {c1 : Option Value} {ks ks' : List Int} {r : Nat} {E : Value → Shared → Prop} {l : List (Str × Value)}
theorem nocell33 : ∀ y ∈ (fnAt w.params 33).scope.names, y.2 ≠ .cell := by
  have h : ((fnAt w.params 33).scope.names.all fun y => decide (y.2 ≠ .cell)) = true := by rfl
  exact fun y hy => of_decide_eq_true (List.all_eq_true.mp h y hy)
theorem iter_self {Q : Value → Shared → Prop} {m : Str → Option Value} {es : List DictEntry} {n : Nat} (Gb : Gl w hb) (F : Fr hb L s.heap m) (h1 : s.heap.get? x = some (instObj 43 dx)) (h2 : s.heap.get? dx = some (W.dictOf es n))
    (hQ : ∀ s', Sh s s' → Ext s.heap s'.heap → Q (.ref x) s') : wpAny (model prog w) (lawA w L fa cd) (pyIter (.ref x)) Q E s := by
  have GL : Gl w s.heap := Gb.keeps F.keep
  refine owit_iter F Gb.X (inst_of h1 h2) (f := 33) (by rfl) (by rfl) (wpAny_call ?_)
  refine codeAny_call_def (fd := fnAt w.params 33) (body := bodyAt w.params 33) (binds := [("self", .ref x)]) (by exact Nat.le_of_ble_eq_true (by kernel_rfl)) (GL.X 33 _ (e33 w.params)) rfl GL.nolimit (GL.code (by rfl)) (b33 _)
    (BindsTo.of_eq (by rfl)) nocell33 (fun y hy => by rw [List.mem_singleton.mp hy]; rfl) (fun h₀ hns hk => ?_) (by rfl) (by rfl) (by rfl)
  have hloc : Loc h₀ s.heap.objs.size [("self", .ref x)] := ⟨_, hns, fun y u hy => hy⟩
  refine wpAny_noRaise ?_
  show wpAny _ _ (execs [_] (callEnv (fnAt w.params 33) s.heap.objs.size 33)) _ _ _
  refine wpAny_execs_cons (wpAny_Return_some (nmL hloc (by rfl) ?_))
  have F' : Fr hb L h₀ m := ⟨F.ns.keeps hk, fun b o e => hk b o (F.keep b o e), F.above⟩
  exact owit_it F' Gb.X (inst_of (hk _ _ h1) (hk _ _ h2)) (g := .ref 40) (by rfl) (hQ _ ⟨_, _, rfl⟩ hk)
set_option maxHeartbeats 2000000 in
theorem law_67 (G : Good nd) (hD : L + 3 < D) (hR : R ≤ 8) (lc : LC w hb L (dLoc due T lsV) c1 (some (.ref D)) (some (.ref pl)) s.heap) (nv : NV prog w L s.heap D nd)
    (hne : ∀ i < R, layer nd i ≠ []) (hend : layer nd R = []) {rest : List Stmt} {Q : Flow → Shared → Prop}
    (hQ : ∀ td s', Sh s s' → L + 3 < td → TE w hb s.heap L D pl td c1 nd R (("whole", .bool (decide ((things nd).length = (placedN nd R).length))) :: tLoc td due T lsV) s'.heap →
      wpAny (model prog w) (lawA w L fa cd) (execs rest (lawEnv w L fa cd)) Q Nev s') :
    wpAny (model prog w) (lawA w L fa cd) (execs (lawS w 6 :: lawS w 7 :: rest) (lawEnv w L fa cd)) Q Nev s := by
  refine wpAny_execs_cons ?_
  show wpAny _ _ (exec (.Assign _ _ _) _) _ _ _
  refine wpAny_Assign_Name (new_nil fun h1 _ hn1 k1 z1 => stL (lc.kept k1).loc fun h2 hl2 hs2 => ?_)
  obtain ⟨td, htd⟩ : ∃ td : Nat, td = s.heap.objs.size := ⟨_, rfl⟩
  dsimp only at hn1 hl2 hs2 k1 z1 ⊢
  rw [← htd] at hn1 hl2
  have hs2 : Heap.SameBut L h1 h2 := hs2
  have lc2 := (lc.kept k1).locs hs2 hl2
  have hLt : L + 3 < td := by rw [htd]; exact lc.lt
  have tT2 : RefL h2 td [] := hn1.at (at_but hs2 (by show @Ne Nat td L; omega))
  have kp2 : Kp [L] s.heap h2 := (Kp.ext k1).trans (Kp.but hs2 (.head _))
  have nv2 : NV prog w L h2 D nd := (nv.at k1).low hD hs2 (by omega)
  refine wpAny_execs_cons ?_
  show wpAny _ _ (exec (.Try (lawT w) (lawH w) _ [] _) _) _ _ _
  have fin : ∀ s', Sh s s' → TE w hb s.heap L D pl td c1 nd R (tLoc td due T lsV) s'.heap → (things nd).length = (placedN nd R).length → wpAny (model prog w) (lawA w L fa cd) (execs [nthS (lawT w) 1] (lawEnv w L fa cd))
      (fun f s₁ => match f with | .next => wpAny (model prog w) (lawA w L fa cd) (execs [] (lawEnv w L fa cd)) (fun f s' => match f with | .next => wpAny (model prog w) (lawA w L fa cd) (execs rest (lawEnv w L fa cd)) Q Nev s' | f => Q f s') Nev s₁ | f => (match f with | .next => wpAny (model prog w) (lawA w L fa cd) (execs rest (lawEnv w L fa cd)) Q Nev s₁ | f => Q f s₁)) Nev s' := by
    intro s' hsh te he
    rw [decide_eq_true he] at hQ
    exact wpAny_execs_cons (wpAny_Assign_Name (wpAny_Constant_bool (stL te.lc.loc fun h7 hl7 hs7 => wpAny_execs_nil (wpAny_execs_nil (hQ td _ (hsh.trans ⟨_, _, rfl⟩) hLt (te.to (Kp.but hs7 (.head _)) hl7 hLt))))))
  show wpAny _ _ (exec (.Try (lawT w) (_ :: _) _ [] _) _) _ _ _
  refine wpAny_Try_except ?_
  show wpAny _ _ (execs [nthS (lawT w) 0, nthS (lawT w) 1] _) _ _ _
  refine wpAny_execs_cons ?_
  show wpAny _ _ (exec (.For (.Name "batch" _) (forIter (nthS (lawT w) 0)) (forBody (nthS (lawT w) 0)) [] _) _) _ _ _
  refine owit_for ?_ (fun _ => rfl) PassesOwn.looking
  refine wpAny_Call_NameR (nmG lc2.gl (v := .ref 43) (by rfl) ?_)
  refine callWith_K lc2.gl.X (by rfl) ?_
  refine Calls.spliced_cons (law_dc G hD lc2 nv2 fun D' s3 hsh3 hD' k3 ND' => Calls.spliced_nil ⟨(lc2.gl.keeps k3).X, ?_⟩)
  obtain ⟨h3, tk3, rfl⟩ := hsh3
  dsimp only at k3 ND' hD' ⊢
  have lc3 := lc2.kept k3
  have hD' : @LE.le Nat _ h2.objs.size D' := hD'
  have htd2 : td < h2.objs.size := tT2.lt
  have hlow := lc.low
  refine call_top G lc3.gl (by omega) ND' ?_
  intro s4 x dx inD rv rd ks ks' rdl hsh4 k4 q1 q2 q3 q4 q5 n1 n2 n3 S hrd hperm hkt hkt' deg rev
  obtain ⟨h4, tk4, rfl⟩ := hsh4
  dsimp only at k4 q1 q2 q3 q4 q5 S hrd deg rev ⊢
  have lc4 := lc3.kept k4
  obtain ⟨m4, hns4, hm4⟩ := id lc4.loc
  have F4 : Fr hb L h4 m4 := ⟨hns4, lc4.ext, Nat.le_of_eq lc4.sz.symm⟩
  obtain ⟨hs', t₁, t₂, t₃, t₄, t₅, n', e1, e2⟩ := id S
  refine iter_self lc.g F4 e1 e2 fun s5 hsh5 k5 => ?_
  obtain ⟨h5, tk5, rfl⟩ := hsh5
  dsimp only at k5 ⊢
  have htd3 : td < h3.objs.size := (tT2.at (at_ext k3)).lt
  have tT5 : RefL h5 td [] := ((tT2.at (at_ext k3)).at (at_ext k4)).at (at_ext k5)
  have lc5 := (lc4.kept k5).re (l' := tLoc td due T lsV) (by (repeat' (first | exact List.forall_mem_nil _ | refine List.forall_mem_cons.mpr ⟨rfl, ?_⟩)))
  have hl0 : rdl.length = (layer nd 0).length := hperm.length_eq
  have S5 := S.at (at_ext k5) (at_ext k5)
  have x5 : x < h5.objs.size := glt (k5 _ _ e1)
  have d5 : dx < h5.objs.size := glt (k5 _ _ e2)
  have i5 : inD < h5.objs.size := (deg.at (at_ext k5)).lt
  have v5 : rv < h5.objs.size := (rev.at (at_ext k5)).lt
  refine OwitAt.intro ?_
  refine told_rest (s₀ := s) (hb := hb) (Hw := s.heap) (D := D) (T := T) (due := due) (pl := pl) (c1 := c1) (lsV := lsV) (dx := dx) (inD := inD) (rv := rv) (hi := h5.objs.size) (ks := ks) (ks' := ks') (td := td) (R := R) G
    ⟨hLt, by omega, by omega, by omega, by omega, x5, d5, i5, v5, n1, n2, n3⟩ (by omega) hR hkt hkt' hne hend ?_ ?_ R 0 64 _ (by omega) (by omega) (Nat.le_refl _) ⟨h5, tk5, rfl⟩
    ⟨lc5, kp2.trans (Kp.ext fun b o e => k5 b o (k4 b o (k3 b o e))), ⟨rd, rdl, by omega, ?_, hrd.at (at_ext k5), hperm⟩, deg.at (at_ext k5), (rev.at (at_ext k5)).mono fun _ _ _ ⟨a, e, p, q⟩ => ⟨a, e, by omega, q.at (at_ext k5)⟩, [], tT5, ⟨rfl, fun i a l ha => by simp at ha⟩, fun a m => absurd m List.not_mem_nil⟩
  · intro s' hsh te he
    exact wpAny_noRaise (fin s' hsh te he)
  · intro hn B e a0 s' h m hsh hf te hB hBL hns hm
    refine law_caught hLt hf te hB hBL hns hm fun s6 hsh6 te6 => ?_
    rw [decide_eq_false hn] at hQ
    exact hQ td s6 (hsh.trans hsh6) hLt te6
  · have e : (placedN nd (0 + 1)) = layer nd 0 := by
      show [] ++ readyOf nd [] = _
      rfl
    rw [e, ← hl0]
    exact S5
end
end Mine

namespace Mine
/-- rows of ints, as data -/
def rowsD (ls : List (List Int)) : List PyData := ls.map fun l => PyData.list (l.map PyData.int)
theorem rows_read {h : Heap} : ∀ {as : List Addr} {ls : List (List Int)}, Lays h as ls → ∃ bs, ReadsAll h (as.map Value.ref) (rowsD ls) bs
  | [], [], _ => ⟨[], .nil⟩
  | [], _ :: _, x => by cases x.1
  | _ :: _, [], x => by cases x.1
  | a :: as, l :: ls, x => by
    obtain ⟨bs, hbs⟩ := rows_read (h := h) (as := as) (ls := ls) ⟨by simpa using x.1, fun i a' l' ha hl => x.2 (i + 1) a' l' ha hl⟩
    obtain ⟨vs, hp, hi⟩ := x.2 0 a l rfl rfl
    exact ⟨_, ReadsAll.cons (reads_of_ints hp.isList hi) hbs⟩
theorem rows_lay : ∀ ls, PyData.canLayAll0 (rowsD ls) = true
  | [] => by simp [rowsD, PyData.canLayAll0]
  | l :: r => by
    have := rows_lay r
    simp only [rowsD] at this
    simp [rowsD, PyData.canLayAll0, PyData.canLay0, canLayAll0_ints, this]
theorem rows_depth : ∀ ls, PyData.depthAll (rowsD ls) ≤ 2
  | [] => by simp [rowsD, PyData.depthAll]
  | l :: r => by
    have h1 := rows_depth r
    have h2 := PySem.W.depthAll_ints l
    simp only [rowsD] at h1
    simp only [rowsD, List.map_cons, PyData.depthAll, PyData.depth]
    omega
theorem rows_mix : ∀ ls, PySem.SeqAt.noMixAll (rowsD ls) (rowsD ls) = true
  | [] => by simp [rowsD, PySem.SeqAt.noMixAll]
  | l :: r => by
    have h1 := rows_mix r
    simp only [rowsD] at h1
    simp [rowsD, PySem.SeqAt.noMixAll, PySem.SeqAt.noMix, noMix_ints, h1]
theorem rows_same : ∀ ls, PySem.Spec.sameAll (rowsD ls) (rowsD ls) = true
  | [] => by simp [rowsD, PySem.Spec.sameAll]
  | l :: r => by
    have h1 := rows_same r
    simp only [rowsD] at h1
    simp [rowsD, PySem.Spec.sameAll, PySem.Spec.same, same_ints, h1]
theorem rows_shaped (ls : List (List Int)) : PySem.SeqAt.shaped (.list (rowsD ls)) = true := by
  have h1 := rows_depth ls
  have h2 : PyData.depth (.list (rowsD ls)) ≤ 64 := by simp only [PyData.depth]; omega
  show (PyData.canLay0 (.list (rowsD ls)) && decide (PyData.depth (.list (rowsD ls)) ≤ 64)) = true
  rw [Bool.and_eq_true]
  exact ⟨by simp only [PyData.canLay0]; exact rows_lay ls, decide_eq_true h2⟩
section
variable {prog : Program} {w : World} {A : Around} {E : Value → Shared → Prop} {s : Shared}
theorem eq_rows {a b : Addr} {as bs : List Addr} {ls : List (List Int)} {Q : Value → Shared → Prop} (ha : RefL s.heap a as) (hb : RefL s.heap b bs) (la : Lays s.heap as ls) (lb : Lays s.heap bs ls) (hu : A.units + 64 < cLine)
    (h : Q (.bool true) s) : wpAny (model prog w) A (compareOp .Eq (.ref a) (.ref b)) Q E s := by
  obtain ⟨n, e⟩ := ha
  obtain ⟨n', e'⟩ := hb
  obtain ⟨_, r⟩ := rows_read la
  obtain ⟨_, r'⟩ := rows_read lb
  refine eq_dataH_same (Reads.list e rfl rfl (by simpa using r)) (Reads.list e' rfl rfl (by simpa using r')) (rows_shaped ls) (rows_shaped ls) hu (by simp only [PySem.SeqAt.noMix]; exact rows_mix ls) ?_
  simp only [PySem.Spec.same]
  rw [rows_same]
  exact h
end
section
variable {prog : Program} {w : World} {s : Shared} {nd : Needs} {hb Hw : Heap} {L fa D T due pl td R : Nat} {cd : Value} {lsV : Value} {c1 : Option Value} {E : Value → Shared → Prop}
set_option maxHeartbeats 1000000 in
theorem law_8 {as : List Addr} (hT : L + 3 < T) (hpl : L + 3 < pl) (hdue : L + 3 < due) (ht : L + 3 < td) (tT : IntL Hw T (things nd)) (tP : IntL Hw pl (placedN nd R)) (tD : RefL Hw due as) (tL : Lays Hw as (lays nd R)) (hgt : ∀ a ∈ as, @LT.lt Nat _ L a)
    (te : TE w hb Hw L D pl td c1 nd R (("whole", .bool (decide ((things nd).length = (placedN nd R).length))) :: tLoc td due T lsV) s.heap) {Q : Flow → Shared → Prop}
    (hQ : ∀ s', Sh s s' → Ext s.heap s'.heap → Q (.ret (.bool true)) s') :
    wpAny (model prog w) (lawA w L fa cd) (exec (lawS w 8) (lawEnv w L fa cd)) Q Nev s := by
  obtain ⟨lc, kp, tas, aT, aL, gt⟩ := te
  have n : ∀ {b : Nat}, L < b → b ∉ [L] := fun h m => by have q : @Eq Nat _ L := List.mem_singleton.mp m; omega
  have tT1 := tT.at (kp.at (n (by omega)))
  have tP1 := tP.at (kp.at (n (by omega)))
  have tD1 := tD.at (kp.at (n (by omega)))
  have tL1 : Lays s.heap as (lays nd R) := tL.kp fun a ha => kp.at (n (hgt a ha))
  have hP8 : (placedN nd R).length ≤ 8 := Nat.le_trans (placed_len R) things_len
  have hT8 := things_len (nd := nd)
  show wpAny _ _ (exec (.Return _ _) _) _ _ _
  refine wpAny_Return_some (wpAny_And2 (wpAny_Compare1 (nmL lc.loc (by rfl) (nmL lc.loc (by rfl) (eq_rows aT tD1 aL tL1 (by exact Nat.le_of_ble_eq_true (by kernel_rfl)) (wpAny_truthy_bool ?_))))))
  rw [if_pos rfl]
  obtain ⟨us, hup, hui⟩ := tP1
  obtain ⟨ws, hwp, hwi⟩ := tT1
  have hul : (us.toArray.size : Int) = (placedN nd R).length := by rw [List.size_toArray, hui.length]
  have hwl : (ws.toArray.size : Int) = (things nd).length := by rw [List.size_toArray, hwi.length]
  refine wpAny_Compare1 (nmL lc.loc (by rfl) (wpAny_Compare1 (wpAny_Call_NameR (nmB lc.gl boot_len (PyProof.Rows.callWith_builtin1 (Calls.spliced_cons (nmC lc.c3 (by rfl) (Calls.spliced_nil ?_))))))))
  refine Calls.call_len_list hup.isList (by omega) ?_
  refine wpAny_Call_NameR (nmB lc.gl boot_len (PyProof.Rows.callWith_builtin1 (Calls.spliced_cons (nmL lc.loc (by rfl) (Calls.spliced_nil ?_)))))
  refine Calls.call_len_list hwp.isList (by omega) (eq_int (eq_bool ?_))
  rw [hul, hwl]
  have e : (decide ((things nd).length = (placedN nd R).length) == (((placedN nd R).length : Int) == ((things nd).length : Int))) = true := by
    by_cases h : (things nd).length = (placedN nd R).length
    · simp [h]
    · have h2 : ¬ ((placedN nd R).length : Int) = ((things nd).length : Int) := by omega
      simp [h, h2]
  rw [e]
  exact hQ _ ⟨_, _, rfl⟩ fun _ _ e => e
end
end Mine

namespace Mine
section
variable {prog : Program} {w : World} {s : Shared} {hb : Heap} {L fa : Nat} {cd : Value} {lsA : Addr} {vs : List Value} {ns : List Int} {E : Value → Shared → Prop}
set_option maxHeartbeats 1000000 in
theorem law_main (hl : hb.IsList lsA vs.toArray) (hi : IntsAre vs ns) (hlen : ns.length ≤ 63) (lc : LC w hb L [("script", .ref lsA)] none none none s.heap) {Q : Flow → Shared → Prop}
    (hQ : ∀ s' m, Sh s s' → Fr hb L s'.heap m → Q (.ret (.bool true)) s') :
    wpAny (model prog w) (lawA w L fa cd) (execs (bodyAt w.params 59) (lawEnv w L fa cd)) Q E s := by
  refine wpAny_noRaise ?_
  show wpAny _ _ (execs (lawS w 0 :: lawS w 1 :: lawS w 2 :: [lawS w 3, lawS w 4, lawS w 5, lawS w 6, lawS w 7, lawS w 8]) _) _ _ _
  refine wpAny_execs_cons (wpAny_mono (law_0 hl hi hlen lc) (fun f s1 h1 => ?_) fun _ _ e => e)
  obtain ⟨rfl, hsh1, n, tn, hn1, hn6, lc1⟩ := h1
  refine law_12 ⟨hn1, hn6⟩ hl hi hlen lc1 fun D s2 nd hsh2 hD G hnd lc2 nv2 => ?_
  subst hnd
  refine wpAny_execs_cons (law_3 G.len G hD lc2 nv2 fun T s3 hsh3 hT lc3 nv3 tT3 => ?_)
  refine wpAny_execs_cons (law_4 lc3 fun pl due s4 hsh4 hpz hpl hdue hpd kp4 tP4 tD4 lc4 => ?_)
  have hpz : @LE.le Nat _ s3.heap.objs.size pl := hpz
  have hdz : @LE.le Nat _ s3.heap.objs.size due := by omega
  have W0 : WI w hb s3.heap L D T due (.ref lsA) (some (.int nd.length tn)) nd 0 s4.heap :=
    ⟨kp4.mono fun b m => by
      rcases List.mem_cons.mp m with q | m
      · rw [q]; exact .head _
      · rw [List.mem_singleton.mp m]; exact .tail _ (.head _),
    ⟨pl, [], hpl, by omega, lc4, tP4, tD4, ⟨rfl, fun i a l ha => by simp at ha⟩, fun a m => absurd m List.not_mem_nil⟩, fun i hi => absurd hi (Nat.not_lt_zero _)⟩
  refine wpAny_execs_cons (law_5 G hD hT hdz hdue nv3 tT3 W0 fun R s5 hsh5 W5 hend => ?_)
  obtain ⟨kp5, ⟨pl5, as, hpl5, hpd5, lc5, tP5, tD5, tL5, gt5⟩, ne5⟩ := W5
  have hT3 : @LT.lt Nat _ T s3.heap.objs.size := tT3.lt
  have inT : T ∉ [L, L + 3, due] := fun m => by
    simp only [List.mem_cons, List.not_mem_nil, or_false] at m
    omega
  have nv5 : NV prog w L s5.heap D nd := nv3.kp kp5 (fun b m => by
    rcases List.mem_cons.mp m with q | m
    · exact .inr (by rw [q]; exact Nat.le_add_right _ _)
    rcases List.mem_cons.mp m with q | m
    · exact .inr (by rw [q]; exact Nat.le_refl _)
    · rw [List.mem_singleton.mp m]; exact .inl (get_ge hdz)) hD
  have hR8 : R ≤ 8 := Nat.le_trans (rounds_len ne5) (Nat.le_trans (placed_len R) things_len)
  refine law_67 G hD hR8 lc5 nv5 ne5 hend fun td s6 hsh6 htd te6 => ?_
  refine wpAny_execs_cons (law_8 hT hpl5 hdue htd (tT3.at (kp5.at inT)) tP5 tD5 tL5 (fun a ha => by have := gt5 a ha; show @LT.lt Nat _ L a; omega) te6 fun s7 hsh7 k7 => ?_)
  have lc7 := te6.lc.kept k7
  obtain ⟨m, hns, -⟩ := lc7.loc
  exact hQ s7 m (((((((hsh1.trans hsh2).trans hsh3).trans hsh4).trans hsh5).trans hsh6)).trans hsh7) ⟨hns, lc7.ext, Nat.le_of_eq lc7.sz.symm⟩
end
end Mine

theorem PySem.Challenge.cw_ft0014_01_holds : PySem.Challenge.rw_ft0014_01.Holds := by
  refine Mine.hd ?_
  k_go0
  rename_i h₁ tk₁ F o3 o2 o1 d3 d2 d1 N0 X0
  rename Frag.In _ _ => KX
  rename Top _ _ _ _ _ _ => T
  rename IntsAre _ _ => hI
  rename Heap.IsList _ _ _ => hL
  rename (_ = #[]) => hg
  rename (¬ _ < _) => hc
  have hlen := by
    have q := hc
    rw [Int.not_lt] at q
    exact Int.ofNat_le.mp q
  refine Mine.law_main hL hI hlen ⟨⟨KX, _, _, _, _, topRead_of T⟩, rfl, F.keep, Mine.loc_mem F.ns fun p hp => ?_, ⟨o1, (N0 _ (.tail _ (.tail _ (.head _)))).1, d1⟩, ⟨o2, (N0 _ (.tail _ (.head _))).1, d2⟩, ⟨o3, (N0 _ (.head _)).1, d3⟩⟩ fun s' m hsh F' => ?_
  · rw [List.mem_singleton.mp hp]; rfl
  · obtain ⟨h', tk', rfl⟩ := hsh
    show GoodW _ _ _ _ _ (.ok (.ret (.bool true))) _
    exact goodW_bool F' hg (raisesW_false (by wrow_none_raised)) (by wrow_post)
