import PyProof.Rows.All
import Wide.All
import OpenK.AllK
import Wide.FinOn
import Lean
import PySem.Challenge.RW_pg0101_01
open PySem PySem.W PyProof.Rows
set_option Elab.async false
set_option linter.unusedVariables false
set_option linter.unusedSimpArgs false
namespace Mine
abbrev pw : Program := PySem.Challenge.pw_pg0101_01

/-- the def of a statement -/
def recOf : Stmt → DefRec
  | .FunctionDef name args body _ _ _ scope _ _ pos => ⟨name, args, body, scope, pos⟩
  | st => ⟨Str.ofString "", ⟨[], [], none, [], [], none, []⟩, [st], ⟨.function, [], false, false, []⟩, st.pos⟩
/-- the i-th statement of the text, as a def -/
def fn (i : Nat) : DefRec := recOf (pw.main.body.getD i (.Pass default))
def fnIdx : List Nat := [1, 3, 4, 5, 6, 7, 9, 10, 11, 13, 14, 15, 16, 17, 18, 19, 20]

/-- everything of g stands in h -/
abbrev Le (g h : Heap) : Prop := ∀ b o, g.get? b = some o → h.get? b = some o
theorem Le.refl (h : Heap) : Le h h := fun _ _ e => e
theorem Le.trans {a b c : Heap} (x : Le a b) (y : Le b c) : Le a c := fun _ _ e => y _ _ (x _ _ e)
theorem Le.push (h : Heap) (o : Obj) : Le h (h.push o) := fun _ _ e => Heap.get?_push_of_some _ e

def biNames : List Str := ["max", "min", "len", "reversed", "range", "isinstance", "tuple", "zip", "sum", "divmod", "int", "sorted"]

structure Base (mg mb : Str → Option Value) (fa : Nat → Addr) (g : Heap) : Prop where
  gns : g.Ns mainGlobals mg
  bns : g.Ns builtinsNs mb
  lim : g.NoLimit
  fn : ∀ i ∈ fnIdx, mg (fn i).name = some (.ref (fa i)) ∧ ∃ o pm code doc, g.get? (fa i) = some o ∧
    o.data = .func (Calls.docDef (fn i).name (fn i).params (fn i).body (fn i).scope pm code doc) ∧ g.CodeRec code (fn i).name
  bi : ∀ x ∈ biNames, mg x = none ∧ mb x = bootBuiltins x
  bok : NoneBooked g
theorem Base.up {mg mb : Str → Option Value} {fa : Nat → Addr} {g h : Heap} (B : Base mg mb fa g) (k : Le g h) : Base mg mb fa h where
  gns := B.gns.keeps k
  bns := B.bns.keeps k
  lim := B.lim.keeps k
  fn := fun i hi => ⟨(B.fn i hi).1, by
    obtain ⟨o, pm, code, doc, h1, h2, h3⟩ := (B.fn i hi).2
    exact ⟨o, pm, code, doc, k _ _ h1, h2, h3.keeps k⟩⟩
  bi := B.bi
  bok := let ⟨mc, a, b⟩ := B.bok; ⟨mc, a.keeps k, b⟩

/-- what is known of a frame's names -/
def Loc (h : Heap) (L : Addr) (ls : List (Str × Value)) : Prop := ∃ m, h.Ns L m ∧ ∀ x v, ls.lookup x = some v → m x = some v
def Has (ls : List (Str × Value)) : List (Str × Value) → Prop
  | [] => True
  | p :: r => ls.lookup p.1 = some p.2 ∧ Has ls r
theorem Has.look {ls : List (Str × Value)} : ∀ {l : List (Str × Value)}, Has ls l → ∀ {x : Str} {v : Value}, l.lookup x = some v → ls.lookup x = some v
  | [], _, _, _, e => by cases e
  | p :: r, ⟨h1, h2⟩, x, v, e => by
    rw [List.lookup_cons] at e
    cases q : x == p.1 with
    | true =>
      rw [q] at e
      cases e
      rw [eq_of_beq q]; exact h1
    | false => rw [q] at e; exact h2.look e
theorem Loc.keeps {h h' : Heap} {L : Addr} {ls : List (Str × Value)} (x : Loc h L ls) (k : Le h h') : Loc h' L ls := let ⟨m, h1, h2⟩ := x; ⟨m, h1.keeps k, h2⟩
theorem Loc.same {h h' : Heap} {L d : Addr} {ls : List (Str × Value)} (x : Loc h L ls) (ne : d ≠ L) (hs : Heap.SameBut d h h') : Loc h' L ls := by
  obtain ⟨m, ⟨o, es, ep, ho, r⟩, h2⟩ := x
  exact ⟨m, ⟨o, es, ep, (hs.2 L (Ne.symm ne)).trans ho, r⟩, h2⟩
theorem Loc.less {h : Heap} {L : Addr} {ls l : List (Str × Value)} (x : Loc h L ls) (k : Has ls l) : Loc h L l := let ⟨m, h1, h2⟩ := x; ⟨m, h1, fun _ _ e => h2 _ _ (k.look e)⟩
theorem Loc.lt {h : Heap} {L : Addr} {ls : List (Str × Value)} (x : Loc h L ls) : L < h.objs.size := by
  obtain ⟨m, ⟨o, es, ep, ho, _⟩, _⟩ := x
  exact Heap.lt_size ho

/-- a frame at L: g is known and stays; P is known of the objects at D -/
structure St (g : Heap) (L : Addr) (D : List Addr) (P : Heap → Prop) (h : Heap) (ls : List (Str × Value)) : Prop where
  loc : Loc h L ls
  keep : Le g h
  offL : g.get? L = none
  offD : ∀ d ∈ D, g.get? d = none ∧ d ≠ L
  dep : ∀ h h', P h → (∀ d ∈ D, ∀ o, h.get? d = some o → h'.get? d = some o) → P h'
  here : P h

theorem Le.of_same {a : Addr} {g h h' : Heap} (k : Le g h) (off : g.get? a = none) (hs : Heap.SameBut a h h') : Le g h' := fun b o e =>
  (hs.2 b (fun q => by subst q; rw [off] at e; cases e)).trans (k b o e)

section
variable {g h h' : Heap} {L : Addr} {D : List Addr} {P P' : Heap → Prop} {ls l : List (Str × Value)}
theorem St.less (S : St g L D P h ls) (k : Has ls l) : St g L D P h l := { S with loc := S.loc.less k }
theorem St.store {x : Str} {v : Value} {m : Str → Option Value} (S : St g L D P h ls) (_ : h.Ns L m) (hm : ∀ x v, ls.lookup x = some v → m x = some v) (hn : h'.Ns L (fun y => if y = x then some v else m y)) (hs : Heap.SameBut L h h') : St g L D P h' ((x, v) :: ls) where
  loc := ⟨_, hn, fun y u e => by
    rw [List.lookup_cons] at e
    cases q : y == x with
    | true => rw [q] at e; cases e; show (if y = x then _ else _) = _; rw [if_pos (eq_of_beq q)]
    | false => rw [q] at e; show (if y = x then _ else _) = _; rw [if_neg (ne_of_beq_false q)]; exact hm _ _ e⟩
  keep := S.keep.of_same S.offL hs
  offL := S.offL
  offD := S.offD
  dep := S.dep
  here := S.dep _ _ S.here fun d hd _ e => (hs.2 d (S.offD d hd).2).trans e
theorem St.grow (S : St g L D P h ls) (k : Le h h') : St g L D P h' ls where
  loc := S.loc.keeps k
  keep := S.keep.trans k
  offL := S.offL
  offD := S.offD
  dep := S.dep
  here := S.dep _ _ S.here fun _ _ _ e => k _ _ e
theorem St.push (S : St g L D P h ls) (o : Obj) : St g L D P (h.push o) ls := S.grow (Le.push h o)
theorem St.same {d : Addr} (S : St g L D P h ls) (hd : d ∈ D) (hs : Heap.SameBut d h h') (hp : P' h') (dep' : ∀ h h', P' h → (∀ d ∈ D, ∀ o, h.get? d = some o → h'.get? d = some o) → P' h') : St g L D P' h' ls where
  loc := S.loc.same (S.offD d hd).2 hs
  keep := S.keep.of_same (S.offD d hd).1 hs
  offL := S.offL
  offD := S.offD
  dep := dep'
  here := hp
/-- behind a call that may have written the objects at D -/
theorem St.next (S : St g L D P h ls) (hb : ∀ b o, b ∉ D → h.get? b = some o → h'.get? b = some o) (hp : P' h') (dep' : ∀ h h', P' h → (∀ d ∈ D, ∀ o, h.get? d = some o → h'.get? d = some o) → P' h') : St g L D P' h' ls where
  loc := by
    obtain ⟨m, ⟨o, es, ep, ho, r⟩, h2⟩ := S.loc
    exact ⟨m, ⟨o, es, ep, hb L o (fun q => (S.offD L q).2 rfl) ho, r⟩, h2⟩
  keep := fun b o e => hb b o (fun q => by rw [(S.offD b q).1] at e; cases e) (S.keep b o e)
  offL := S.offL
  offD := S.offD
  dep := dep'
  here := hp
/-- all that is known of h becomes known for good, but for the frame and D -/
theorem St.rebase (S : St g L D P h ls) : ∃ g', Le g g' ∧ (∀ b o, b ≠ L → b ∉ D → h.get? b = some o → g'.get? b = some o) ∧ St g' L D P h ls := by
  refine ⟨hideAll h (L :: D), ?_, ?_, ?_⟩
  · intro b o e
    refine hideAll_get _ (S.keep b o e) fun q => ?_
    rcases List.mem_cons.mp q with q | q
    · subst q; rw [S.offL] at e; cases e
    · rw [(S.offD b q).1] at e; cases e
  · intro b o h1 h2 e
    exact hideAll_get _ e fun q => (List.mem_cons.mp q).elim h1 h2
  · exact { loc := S.loc, keep := fun b o e => of_hideAll _ e, offL := hideAll_none _ (.head _), offD := fun d hd => ⟨hideAll_none _ (.tail _ hd), (S.offD d hd).2⟩, dep := S.dep, here := S.here }
theorem St.lt (S : St g L D P h ls) : L < h.objs.size := S.loc.lt
end

section
variable {M : Model} {A : Around} {E : Value → Shared → Prop} {env : Env} {g : Heap} {D : List Addr} {P : Heap → Prop} {ls : List (Str × Value)} {Q : Value → Shared → Prop} {h : Heap} {gn : Array GenState} {dr : Drawn} {tk : Nat} {os : OsState}
theorem r_ld {L : Addr} {x : Str} {pos : Pos} {v : Value} (S : St g L D P h ls) (hv : ls.lookup x = some v) (q : Q v ⟨h, gn, dr, tk, os⟩) (hL : env.locals = L := by rfl)
    (hk : env.scope.kind = .function := by kernel_rfl) (hl : env.kindOf x = some .local := by kernel_rfl) (hd : (x == ("__debug__" : Str)) = false := by kernel_rfl) :
    wpAny M A (eval (.Name x pos) env) Q E ⟨h, gn, dr, tk, os⟩ := by
  obtain ⟨m, h1, h2⟩ := S.loc
  exact wpAny_Name (wpAny_loadName_local hk hl (hL ▸ h1) (h2 _ _ hv) q) hd
theorem r_st {L : Addr} {x : Str} {v : Value} {Q : Unit → Shared → Prop} (S : St g L D P h ls)
    (q : ∀ h' tk', St g L D P h' ((x, v) :: ls) → Heap.SameBut L h h' → Q () ⟨h', gn, dr, tk', os⟩) (hL : env.locals = L := by rfl)
    (hk : env.scope.kind = .function := by kernel_rfl) (hl : env.kindOf x = some .local := by kernel_rfl) :
    wpAny M A (storeName env x v) Q E ⟨h, gn, dr, tk, os⟩ := by
  subst hL
  obtain ⟨m, h1, h2⟩ := S.loc
  exact wpAny_storeName_local hl h1 (fun h' hn hs => q h' _ (S.store h1 h2 hn hs) hs) (by rw [hk]; rfl)
theorem r_stT {L : Addr} {x : Str} {v : Value} {Q : Unit → Shared → Prop} (S : St g L D P h ls)
    (q : ∀ h', St g L D P h' ((x, v) :: ls) → Heap.SameBut L h h' → Q () ⟨h', gn, dr, tk + 1, os⟩) (hL : env.locals = L := by rfl)
    (hk : env.scope.kind = .function := by kernel_rfl) (hl : env.kindOf x = some .local := by kernel_rfl) :
    wpAny M A (storeName env x v) Q E ⟨h, gn, dr, tk, os⟩ := by
  subst hL
  obtain ⟨m, h1, h2⟩ := S.loc
  exact wpAny_storeName_local hl h1 (fun h' hn hs => q h' (S.store h1 h2 hn hs) hs) (by rw [hk]; rfl)
theorem r_fn {mg mb : Str → Option Value} {fa : Nat → Addr} {h₀ : Heap} {x : Str} {pos : Pos} (i : Nat) (B : Base mg mb fa h₀) (k : Le h₀ h) (q : Q (.ref (fa i)) ⟨h, gn, dr, tk, os⟩) (hi : i ∈ fnIdx := by decide) (hx : x = (fn i).name := by kernel_rfl)
    (hg : env.globals = mainGlobals := by rfl) (hk : env.scope.kind = .function := by kernel_rfl) (hl : env.kindOf x = some .globalImplicit := by kernel_rfl) (hd : (x == ("__debug__" : Str)) = false := by kernel_rfl) :
    wpAny M A (eval (.Name x pos) env) Q E ⟨h, gn, dr, tk, os⟩ :=
  Calls.Name_function_global hk hl (Calls.loadGlobal_global (hg ▸ B.gns.keeps k) (hx ▸ (B.fn i hi).1) q) hd
theorem r_bi {mg mb : Str → Option Value} {fa : Nat → Addr} {h₀ : Heap} {x : Str} {pos : Pos} {v : Value} (B : Base mg mb fa h₀) (k : Le h₀ h) (hv : bootBuiltins x = some v) (q : Q v ⟨h, gn, dr, tk, os⟩) (hi : x ∈ biNames := by decide)
    (hg : env.globals = mainGlobals := by rfl) (hb : env.builtins = builtinsNs := by rfl) (hk : env.scope.kind = .function := by kernel_rfl) (hl : env.kindOf x = some .globalImplicit := by kernel_rfl) (hd : (x == ("__debug__" : Str)) = false := by kernel_rfl) :
    wpAny M A (eval (.Name x pos) env) Q E ⟨h, gn, dr, tk, os⟩ :=
  Calls.Name_function_global hk hl (Calls.loadGlobal_builtin (hg ▸ B.gns.keeps k) (B.bi x hi).1 (hb ▸ B.bns.keeps k) ((B.bi x hi).2.trans hv) q) hd
theorem r_int {i : Int} {kd : Nat} {pos : Pos} (q : ∀ t tk', Q (.int i t) ⟨h, gn, dr, tk', os⟩) : wpAny M A (eval (.Constant (.int i) kd pos) env) Q E ⟨h, gn, dr, tk, os⟩ := wpAny_Constant_int (q _ _)
end
section
variable {prog : Program} {w : World} {A : Around} {E : Value → Shared → Prop} {Q : Value → Shared → Prop} {h : Heap} {gn : Array GenState} {dr : Drawn} {tk : Nat} {os : OsState} {a b : Int} {t u : Tok}
theorem r_add (q : ∀ t tk', Q (.int (a + b) t) ⟨h, gn, dr, tk', os⟩) : wpAny (model prog w) A (binaryOp .Add (.int a t) (.int b u)) Q E ⟨h, gn, dr, tk, os⟩ := add_int (q _ _)
theorem r_sub (q : ∀ t tk', Q (.int (a - b) t) ⟨h, gn, dr, tk', os⟩) : wpAny (model prog w) A (binaryOp .Sub (.int a t) (.int b u)) Q E ⟨h, gn, dr, tk, os⟩ := sub_int (q _ _)
theorem r_mod (hb : b ≠ 0) (q : ∀ t tk', Q (.int (a.fmod b) t) ⟨h, gn, dr, tk', os⟩) : wpAny (model prog w) A (binaryOp .Mod (.int a t) (.int b u)) Q E ⟨h, gn, dr, tk, os⟩ := mod_int hb (q _ _)
theorem r_div (hb : b ≠ 0) (hs : b.natAbs < 1073741824) (q : ∀ t tk', Q (.int (a.fdiv b) t) ⟨h, gn, dr, tk', os⟩) : wpAny (model prog w) A (binaryOp .FloorDiv (.int a t) (.int b u)) Q E ⟨h, gn, dr, tk, os⟩ := floordiv_int (s := ⟨h, gn, dr, tk, os⟩) hb (q _ _) (.inl (PyProof.noPylong_small hs))
theorem r_shr (hb : 0 ≤ b) (q : ∀ t tk', Q (.int (a.fdiv (2 ^ b.toNat)) t) ⟨h, gn, dr, tk', os⟩) : wpAny (model prog w) A (binaryOp .RShift (.int a t) (.int b u)) Q E ⟨h, gn, dr, tk, os⟩ := rshift_int hb (q _ _)
/-- an item of a list -/
theorem r_item {value slice : PySem.Expr} {l : Addr} {items : Array Value} {k : Int} {u : Tok} {v : Value}
    (hl : h.IsList l items) (h0 : 0 ≤ k) (hhi : k < 2 ^ 63) (hx : items[k.toNat]? = some v) (q : Q v ⟨h, gn, dr, tk, os⟩)
    (hs : subscripted slice false (.ref l) (.int k u) = operate [.ref l, .int k u] (getItem (.ref l) (.int k u)) := by kernel_rfl) :
    wpAny (model prog w) A (subscriptTail value slice (.ref l) (.int k u)) Q E ⟨h, gn, dr, tk, os⟩ :=
  tail_any (s := ⟨h, gn, dr, tk, os⟩) (Heap.IsList.typeIs (s := ⟨h, gn, dr, tk, os⟩) hl) slot_list_getitem.lookup (wpAny_getItem_list (s := ⟨h, gn, dr, tk, os⟩) hl h0 hhi hx q) hs
theorem plain_isList {l : Addr} {items : Array Value} (x : h.PlainList l items) : h.IsList l items := let ⟨n, e⟩ := x; ⟨_, e, rfl, n, rfl⟩
theorem r_setItem {l : Addr} {items : Array Value} {k : Int} {t : Tok} {v : Value} {Q : Unit → Shared → Prop} (hl : h.PlainList l items)
    (h0 : 0 ≤ k) (hfit : k < 2 ^ 63) (hn : k < items.size)
    (hQ : ∀ h', h'.PlainList l (items.setIfInBounds k.toNat v) → Heap.SameBut l h h' → Q () ⟨h', gn, dr, tk, os⟩) :
    wpAny (model prog w) A (setItem (.ref l) (.int k t) v) Q E ⟨h, gn, dr, tk, os⟩ := by
  have hl' := plain_isList hl
  obtain ⟨n, ho⟩ := hl
  have hty := Heap.IsList.typeIs (s := ⟨h, gn, dr, tk, os⟩) hl'
  unfold setItem
  refine wpAny_holding ?_
  refine wpAny_bind (wpAny_sequenceKey hty (by decide) ?_)
  refine wpAny_bind (wpAny_callSpecial?_slot (name := Str.ofString "__setitem__") hty slot_list_setitem (wpAny_call_entry slot_list_setitem hty entry_list_setitem ?_ (args_list_setitem _ _ _)))
  show wpAny _ _ (Builtin.List.listSubscript? (.int k t) >>= _) _ _ _
  refine wpAny_bind (wpAny_listSubscript_int (fitsIndex_of h0 hfit) ?_)
  clear hfit
  obtain ⟨j, rfl⟩ := Int.eq_ofNat_of_zero_le h0
  have hj : j < items.size := by lia
  show wpAny _ _ ((seqItemAt l j >>= fun r => pure (r.map (j, ·))) >>= _) _ _ _
  refine wpAny_bind (wpAny_bind (wpAny_seqItemAt (s := ⟨h, gn, dr, tk, os⟩) ho rfl (wpAny_pure ?_)))
  rw [Array.getElem?_eq_getElem hj]
  show wpAny _ _ (setSeqItemAt l j v >>= _) _ _ _
  refine wpAny_bind (wpAny_setSeqItemAt (s := ⟨h, gn, dr, tk, os⟩) ho rfl ?_)
  have hfin : (h.update l (Obj.mapSeq (·.setIfInBounds j v))).PlainList l (items.setIfInBounds j v) := ⟨_, Heap.get?_update_self _ ho rfl⟩
  exact wpAny_pure ⟨.none, rfl, wpAny_pure (hQ _ hfin (Heap.SameBut.update ..))⟩
end

def ndB : List Str → Bool
  | [] => true
  | x :: r => !(r.contains x) && ndB r
theorem lookup_rev : ∀ {l : List (Str × Value)}, ndB (l.map (·.1)) = true → ∀ x v, l.lookup x = some v → l.reverse.lookup x = some v
  | [], _, _, _, e => by cases e
  | (y, u) :: r, h, x, v, e => by
    simp only [List.map_cons, ndB, Bool.and_eq_true, Bool.not_eq_true'] at h
    rw [List.reverse_cons, List.lookup_append]
    rw [List.lookup_cons] at e
    cases q : x == y with
    | true =>
      rw [q] at e
      cases e
      have hn : r.reverse.lookup x = none := by
        rw [List.lookup_eq_none_iff]
        intro p hp
        have hp' : p ∈ r := List.mem_reverse.mp hp
        cases z : x == p.1 with
        | false => simpa using z
        | true =>
          have : (r.map (·.1)).contains y = true := by
            rw [List.contains_iff_mem, ← eq_of_beq q, eq_of_beq z]
            exact List.mem_map_of_mem hp'
          rw [this] at h; cases h.1
      rw [hn, List.lookup_cons, q]; rfl
    | false =>
      rw [q] at e
      rw [lookup_rev h.2 x v e]; rfl
/-- a call of a def of the text: no cells -/
theorem call_fn {prog : Program} {w : World} {A : Around} {E : Value → Shared → Prop} {h : Heap} {gn : Array GenState} {dr : Drawn} {tk : Nat} {os : OsState} {Q : Value → Shared → Prop} {mg mb : Str → Option Value} {fa : Nat → Addr} {g : Heap} (i : Nat) {args : List Value} {binds : List (Str × Value)} {st : Stmt} {rest : List Stmt}
    (B : Base mg mb fa g) (k : Le g h) (hroom : A.depth < recursionLimit) (hbody : (fn i).body = st :: rest)
    (q : ∀ h₁ cd tk₁, Loc h₁ h.objs.size binds → Le h h₁ →
      wpAny (model prog w) (A.deeper (envOf (fn i).name (fn i).scope h.objs.size (fa i) cd)) (execs (st :: rest) (envOf (fn i).name (fn i).scope h.objs.size (fa i) cd))
        (fun f s' => Q (match f with | .ret v => v | _ => .none) s') (fun _ _ => False) ⟨h₁, gn, dr, tk₁, os⟩)
    (hbind : ∀ pm cd doc, bindArgs (Calls.docDef (fn i).name (fn i).params (fn i).body (fn i).scope pm cd doc) ⟨args, []⟩ = pure binds := by intro _ _ _; kernel_rfl)
    (hnd : ndB (binds.map (·.1)) = true := by kernel_rfl)
    (hloc : (binds.all fun x => decide ((fn i).scope.names.lookup x.1 = some .local)) = true := by kernel_rfl)
    (hi : i ∈ fnIdx := by decide)
    (hco : (fn i).scope.isCoroutine = false := by kernel_rfl) (hgen : (fn i).scope.isGenerator = false := by kernel_rfl) (hk : (fn i).scope.kind = .function := by kernel_rfl)
    (hcell : ((fn i).scope.names.all fun x => x.2 != .cell) = true := by kernel_rfl) :
    wpAny (model prog w) A (call (.ref (fa i)) args) Q E ⟨h, gn, dr, tk, os⟩ := by
  obtain ⟨o, pm, cd, doc, ho, hd, hcd⟩ := (B.fn i hi).2
  refine wpAny_call (call_plain_ret (s := ⟨h, gn, dr, tk, os⟩) (R := fun r s' => match r with | .ok (.ret v) => Q v s' | .ok _ => False | .error e => E e s') hroom (k _ _ ho) hd (B.lim.keeps k) (hcd.keeps k) (hbind pm cd doc) (locs hloc) (fun h₁ F => hbody ▸ q h₁ cd _ ⟨_, F.ns, lookup_rev hnd⟩ F.keep) hco hgen hk ?_)
  intro x hx
  simpa using List.all_eq_true.mp hcell x hx

/-- the frame's state at the start of a call: D may be written -/
theorem St.enter {h h₁ : Heap} {D : List Addr} {P : Heap → Prop} {binds : List (Str × Value)} (loc : Loc h₁ h.objs.size binds) (k : Le h h₁) (hD : ∀ d ∈ D, d < h.objs.size) (dep : ∀ h h', P h → (∀ d ∈ D, ∀ o, h.get? d = some o → h'.get? d = some o) → P h') (here : P h) :
    St (hideAll h D) h.objs.size D P h₁ binds where
  loc := loc
  keep := fun b o e => k b o (of_hideAll _ e)
  offL := by
    cases q : (hideAll h D).get? h.objs.size with
    | none => rfl
    | some o => exact absurd (Heap.lt_size (of_hideAll _ q)) (Nat.lt_irrefl _)
  offD := fun d hd => ⟨hideAll_none _ hd, Nat.ne_of_lt (hD d hd)⟩
  dep := dep
  here := dep _ _ here fun d _ o e => k _ _ e
theorem hide_le {g h : Heap} {D : List Addr} (k : Le g h) (off : ∀ d ∈ D, g.get? d = none) : Le g (hideAll h D) := fun b o e =>
  hideAll_get _ (k b o e) fun q => by rw [off b q] at e; cases e
theorem hide_back {h h' : Heap} {D : List Addr} (k : Le (hideAll h D) h') : ∀ b o, b ∉ D → h.get? b = some o → h'.get? b = some o := fun b o hb e => k b o (hideAll_get _ e hb)
/-- the same with what follows hidden -/
theorem abs_post {α : Type} {M : Model} {A : Around} {t : Sem α} {Q : α → Shared → Prop} {E : Value → Shared → Prop} {s : Shared} (h : ∀ (T : α → Shared → Prop) (E' : Value → Shared → Prop), (∀ a s', Q a s' → T a s') → wpAny M A t T E' s) : wpAny M A t Q E s :=
  h Q E fun _ _ x => x
theorem i_tt {X Y : Prop} (h : X) : if true = true then X else Y := by rw [if_pos rfl]; exact h
theorem i_ff {X Y : Prop} (h : Y) : if false = true then X else Y := by rw [if_neg Bool.false_ne_true]; exact h
theorem i_by {X Y : Prop} {p : Prop} [Decidable p] (h : p → X) (h' : ¬ p → Y) : if decide p = true then X else Y := by
  by_cases q : p
  · rw [if_pos (decide_eq_true q)]; exact h q
  · rw [if_neg (by rw [decide_eq_false q]; exact Bool.false_ne_true)]; exact h' q
theorem i_not {X Y : Prop} {p : Prop} [Decidable p] (h : p → Y) (h' : ¬ p → X) : if (!decide p) = true then X else Y := by
  by_cases q : p
  · rw [decide_eq_true q, if_neg (by simp)]; exact h q
  · rw [decide_eq_false q, if_pos (by simp)]; exact h' q
open SeqAt MeetsSeq MeetsSeq2 MeetsSeq3 SeqRoads2
open AutoSeq1 (wpAny_loadPart')

/-- a row of the heap: price, tint, lamp, ways -/
structure R4 where
  p : Int
  t : Int
  l : Int
  w : Int
  deriving DecidableEq, Repr, Inhabited
abbrev R4.lt (x y : R4) : Prop := x.p < y.p ∨ (x.p = y.p ∧ (x.t < y.t ∨ (x.t = y.t ∧ (x.l < y.l ∨ (x.l = y.l ∧ x.w < y.w)))))
/-- v is a tuple of these four ints -/
def T4 (g : Heap) (v : Value) (r : R4) : Prop := ∃ a t1 t2 t3 t4, v = .ref a ∧ g.IsTuple a #[.int r.p t1, .int r.t t2, .int r.l t3, .int r.w t4]
theorem Le.tuple {g h : Heap} (k : Le g h) {a : Addr} {its : Array Value} (x : g.IsTuple a its) : h.IsTuple a its := let ⟨o, ho, r⟩ := x; ⟨o, k _ _ ho, r⟩
theorem Le.list {g h : Heap} (k : Le g h) {a : Addr} {its : Array Value} (x : g.IsList a its) : h.IsList a its := let ⟨o, ho, r⟩ := x; ⟨o, k _ _ ho, r⟩
theorem T4.up {g h : Heap} {v : Value} {r : R4} (x : T4 g v r) (k : Le g h) : T4 h v r :=
  let ⟨a, t1, t2, t3, t4, e, q⟩ := x; ⟨a, t1, t2, t3, t4, e, k.tuple q⟩

theorem richLt_int {prog : Program} {w : World} {A : Around} {E : Value → Shared → Prop} {s : Shared} {a b : Int} {t u : Tok} {Q : Value → Shared → Prop} (h : Q (.bool (decide (a < b))) s) :
    wpAny (model prog w) A (richCompare .Lt (.int a t) (.int b u)) Q E s := lt_int h

/-- the first pair that differs -/
def lexP : List (Value × Value) → Bool
  | (.int x _, .int y _) :: r => if x = y then lexP r else decide (x < y)
  | _ => false
theorem tuple_lt4 (l b : Addr) (x1 x2 x3 x4 y1 y2 y3 y4 : Int) (t1 t2 t3 t4 u1 u2 u3 u4 : Tok) (n n2 : Nat) (dd dd2 : Option Addr) (sl sl2 : Array (Option Value)) :
    Meets (Builtin.«tuple.__lt__» ⟨[.ref l, .ref b], []⟩)
      (fun _ R s => s.heap.get? l = some { cls := .type "tuple", dict := dd, data := .seq #[.int x1 t1, .int x2 t2, .int x3 t3, .int x4 t4] n, slots := sl } ∧ s.heap.get? b = some { cls := .type "tuple", dict := dd2, data := .seq #[.int y1 u1, .int y2 u2, .int y3 u3, .int y4 u4] n2, slots := sl2 } ∧
        R (.ok (.ret (.bool (decide (R4.lt ⟨x1, x2, x3, x4⟩ ⟨y1, y2, y3, y4⟩))))) s) :=
  .of_wp fun prog w A R s h => by
    obtain ⟨hp, g, d, tk, os⟩ := s; obtain ⟨hl, hb, h⟩ := h
    have f2 := AutoSeq1.sub_tuple_tuple
    wp_walk using wpAny_loadPart' hl, wpAny_loadPart' hb, wpAny_forIn_list _ (fun rest b s' => b.1 = none ∧ s' = ⟨hp, g, d, tk, os⟩ ∧ (∀ p ∈ rest, ∃ x t y u, p = (Value.int x t, Value.int y u)) ∧
      R (.ok (.ret (.bool (lexP rest)))) ⟨hp, g, d, tk, os⟩) _
    case turn =>
      rintro ⟨y, x⟩ rest b s' ⟨hb', rfl, hi, hR⟩
      obtain ⟨x, t, y, u, e⟩ := hi _ (.head _)
      cases e
      refine wpAny_bind (EqAt.int_int x t y u prog w _ _ ?_)
      by_cases hxy : x = y
      · subst hxy
        rw [beq_self_eq_true]
        wp_walk
        exact ⟨rfl, rfl, fun p hp => hi p (.tail _ hp), by simpa [lexP] using hR⟩
      · rw [beq_false_of_ne hxy]
        simp only [Bool.not_false, if_true]
        refine wpAny_bind (wpAny_rule (wpAny_bind (richLt_int ?_)))
        wp_walk
        exact ⟨_, rfl, by simpa [lexP, hxy] using hR⟩
    case fin =>
      rintro ⟨b1, b2⟩ s' ⟨hb', rfl, hi, hR⟩
      simp only at hb'
      subst hb'
      wp_walk
      exact ⟨_, rfl, by simpa [Builtin.Tuple.tupleCompareSizes, lexP] using hR⟩
    case h =>
      refine ⟨rfl, rfl, ?_, ?_⟩
      · intro p hp
        simp at hp
        rcases hp with rfl | rfl | rfl | rfl <;> exact ⟨_, _, _, _, rfl⟩
      · have e : decide (R4.lt ⟨x1, x2, x3, x4⟩ ⟨y1, y2, y3, y4⟩) = lexP (#[Value.int x1 t1, .int x2 t2, .int x3 t3, .int x4 t4].toList.zip #[Value.int y1 u1, .int y2 u2, .int y3 u3, .int y4 u4].toList) := by
          simp only [lexP, List.zip_cons_cons]
          rw [Bool.eq_iff_iff]
          simp only [R4.lt, decide_eq_true_eq]
          (repeat' split) <;> simp [lexP, *] <;> lia
        rw [← e]; exact h

theorem lt_T4 {prog : Program} {w : World} {A : Around} {E : Value → Shared → Prop} {h : Heap} {gn : Array GenState} {dr : Drawn} {tk : Nat} {os : OsState} {g : Heap} {v v' : Value} {r r' : R4} {Q : Value → Shared → Prop} (k : Le g h) (x : T4 g v r) (y : T4 g v' r') (hu : A.units < cLine)
    (q : Q (.bool (decide (R4.lt r r'))) ⟨h, gn, dr, tk, os⟩) : wpAny (model prog w) A (compareOp .Lt v v') Q E ⟨h, gn, dr, tk, os⟩ := by
  obtain ⟨a, t1, t2, t3, t4, rfl, hx⟩ := x
  obtain ⟨b, u1, u2, u3, u4, rfl, hy⟩ := y
  obtain ⟨⟨cls, dd, data, sl⟩, ho, hc, n, hd⟩ := id (k.tuple hx)
  obtain ⟨⟨cls2, dd2, data2, sl2⟩, ho2, hc2, n2, hd2⟩ := id (k.tuple hy)
  simp only at hc hd hc2 hd2
  subst hc hd hc2 hd2
  exact richCompare_meets_room (s := ⟨h, gn, dr, tk, os⟩) (op := .Lt) ⟨_, ho, rfl⟩ ⟨_, ho2, rfl⟩ F.slot_tuple_lt F.entry_tuple_lt (F.args_tuple_lt_2 _ _) (tuple_lt4 a b _ _ _ _ _ _ _ _ _ _ _ _ _ _ _ _ n n2 dd dd2 sl sl2)
    ⟨ho, ho2, show Value.bool _ ≠ Value.notImplemented ∧ Q (.bool _) ⟨h, gn, dr, tk, os⟩ from ⟨(fun x => nomatch x), q⟩⟩ hu
local macro_rules | `(tactic| walk_at "m1") => `(tactic| first
  | with_reducible refine wpAny_execs_cons ?_
  | with_reducible refine wpAny_execs_nil ?_
  | with_reducible refine wpAny_Assign_Name ?_ (by kernel_rfl)
  | with_reducible refine wpAny_Assign_Subscript ?_ (by kernel_rfl)
  | with_reducible refine i_tt ?_
  | with_reducible refine i_ff ?_
  | with_reducible refine wpAny_If ?_
  | with_reducible refine wpAny_isTrue_Compare1 ?_ (by kernel_rfl)
  | with_reducible refine wpAny_truthy_bool ?_
  | with_reducible refine wpAny_BinOp ?_
  | with_reducible refine r_int fun _ _ => ?_
  | with_reducible refine Subscript_ ?_
  | with_reducible refine r_add fun _ _ => ?_
  | with_reducible refine r_sub fun _ _ => ?_
  | with_reducible refine gt_int ?_
  | with_reducible refine lt_int ?_
  | with_reducible refine eq_int ?_
  | with_reducible refine args_cons ?_ (by kernel_rfl)
  | with_reducible refine args_nil ?_
  | with_reducible refine wpAny_isTrue_BoolOp ?_
  | with_reducible refine wpAny_isTrue_Not ?_
  | with_reducible refine wpAny_allTrue_And_cons ?_
  | with_reducible refine wpAny_allTrue_And_nil ?_
  | with_reducible refine wpAny_Return_some ?_
  | with_reducible refine Tuple_ ?_
  | with_reducible refine wpAny_Continue ?_
  | with_reducible refine wpAny_Break ?_
  | ((with_reducible show wpAny _ _ (eval (Expr.Name _ _) _) _ _ _); refine r_ld (by assumption) (by rfl) ?_))
local macro_rules | `(tactic| walk_at "mw") => `(tactic| repeat walk_at "m1")

local macro_rules | `(tactic| walk_at "m2") => `(tactic| first
  | walk_at "m1"
  | with_reducible refine wpAny_assign_Name ?_
  | ((with_reducible show wpAny _ _ (storeName _ _ _) _ _ _); refine r_st (by assumption) fun _ _ _ _ => ?_)
  | ((with_reducible show wpAny _ _ (assignInOrder _ _) _ _ _); first | refine wpAny_assignInOrder_more ?_ | refine wpAny_assignInOrder_none ?_))
local macro_rules | `(tactic| walk_at "mm") => `(tactic| repeat walk_at "m2")
abbrev Row := Value × R4
def vals (xs : List Row) : Array Value := (xs.map (·.1)).toArray
theorem vals_get {xs : List Row} {i : Nat} {p : Row} (h : xs[i]? = some p) : (vals xs)[i]? = some p.1 := by simp [vals, h]
theorem vals_size (xs : List Row) : (vals xs).size = xs.length := by simp [vals]
theorem vals_set (xs : List Row) (i : Nat) (p : Row) : (vals xs).setIfInBounds i p.1 = vals (xs.set i p) := by
  simp [vals]
theorem isList_lt {h : Heap} {l : Addr} {its : Array Value} (x : h.IsList l its) : l < h.objs.size := let ⟨_, ho, _⟩ := x; Heap.lt_size ho
theorem list_dep {hp : Addr} {its : Array Value} (h h' : Heap) (x : h.PlainList hp its) (k : ∀ d ∈ [hp], ∀ o, h.get? d = some o → h'.get? d = some o) : h'.PlainList hp its :=
  let ⟨n, e⟩ := x; ⟨n, k hp (.head _) _ e⟩

abbrev rlt (a b : Row) : Bool := decide (R4.lt a.2 b.2)
/-- what _siftdown makes of the list -/
def sdown (start : Nat) (x : Row) (pos : Nat) (xs : List Row) : List Row :=
  if h : pos > start then
    match xs[(pos - 1) / 2]? with
    | some p => if rlt x p then sdown start x ((pos - 1) / 2) (xs.set pos p) else xs.set pos x
    | none => xs.set pos x
  else xs.set pos x
termination_by pos
decreasing_by lia

section
variable {prog : Program} {w : World} {A : Around} {E : Value → Shared → Prop} {mg mb : Str → Option Value} {fa : Nat → Addr} {g : Heap} {Q : Value → Shared → Prop} {h₀ : Heap} {gn : Array GenState} {dr : Drawn} {tk₀ : Nat} {os : OsState}

theorem siftdown_spec {hp : Addr} {xs : List Row} {x : Row} {start pos : Nat} {t1 t2 : Tok}
    (B : Base mg mb fa g) (k : Le g h₀) (hoff : g.get? hp = none) (hl : h₀.PlainList hp (vals xs)) (hT : ∀ p ∈ xs, T4 g p.1 p.2) (hlen : xs.length < 2 ^ 24)
    (hd : A.depth < recursionLimit) (hu : A.units + 8 < cLine) (hx : xs[pos]? = some x)
    (q : ∀ h' tk, h'.PlainList hp (vals (sdown start x pos xs)) → (∀ b o, b ∉ [hp] → h₀.get? b = some o → h'.get? b = some o) → Q .none ⟨h', gn, dr, tk, os⟩) :
    wpAny (model prog w) A (call (.ref (fa 6)) [.ref hp, .int start t1, .int pos t2]) Q E ⟨h₀, gn, dr, tk₀, os⟩ := by
  refine call_fn 6 (binds := [("heap", .ref hp), ("startpos", .int start t1), ("pos", .int pos t2)]) B k hd rfl (fun h₁ cd tk₁ hns hk₁ => ?_)
  have S := St.enter (D := [hp]) (P := fun h => h.PlainList hp (vals xs)) hns hk₁ (by simpa using isList_lt (plain_isList hl)) list_dep hl
  have hgG := hide_le (D := [hp]) k (by simpa using hoff)
  have hback := fun h' => @hide_back h₀ h' [hp]
  generalize hideAll h₀ [hp] = G at S hgG hback
  generalize h₀.objs.size = L at S ⊢
  have hT' : ∀ p ∈ xs, T4 G p.1 p.2 := fun p hp => (hT p hp).up hgG
  have hxT : T4 G x.1 x.2 := hT' _ (List.mem_of_getElem? hx)
  have hpos : pos < xs.length := (List.getElem?_eq_some_iff.mp hx).1
  walk_at "mw"
  refine r_item (plain_isList S.here) (by lia) (by lia) (vals_get (by simpa using hx)) ?_
  refine r_st S fun h₂ tk₂ S₂ _ => ?_
  walk_at "m1"
  refine wpAny_While ?_
  let I : Nat → Shared → Prop := fun n s' => ∃ cur h' tk t', s' = ⟨h', gn, dr, tk, os⟩ ∧ St G L [hp] (fun h => h.PlainList hp (vals cur)) h' [("heap", .ref hp), ("startpos", .int start t1), ("pos", .int n t'), ("newitem", x.1)] ∧
    sdown start x n cur = sdown start x pos xs ∧ cur.length = xs.length ∧ n < cur.length ∧ ∀ p ∈ cur, T4 G p.1 p.2
  let J : Result → Shared → Prop := fun r s' => r = .ok .next ∧ ∃ cur h' tk n t', s' = ⟨h', gn, dr, tk, os⟩ ∧ St G L [hp] (fun h => h.PlainList hp (vals cur)) h' [("heap", .ref hp), ("pos", .int ((n : Nat) : Int) t'), ("newitem", x.1)] ∧
    cur.set n x = sdown start x pos xs ∧ cur.length = xs.length ∧ n < cur.length
  refine codeAny_mono (R := J) ?_ ?_
  rotate_left
  · rintro r s' ⟨rfl, cur, h', tk, n, t', rfl, S', hsd, hlc, hn⟩
    dsimp only
    walk_at "mw"
    refine r_setItem S'.here (by lia) (by lia) (by rw [vals_size]; lia) fun h₅ hl₅ hs₅ => ?_
    rw [Int.toNat_natCast, vals_set, hsd] at hl₅
    have S₅ := S'.same (.head _) hs₅ hl₅ list_dep
    walk_at "mw"
    exact q h₅ _ hl₅ (hback _ S₅.keep)
  refine codeAny_whileLoop I (fun n s' hI => ?_) pos ⟨xs, h₂, _, t2, rfl, S₂.less ⟨rfl, rfl, rfl, rfl, trivial⟩, rfl, rfl, hpos, hT'⟩
  obtain ⟨cur, h', tk, t', rfl, S', hsd, hlc, hn, hTc⟩ := hI
  walk_at "mw"
  by_cases hgt : ((start : Nat) : Int) < n
  · rw [if_pos (decide_eq_true hgt)]
    walk_at "mw"
    refine r_shr (by decide) fun t₃ tk₃ => ?_
    refine r_st S' fun h₃ tk₃ S₃ _ => ?_
    have hpp : (((n : Nat) : Int) - 1).fdiv (2 ^ (1 : Int).toNat) = (((n - 1) / 2 : Nat) : Int) := by
      rw [Int.fdiv_eq_ediv_of_nonneg _ (by decide)]; show (((n : Nat) : Int) - 1) / 2 = _; lia
    rw [hpp] at S₃
    have hlt : (n - 1) / 2 < cur.length := by lia
    walk_at "mw"
    refine r_item (plain_isList S₃.here) (by lia) (by lia) (v := (cur[(n - 1) / 2]).1) (vals_get (by rw [Int.toNat_natCast]; exact List.getElem?_eq_getElem hlt)) ?_
    refine r_st S₃ fun h₄ tk₄ S₄ _ => ?_
    walk_at "mw"
    refine lt_T4 (g := G) (r := x.2) (r' := (cur[(n - 1) / 2]).2) S₄.keep hxT (hTc _ (List.getElem_mem hlt)) (by show A.units + 3 < cLine; lia) ?_
    walk_at "mw"
    have heq : sdown start x n cur = if rlt x (cur[(n - 1) / 2]) then sdown start x ((n - 1) / 2) (cur.set n (cur[(n - 1) / 2])) else cur.set n x := by
      rw [sdown, dif_pos (by lia)]; simp [hlt]
    by_cases hxp : R4.lt x.2 (cur[(n - 1) / 2]).2
    · rw [if_pos (decide_eq_true hxp)]
      rw [if_pos (decide_eq_true hxp)] at heq
      walk_at "mw"
      refine r_setItem S₄.here (by lia) (by lia) (by rw [vals_size]; lia) fun h₅ hl₅ hs₅ => ?_
      rw [Int.toNat_natCast, vals_set] at hl₅
      have S₅ := S₄.same (.head _) hs₅ hl₅ list_dep
      walk_at "mw"
      refine r_st S₅ fun h₆ tk₆ S₆ _ => ?_
      walk_at "mw"
      refine ⟨(n - 1) / 2, by lia, _, h₆, _, _, rfl, S₆.less ⟨rfl, rfl, rfl, rfl, trivial⟩, heq ▸ hsd, by simpa using hlc, by simpa using hlt, ?_⟩
      intro p hp
      rcases List.mem_or_eq_of_mem_set hp with hp | rfl
      · exact hTc p hp
      · exact hTc _ (List.getElem_mem hlt)
    · rw [if_neg (by rw [decide_eq_false hxp]; exact Bool.false_ne_true)]
      rw [if_neg (by rw [rlt, decide_eq_false hxp]; exact Bool.false_ne_true)] at heq
      walk_at "mw"
      exact ⟨rfl, cur, h₄, _, n, t', rfl, S₄.less ⟨rfl, rfl, rfl, trivial⟩, by rw [← heq]; exact hsd, hlc, hn⟩
  · rw [if_neg (by rw [decide_eq_false hgt]; exact Bool.false_ne_true)]
    walk_at "mw"
    exact ⟨rfl, cur, h', _, n, t', rfl, S'.less ⟨rfl, rfl, rfl, trivial⟩, by rw [sdown, dif_neg (by lia)] at hsd; exact hsd, hlc, hn⟩
end
section
variable {M : Model} {A : Around} {E : Value → Shared → Prop} {env : Env} {g h : Heap} {gn : Array GenState} {dr : Drawn} {tk : Nat} {os : OsState} {Q : Value → Shared → Prop} {mg mb : Str → Option Value} {fa : Nat → Addr}
/-- a call of a def by its name -/
theorem e_fn {x : Str} {np pos : Pos} {e : PySem.Expr} {rest : List PySem.Expr} (i : Nat) (B : Base mg mb fa g) (k : Le g h)
    (q : wpAny M A (spliced (backTo pos (starEach (e :: rest) env))) (fun vs s₁ => Le g s₁.heap ∧ wpAny M A (call (.ref (fa i)) vs) Q E s₁) E ⟨h, gn, dr, tk, os⟩)
    (he : starEach (e :: rest) env = (false, eval e env) :: starEach rest env := by rfl)
    (hi : i ∈ fnIdx := by decide) (hx : x = (fn i).name := by kernel_rfl)
    (hg : env.globals = mainGlobals := by rfl) (hk : env.scope.kind = .function := by kernel_rfl) (hl : env.kindOf x = some .globalImplicit := by kernel_rfl) (hd : (x == ("__debug__" : Str)) = false := by kernel_rfl) :
    wpAny M A (eval (.Call (.Name x np) (e :: rest) [] pos) env) Q E ⟨h, gn, dr, tk, os⟩ := by
  obtain ⟨o, pm, cd, doc, ho, hdat, _⟩ := (B.fn i hi).2
  exact wpAny_Call_NameR (r_fn i B k (callWith_def hdat (wpAny_mono q (fun vs s₁ x => ⟨x.1 _ _ ho, x.2⟩) fun _ _ x => x) he) hi hx hg hk hl hd)
/-- a call of a built-in function by its name -/
theorem e_bi {x : Str} {np pos : Pos} {id : String} {e : PySem.Expr} {rest : List PySem.Expr} (B : Base mg mb fa g) (k : Le g h) (hv : bootBuiltins x = some (.builtin id))
    (q : wpAny M A (spliced (backTo pos (starEach (e :: rest) env))) (fun vs s₁ => wpAny M A (call (.builtin id) vs) Q E s₁) E ⟨h, gn, dr, tk, os⟩)
    (he : starEach (e :: rest) env = (false, eval e env) :: starEach rest env := by rfl)
    (hplain : (backTo pos (starEach rest env)).any (·.1) = false := by rfl) (hi : x ∈ biNames := by decide)
    (hg : env.globals = mainGlobals := by rfl) (hb : env.builtins = builtinsNs := by rfl) (hk : env.scope.kind = .function := by kernel_rfl) (hl : env.kindOf x = some .globalImplicit := by kernel_rfl) (hd : (x == ("__debug__" : Str)) = false := by kernel_rfl) :
    wpAny M A (eval (.Call (.Name x np) (e :: rest) [] pos) env) Q E ⟨h, gn, dr, tk, os⟩ :=
  wpAny_Call_NameR (r_bi B k hv (callWith_builtin1 q he hplain) hi hg hb hk hl hd)
end
section
variable {prog : Program} {w : World} {A : Around} {E : Value → Shared → Prop} {Q : Value → Shared → Prop} {h : Heap} {gn : Array GenState} {dr : Drawn} {tk : Nat} {os : OsState} {a b : Int} {t u : Tok}
theorem r_len {l : Addr} {items : Array Value} (hl : h.IsList l items) (hfit : items.size < 2 ^ 63) (q : ∀ t tk', Q (.int items.size t) ⟨h, gn, dr, tk', os⟩) :
    wpAny (model prog w) A (call (.builtin "len") [.ref l]) Q E ⟨h, gn, dr, tk, os⟩ := len_list (s := ⟨h, gn, dr, tk, os⟩) hl (by lia) (q _ _)
theorem r_mul (hm : IntMulOk a b) (q : ∀ t tk', Q (.int (a * b) t) ⟨h, gn, dr, tk', os⟩) : wpAny (model prog w) A (binaryOp .Mult (.int a t) (.int b u)) Q E ⟨h, gn, dr, tk, os⟩ := mul_int (s := ⟨h, gn, dr, tk, os⟩) (q _ _) hm
theorem r_mulL (h1 : -(2 ^ 64) < a) (h2 : a < 2 ^ 64) (q : ∀ t tk', Q (.int (a * b) t) ⟨h, gn, dr, tk', os⟩) : wpAny (model prog w) A (binaryOp .Mult (.int a t) (.int b u)) Q E ⟨h, gn, dr, tk, os⟩ := r_mul (.of_left (intBits_le_64 h1 h2)) q
theorem r_mulR (h1 : -(2 ^ 64) < b) (h2 : b < 2 ^ 64) (q : ∀ t tk', Q (.int (a * b) t) ⟨h, gn, dr, tk', os⟩) : wpAny (model prog w) A (binaryOp .Mult (.int a t) (.int b u)) Q E ⟨h, gn, dr, tk, os⟩ := r_mul (.of_right (intBits_le_64 h1 h2)) q
theorem r_truth {l : Addr} {items : Array Value} {Q : Bool → Shared → Prop} (hl : h.IsList l items) (hfit : items.size < 2 ^ 63) (q : ∀ tk', Q (!items.isEmpty) ⟨h, gn, dr, tk', os⟩) :
    wpAny (model prog w) A (truthy (.ref l)) Q E ⟨h, gn, dr, tk, os⟩ := wpAny_truthy_list (s := ⟨h, gn, dr, tk, os⟩) hl (by lia) (q _)
end
/-- the child that _siftup takes -/
def kid (pos : Nat) (xs : List Row) : Nat := match xs[2 * pos + 1]?, xs[2 * pos + 2]? with
  | some a, some b => if rlt a b then 2 * pos + 1 else 2 * pos + 2
  | _, _ => 2 * pos + 1
theorem kid_cases (pos : Nat) (xs : List Row) : kid pos xs = 2 * pos + 1 ∨ kid pos xs = 2 * pos + 2 := by
  unfold kid; split
  · split <;> simp
  · simp
theorem kid_lt {pos : Nat} {xs : List Row} (h : 2 * pos + 1 < xs.length) : kid pos xs < xs.length := by
  unfold kid; split
  · rename_i h2
    have := (List.getElem?_eq_some_iff.mp h2).1
    split <;> lia
  · exact h
/-- the way down in _siftup: where the hole ends, and the list then -/
def sup (pos : Nat) (xs : List Row) : Nat × List Row :=
  if h : 2 * pos + 1 < xs.length then sup (kid pos xs) (xs.set pos (xs[kid pos xs]'(kid_lt h))) else (pos, xs)
termination_by xs.length - pos
decreasing_by
  have := kid_cases pos xs
  simp only [List.length_set]
  lia
/-- what _siftup makes of the list -/
def siftup (pos : Nat) (x : Row) (xs : List Row) : List Row := sdown pos x (sup pos xs).1 ((sup pos xs).2.set (sup pos xs).1 x)
theorem sup_lt (pos : Nat) (xs : List Row) (h : pos < xs.length) : (sup pos xs).1 < (sup pos xs).2.length ∧ (sup pos xs).2.length = xs.length := by
  rw [sup]
  split
  · rename_i hc
    have := sup_lt (kid pos xs) (xs.set pos (xs[kid pos xs]'(kid_lt hc))) (by simpa using kid_lt hc)
    simpa using this
  · exact ⟨h, rfl⟩
termination_by xs.length - pos
decreasing_by
  have := kid_cases pos xs
  simp only [List.length_set]
  lia

section
variable {prog : Program} {w : World} {A : Around} {E : Value → Shared → Prop} {mg mb : Str → Option Value} {fa : Nat → Addr} {g : Heap} {Q : Value → Shared → Prop} {h₀ : Heap} {gn : Array GenState} {dr : Drawn} {tk₀ : Nat} {os : OsState}
theorem siftup_spec {hp : Addr} {xs : List Row} {x : Row} {pos : Nat} {t2 : Tok}
    (B : Base mg mb fa g) (k : Le g h₀) (hoff : g.get? hp = none) (hl : h₀.PlainList hp (vals xs)) (hT : ∀ p ∈ xs, T4 g p.1 p.2) (hlen : xs.length < 2 ^ 24)
    (hd : A.depth + 1 < recursionLimit) (hu : A.units + 16 < cLine) (hx : xs[pos]? = some x)
    (q : ∀ h' tk, h'.PlainList hp (vals (siftup pos x xs)) → (∀ b o, b ∉ [hp] → h₀.get? b = some o → h'.get? b = some o) → Q .none ⟨h', gn, dr, tk, os⟩) :
    wpAny (model prog w) A (call (.ref (fa 7)) [.ref hp, .int pos t2]) Q E ⟨h₀, gn, dr, tk₀, os⟩ := by
  refine call_fn 7 (binds := [("heap", .ref hp), ("pos", .int pos t2)]) B k (by lia) rfl (fun h₁ cd tk₁ hns hk₁ => ?_)
  have S := St.enter (D := [hp]) (P := fun h => h.PlainList hp (vals xs)) hns hk₁ (by simpa using isList_lt (plain_isList hl)) list_dep hl
  have hgG := hide_le (D := [hp]) k (by simpa using hoff)
  have hback := fun h' => @hide_back h₀ h' [hp]
  generalize hideAll h₀ [hp] = G at S hgG hback
  generalize h₀.objs.size = L at S ⊢
  have hT' : ∀ p ∈ xs, T4 G p.1 p.2 := fun p hp => (hT p hp).up hgG
  have hxT : T4 G x.1 x.2 := hT' _ (List.mem_of_getElem? hx)
  have hpos : pos < xs.length := (List.getElem?_eq_some_iff.mp hx).1
  have BG : Base mg mb fa G := B.up hgG
  walk_at "mw"
  refine e_bi BG S.keep boot_len ?_
  walk_at "mw"
  refine r_len (plain_isList S.here) (by rw [vals_size]; lia) fun t3 tk3 => ?_
  refine r_st S fun h₂ tk₂ S₂ _ => ?_
  rw [vals_size] at S₂
  walk_at "mw"
  refine r_st S₂ fun h₃ tk₃ S₃ _ => ?_
  walk_at "mw"
  refine r_item (plain_isList S₃.here) (by lia) (by lia) (vals_get (by simpa using hx)) ?_
  refine r_st S₃ fun h₄ tk₄ S₄ _ => ?_
  walk_at "mw"
  refine r_mulL (by decide) (by decide) fun _ _ => ?_
  walk_at "mw"
  refine r_st S₄ fun h₅ tk₅ S₅ _ => ?_
  walk_at "m1"
  refine wpAny_While ?_
  let I : Nat → Shared → Prop := fun n s' => ∃ cur p h' tk t' t'', s' = ⟨h', gn, dr, tk, os⟩ ∧ St G L [hp] (fun h => h.PlainList hp (vals cur)) h' [("heap", .ref hp), ("pos", .int ((p : Nat) : Int) t'), ("newitem", x.1), ("startpos", .int pos t2), ("endpos", .int xs.length t3), ("childpos", .int (2 * p + 1) t'')] ∧
    sup p cur = sup pos xs ∧ cur.length = xs.length ∧ p < cur.length ∧ (∀ r ∈ cur, T4 G r.1 r.2) ∧ n = xs.length - p
  let J : Result → Shared → Prop := fun r s' => r = .ok .next ∧ ∃ h' tk t', s' = ⟨h', gn, dr, tk, os⟩ ∧ (∀ r ∈ (sup pos xs).2, T4 G r.1 r.2) ∧
    St G L [hp] (fun h => h.PlainList hp (vals (sup pos xs).2)) h' [("heap", .ref hp), ("pos", .int (((sup pos xs).1 : Nat) : Int) t'), ("newitem", x.1), ("startpos", .int pos t2)]
  refine codeAny_mono (R := J) ?_ ?_
  rotate_left
  · rintro r s' ⟨rfl, h', tk, t', rfl, hTs, S'⟩
    dsimp only
    obtain ⟨hs1, hs2⟩ := sup_lt pos xs hpos
    walk_at "mw"
    refine r_setItem S'.here (by lia) (by lia) (by rw [vals_size]; lia) fun h₅ hl₅ hs₅ => ?_
    rw [Int.toNat_natCast, vals_set] at hl₅
    have S₅ := S'.same (.head _) hs₅ hl₅ list_dep
    walk_at "mw"
    refine wpAny_Expr_any ?_ (by rfl) (by kernel_rfl)
    refine e_fn 6 BG S₅.keep ?_
    walk_at "mw"
    refine ⟨S₅.keep, ?_⟩
    refine siftdown_spec (x := x) (xs := (sup pos xs).2.set (sup pos xs).1 x) BG S₅.keep (S₅.offD hp (.head _)).1 hl₅ ?_ (by rw [List.length_set]; lia) (by show A.depth + 1 < _; lia) (by show A.units + 3 + 8 < _; lia) (by rw [List.getElem?_set_self hs1]) fun h₆ tk₆ hl₆ hb₆ => ?_
    · intro r hr
      rcases List.mem_or_eq_of_mem_set hr with hr | rfl
      · exact hTs r hr
      · exact hxT
    walk_at "mw"
    exact q h₆ _ hl₆ (hback _ fun b o e => hb₆ b o (by intro hb; rw [(S₅.offD b hb).1] at e; cases e) (S₅.keep b o e))
  refine codeAny_whileLoop I (fun n s' hI => ?_) (xs.length - pos) ⟨xs, pos, h₅, _, _, _, rfl, S₅.less ⟨rfl, rfl, rfl, rfl, rfl, rfl, trivial⟩, rfl, rfl, hpos, hT', rfl⟩
  obtain ⟨cur, p, h', tk, t', t'', rfl, S', hsd, hlc, hn, hTc, rfl⟩ := hI
  walk_at "mw"
  by_cases hgt : (2 * (p : Int) + 1) < (xs.length : Int)
  · rw [if_pos (decide_eq_true hgt)]
    walk_at "mw"
    refine r_st S' fun h₃ tk₃ S₃ _ => ?_
    walk_at "m1"
    have hc1 : 2 * p + 1 < cur.length := by lia
    have hkl := kid_lt hc1
    have hsup : sup p cur = sup (kid p cur) (cur.set p (cur[kid p cur]'(kid_lt hc1))) := by rw [sup, dif_pos hc1]
    refine wpAny_mono (Q := fun f s' => f = .next ∧ ∃ h' tk t₁, s' = ⟨h', gn, dr, tk, os⟩ ∧ St G L [hp] (fun h => h.PlainList hp (vals cur)) h' [("heap", .ref hp), ("pos", .int ((p : Nat) : Int) t'), ("newitem", x.1), ("startpos", .int pos t2), ("endpos", .int xs.length t3), ("childpos", .int ((kid p cur : Nat) : Int) t₁)]) ?_ ?_ (fun _ _ x => x)
    · walk_at "mw"
      by_cases hr : (2 * (p : Int) + 1 + 1) < (xs.length : Int)
      · rw [if_pos (decide_eq_true hr)]
        have hc2 : 2 * p + 2 < cur.length := by lia
        walk_at "mw"
        refine r_item (plain_isList S₃.here) (by lia) (by lia) (v := (cur[2 * p + 1]).1) (vals_get (by rw [show (2 * (p : Int) + 1).toNat = 2 * p + 1 by lia]; exact List.getElem?_eq_getElem hc1)) ?_
        walk_at "mw"
        refine r_item (plain_isList S₃.here) (by lia) (by lia) (v := (cur[2 * p + 2]).1) (vals_get (by rw [show (2 * (p : Int) + 1 + 1).toNat = 2 * p + 2 by lia]; exact List.getElem?_eq_getElem hc2)) ?_
        refine lt_T4 (g := G) (r := (cur[2 * p + 1]).2) (r' := (cur[2 * p + 2]).2) S₃.keep (hTc _ (List.getElem_mem hc1)) (hTc _ (List.getElem_mem hc2)) (by show A.units + 3 < cLine; lia) ?_
        have hkid : kid p cur = if rlt cur[2 * p + 1] cur[2 * p + 2] then 2 * p + 1 else 2 * p + 2 := by
          unfold kid; rw [List.getElem?_eq_getElem hc1, List.getElem?_eq_getElem hc2]
        walk_at "mw"
        refine i_not (fun hlt => ?_) fun hlt => ?_
        · rw [if_pos (decide_eq_true hlt)] at hkid
          walk_at "mw"
          refine ⟨rfl, h₃, _, t'', rfl, ?_⟩
          rw [hkid]
          exact S₃.less ⟨rfl, rfl, rfl, rfl, rfl, by rw [show (((2 * p + 1 : Nat)) : Int) = 2 * (p : Int) + 1 by lia]; rfl, trivial⟩
        · rw [if_neg (by rw [rlt, decide_eq_false hlt]; exact Bool.false_ne_true)] at hkid
          walk_at "mw"
          refine r_st S₃ fun h₄ tk₄ S₄ _ => ?_
          walk_at "mw"
          rw [show 2 * (p : Int) + 1 + 1 = ((kid p cur : Nat) : Int) by lia] at S₄
          exact ⟨rfl, h₄, _, _, rfl, S₄.less ⟨rfl, rfl, rfl, rfl, rfl, rfl, trivial⟩⟩
      · rw [if_neg (by rw [decide_eq_false hr]; exact Bool.false_ne_true)]
        have hkid : kid p cur = 2 * p + 1 := by
          unfold kid; rw [List.getElem?_eq_none (i := 2 * p + 2) (by lia)]
          split <;> simp_all
        walk_at "mw"
        refine ⟨rfl, h₃, _, t'', rfl, ?_⟩
        rw [hkid]
        exact S₃.less ⟨rfl, rfl, rfl, rfl, rfl, by rw [show (((2 * p + 1 : Nat)) : Int) = 2 * (p : Int) + 1 by lia]; rfl, trivial⟩
    · rintro f s' ⟨rfl, h₄, tk₄, t₁, rfl, S₄⟩
      dsimp only
      walk_at "mw"
      refine r_item (plain_isList S₄.here) (by lia) (by lia) (v := (cur[kid p cur]).1) (vals_get (by rw [Int.toNat_natCast]; exact List.getElem?_eq_getElem hkl)) ?_
      walk_at "mw"
      refine r_setItem S₄.here (by lia) (by lia) (by rw [vals_size]; lia) fun h₅ hl₅ hs₅ => ?_
      rw [Int.toNat_natCast, vals_set] at hl₅
      have S₅ := S₄.same (.head _) hs₅ hl₅ list_dep
      walk_at "mw"
      refine r_st S₅ fun h₆ tk₆ S₆ _ => ?_
      walk_at "mw"
      refine r_mulL (by decide) (by decide) fun _ _ => ?_
      walk_at "mw"
      refine r_st S₆ fun h₇ tk₇ S₇ _ => ?_
      walk_at "mw"
      have := kid_cases p cur
      refine ⟨xs.length - kid p cur, by lia, _, kid p cur, h₇, _, _, _, rfl, S₇.less ⟨rfl, rfl, rfl, rfl, rfl, rfl, trivial⟩, hsup ▸ hsd, by simpa using hlc, by simpa using hkl, ?_, rfl⟩
      intro r hr
      rcases List.mem_or_eq_of_mem_set hr with hr | rfl
      · exact hTc r hr
      · exact hTc _ (List.getElem_mem hkl)
  · rw [if_neg (by rw [decide_eq_false hgt]; exact Bool.false_ne_true)]
    walk_at "mw"
    rw [sup, dif_neg (by lia)] at hsd
    exact ⟨rfl, h', _, t', rfl, by rw [← hsd]; exact hTc, by rw [← hsd]; exact S'.less ⟨rfl, rfl, rfl, rfl, trivial⟩⟩
end
section
variable {prog : Program} {w : World} {A : Around} {E : Value → Shared → Prop} {Q : Value → Shared → Prop} {h : Heap} {gn : Array GenState} {dr : Drawn} {tk : Nat} {os : OsState} {env : Env}
theorem r_append {l : Addr} {items : Array Value} {x : Value} (hl : h.PlainList l items) (hsz : items.size ≤ sizeLine)
    (q : ∀ h', h'.PlainList l (items.push x) → Heap.SameBut l h h' → Q .none ⟨h', gn, dr, tk, os⟩) :
    wpAny (model prog w) A (call (.builtin "list.append") [.ref l, x]) Q E ⟨h, gn, dr, tk, os⟩ := wpAny_list_append_plain (s := ⟨h, gn, dr, tk, os⟩) hl q hsz
theorem list_pop_last (l : Addr) (items : List Value) (y : Value) (n : Nat) (hs : (items ++ [y]).length ≤ sizeLine) :
    Meets (Builtin.«list.pop» ⟨[.ref l], []⟩) (fun _ R s => s.heap.get? l = some { cls := .type "list", dict := none, data := .seq (items ++ [y]).toArray n, slots := #[] } ∧
      R (.ok (.ret y)) { s with heap := s.heap.update l (Obj.mapSeq (·.eraseIdxIfInBounds items.length)), toks := s.toks }) :=
  .of_wp fun prog w A R s h => by
    obtain ⟨hp, g, d, tk, os⟩ := s; obtain ⟨hl, h⟩ := h
    have e1 : (items ++ [y]).toArray.isEmpty = false := by simp
    have e2 : (seqIndex? (-1) (items ++ [y]).toArray.size).bind (fun k => (items ++ [y]).toArray[k]?.map (k, ·)) = some (items.length, y) := by
      have : seqIndex? (-1) (items ++ [y]).toArray.size = some items.length := by
        unfold seqIndex?
        simp
        lia
      rw [this]; simp
    unfold Builtin.«list.pop»
    wp_walk using (PySem.AutoSeq1.wpAny_loadPart' hl)
    rw [e2]
    dsimp only
    refine wpAny_bind (listUpdate_at (s := ⟨hp, g, d, tk, os⟩) hl rfl ?_ (hsz2 := ?_))
    · exact wpAny_pure ⟨_, rfl, h⟩
    · have : ((items ++ [y]).toArray.eraseIdxIfInBounds items.length).size ≤ (items ++ [y]).toArray.size := by
        rw [Array.eraseIdxIfInBounds]; split
        · rw [Array.size_eraseIdx]; lia
        · exact Nat.le_refl _
      have h2 : (items ++ [y]).toArray.size = (items ++ [y]).length := by simp
      lia
theorem r_pop {l : Addr} {items : List Value} {y : Value} (hl : h.PlainList l (items ++ [y]).toArray) (hsz : (items ++ [y]).length ≤ sizeLine)
    (q : ∀ h', h'.PlainList l items.toArray → Heap.SameBut l h h' → Q y ⟨h', gn, dr, tk, os⟩) :
    wpAny (model prog w) A (call (.builtin "list.pop") [.ref l]) Q E ⟨h, gn, dr, tk, os⟩ := by
  have hl' := plain_isList hl
  obtain ⟨n, ho⟩ := hl
  refine call_meets (s := ⟨h, gn, dr, tk, os⟩) F.slot_list_pop (Heap.IsList.typeIs (s := ⟨h, gn, dr, tk, os⟩) hl') F.entry_list_pop (F.args_list_pop_1 _) (list_pop_last l items y n hsz) ⟨ho, ?_⟩
  refine q _ ?_ (Heap.SameBut.update ..)
  have e : ((items ++ [y]).toArray.eraseIdxIfInBounds items.length) = items.toArray := by
    have e0 : ∀ l : List Value, (l ++ [y]).eraseIdx l.length = l := fun l => by induction l with
      | nil => rfl
      | cons a l ih => rw [List.cons_append, List.length_cons, List.eraseIdx_cons_succ, ih]
    simp [Array.eraseIdxIfInBounds, e0]
  have := Heap.get?_update_self (Obj.mapSeq (·.eraseIdxIfInBounds items.length)) ho rfl
  simp only [Obj.mapSeq, e] at this
  exact ⟨_, this⟩
theorem e_pop {o : PySem.Expr} {apos pos : Pos} {l : Addr} {items : List Value} {y : Value}
    (hl : wpAny (model prog w) A (eval o env) (fun ov s₁ => ∃ h₁ tk₁, ov = .ref l ∧ s₁ = ⟨h₁, gn, dr, tk₁, os⟩ ∧ h₁.PlainList l (items ++ [y]).toArray ∧ (items ++ [y]).length ≤ sizeLine ∧
      ∀ h', h'.PlainList l items.toArray → Heap.SameBut l h₁ h' → Q y ⟨h', gn, dr, tk₁, os⟩) E ⟨h, gn, dr, tk, os⟩)
    (hbase : attributeBase o "pop" env (eval o env) = eval o env := by kernel_rfl) (hline : (apos.endLine == pos.line) = true := by kernel_rfl) :
    wpAny (model prog w) A (eval (.Call (.Attribute o "pop" apos) [] [] pos) env) Q E ⟨h, gn, dr, tk, os⟩ := by
  refine wpAny_Call_method0_late hbase hline (wpAny_mono hl ?_ fun _ _ x => x)
  rintro ov s₁ ⟨h₁, tk₁, rfl, rfl, hp, hs, q⟩
  refine ⟨"list", "list.pop", F.plainAttrs_list, F.slot_list_pop, F.type_list_pop, Heap.IsList.typeIs (s := ⟨h₁, gn, dr, tk₁, os⟩) (plain_isList hp), ?_, ?_⟩
  · rintro a e
    cases e
    obtain ⟨n, ho⟩ := hp
    exact ⟨_, ho, rfl⟩
  · exact callWith_method0 (env := env) (r_pop hp hs q)
theorem e_append {o elt : PySem.Expr} {apos pos : Pos}
    (q : wpAny (model prog w) A (eval o env) (fun ov s₁ => ∃ D its, ov = .ref D ∧ s₁.heap.PlainList D its ∧
      wpAny (model prog w) A (eval elt env) (fun y s₂ => wpAny (model prog w) A (call (.builtin "list.append") [.ref D, y]) Q E s₂) E s₁) E ⟨h, gn, dr, tk, os⟩)
    (hbase : attributeBase o "append" env (eval o env) = eval o env := by kernel_rfl)
    (hfew : ((backTo pos (starEach [elt] env)).all (fun x => !x.1) && (backToKw pos (keywordEach [] env)).all (fun x => x.1.isSome)
      && decide (([elt] : List PySem.Expr).length + ([] : List Keyword).length + (if ([] : List Keyword).isEmpty then 0 else 1) < 30)) = true := by kernel_rfl)
    (hline : (apos.endLine == pos.line) = true := by kernel_rfl)
    (htrees : backTo pos (starEach [elt] env) = [(false, eval elt env)] := by kernel_rfl) :
    wpAny (model prog w) A (eval (.Call (.Attribute o "append" apos) [elt] [] pos) env) Q E ⟨h, gn, dr, tk, os⟩ := by
  refine wpAny_Call_append hbase hfew hline htrees (wpAny_mono q ?_ fun _ _ x => x)
  rintro ov s₁ ⟨D, its, rfl, ⟨n, hp⟩, q⟩
  exact ⟨D, its, rfl, ⟨_, n, hp, rfl, rfl, rfl⟩, q⟩
end

section
variable {prog : Program} {w : World} {A : Around} {E : Value → Shared → Prop} {mg mb : Str → Option Value} {fa : Nat → Addr} {g : Heap} {Q : Value → Shared → Prop} {h₀ : Heap} {gn : Array GenState} {dr : Drawn} {tk₀ : Nat} {os : OsState}
/-- what heappush makes of the list -/
def hpush (xs : List Row) (x : Row) : List Row := sdown 0 x xs.length (xs ++ [x])
theorem vals_push (xs : List Row) (x : Row) : (vals xs).push x.1 = vals (xs ++ [x]) := by simp [vals]
theorem heappush_spec {hp : Addr} {xs : List Row} {x : Row}
    (B : Base mg mb fa g) (k : Le g h₀) (hoff : g.get? hp = none) (hl : h₀.PlainList hp (vals xs)) (hT : ∀ p ∈ xs, T4 g p.1 p.2) (hx : T4 g x.1 x.2) (hlen : xs.length < 2 ^ 20)
    (hd : A.depth + 1 < recursionLimit) (hu : A.units + 16 < cLine)
    (q : ∀ h' tk, h'.PlainList hp (vals (hpush xs x)) → (∀ b o, b ∉ [hp] → h₀.get? b = some o → h'.get? b = some o) → Q .none ⟨h', gn, dr, tk, os⟩) :
    wpAny (model prog w) A (call (.ref (fa 3)) [.ref hp, x.1]) Q E ⟨h₀, gn, dr, tk₀, os⟩ := by
  refine call_fn 3 (binds := [("heap", .ref hp), ("item", x.1)]) B k (by lia) rfl (fun h₁ cd tk₁ hns hk₁ => ?_)
  have S := St.enter (D := [hp]) (P := fun h => h.PlainList hp (vals xs)) hns hk₁ (by simpa using isList_lt (plain_isList hl)) list_dep hl
  have hgG := hide_le (D := [hp]) k (by simpa using hoff)
  have hback := fun h' => @hide_back h₀ h' [hp]
  generalize hideAll h₀ [hp] = G at S hgG hback
  generalize h₀.objs.size = L at S ⊢
  have BG : Base mg mb fa G := B.up hgG
  walk_at "mw"
  refine wpAny_Expr_any ?_ (by rfl) (by kernel_rfl)
  refine e_append ?_
  walk_at "mw"
  refine ⟨hp, _, rfl, S.here, ?_⟩
  walk_at "mw"
  refine r_append S.here (by rw [vals_size, sizeLine_eq]; lia) fun h₂ hl₂ hs₂ => ?_
  rw [vals_push] at hl₂
  have S₂ := S.same (.head _) hs₂ hl₂ list_dep
  walk_at "mw"
  refine wpAny_Expr_any ?_ (by rfl) (by kernel_rfl)
  refine e_fn 6 BG S₂.keep ?_
  walk_at "mw"
  refine e_bi BG S₂.keep boot_len ?_
  walk_at "mw"
  refine r_len (plain_isList S₂.here) (by rw [vals_size]; simp; lia) fun t3 tk3 => ?_
  walk_at "mw"
  refine ⟨S₂.keep, ?_⟩
  rw [vals_size, show (((xs ++ [x]).length : Nat) : Int) - 1 = ((xs.length : Nat) : Int) by simp]
  refine siftdown_spec (start := 0) (x := x) (xs := xs ++ [x]) BG S₂.keep (S₂.offD hp (.head _)).1 hl₂ ?_ (by simp; lia) (by show A.depth + 1 < _; lia) (by show A.units + 3 + 8 < _; lia) (by simp) fun h₆ tk₆ hl₆ hb₆ => ?_
  · intro r hr
    rcases List.mem_append.mp hr with hr | hr
    · exact (hT r hr).up hgG
    · simp at hr; subst hr; exact hx.up hgG
  walk_at "mw"
  exact q h₆ _ hl₆ (hback _ fun b o e => hb₆ b o (by intro hb; rw [(S₂.offD b hb).1] at e; cases e) (S₂.keep b o e))

/-- what heappop gives and leaves -/
def hpop (xs : List Row) : Option (Row × List Row) := match xs.getLast? with
  | none => none
  | some z => match xs.dropLast with
    | [] => some (z, [])
    | x :: r => some (x, siftup 0 z (z :: r))
theorem hpop_one (z : Row) : hpop ([] ++ [z]) = some (z, []) := rfl
theorem hpop_more (x z : Row) (r : List Row) : hpop ((x :: r) ++ [z]) = some (x, siftup 0 z (z :: r)) := by
  unfold hpop
  rw [List.getLast?_concat, List.dropLast_concat]
theorem heappop_spec {hp : Addr} {xs ys : List Row} {x : Row}
    (B : Base mg mb fa g) (k : Le g h₀) (hoff : g.get? hp = none) (hl : h₀.PlainList hp (vals xs)) (hT : ∀ p ∈ xs, T4 g p.1 p.2) (hlen : xs.length < 2 ^ 20)
    (hd : A.depth + 2 < recursionLimit) (hu : A.units + 32 < cLine) (hx : hpop xs = some (x, ys))
    (q : ∀ h' tk, h'.PlainList hp (vals ys) → (∀ b o, b ∉ [hp] → h₀.get? b = some o → h'.get? b = some o) → Q x.1 ⟨h', gn, dr, tk, os⟩) :
    wpAny (model prog w) A (call (.ref (fa 4)) [.ref hp]) Q E ⟨h₀, gn, dr, tk₀, os⟩ := by
  refine call_fn 4 (binds := [("heap", .ref hp)]) B k (by lia) rfl (fun h₁ cd tk₁ hns hk₁ => ?_)
  have S := St.enter (D := [hp]) (P := fun h => h.PlainList hp (vals xs)) hns hk₁ (by simpa using isList_lt (plain_isList hl)) list_dep hl
  have hgG := hide_le (D := [hp]) k (by simpa using hoff)
  have hback := fun h' => @hide_back h₀ h' [hp]
  generalize hideAll h₀ [hp] = G at S hgG hback
  generalize h₀.objs.size = L at S ⊢
  have BG : Base mg mb fa G := B.up hgG
  obtain ⟨zs, z, rfl⟩ : ∃ zs z, xs = zs ++ [z] := by
    cases xs with
    | nil => simp [hpop] at hx
    | cons a r => exact ⟨(a :: r).dropLast, (a :: r).getLast (by simp), (List.dropLast_concat_getLast (by simp)).symm⟩
  walk_at "mw"
  have hv : vals (zs ++ [z]) = ((zs.map (·.1)) ++ [z.1]).toArray := by simp [vals]
  refine e_pop (l := hp) (items := zs.map (·.1)) (y := z.1) ?_
  walk_at "mw"
  refine ⟨_, _, rfl, rfl, hv ▸ S.here, by simp at hlen ⊢; rw [sizeLine_eq]; lia, fun h₂ hl₂ hs₂ => ?_⟩
  have S₂ := S.same (P' := fun h => h.PlainList hp (vals zs)) (.head _) hs₂ hl₂ list_dep
  walk_at "mw"
  refine r_st S₂ fun h₃ tk₃ S₃ _ => ?_
  walk_at "mw"
  refine isTrue_plain ?_ (by kernel_rfl)
  walk_at "mw"
  refine r_truth (plain_isList S₃.here) (by rw [vals_size]; simp at hlen; lia) fun tk₄ => ?_
  cases zs with
  | nil =>
    rw [show (!(vals ([] : List Row)).isEmpty) = false from rfl]
    walk_at "mw"
    have : x = z ∧ ys = [] := by rw [hpop_one] at hx; cases hx; exact ⟨rfl, rfl⟩
    obtain ⟨rfl, rfl⟩ := this
    exact q h₃ _ S₃.here (hback _ S₃.keep)
  | cons a r =>
    have hxx : x = a ∧ ys = siftup 0 z (z :: r) := by rw [hpop_more] at hx; cases hx; exact ⟨rfl, rfl⟩
    obtain ⟨rfl, rfl⟩ := hxx
    rw [show (!(vals (x :: r)).isEmpty) = true by simp [vals]]
    walk_at "mw"
    refine r_item (plain_isList S₃.here) (by decide) (by decide) (v := x.1) (vals_get (by simp)) ?_
    refine r_st S₃ fun h₄ tk₄ S₄ _ => ?_
    walk_at "mw"
    refine r_setItem S₄.here (by decide) (by decide) (by rw [vals_size]; simp) fun h₅ hl₅ hs₅ => ?_
    rw [show (0 : Int).toNat = 0 from rfl, vals_set] at hl₅
    have S₅ := S₄.same (P' := fun h => h.PlainList hp (vals (z :: r))) (.head _) hs₅ hl₅ list_dep
    walk_at "mw"
    refine wpAny_Expr_any ?_ (by rfl) (by kernel_rfl)
    refine e_fn 7 BG S₅.keep ?_
    walk_at "mw"
    refine ⟨S₅.keep, ?_⟩
    refine siftup_spec (pos := 0) (x := z) (xs := z :: r) BG S₅.keep (S₅.offD hp (.head _)).1 hl₅ ?_ (by simp at hlen ⊢; lia) (by show A.depth + 1 + 1 < _; lia) (by show A.units + 3 + 16 < _; lia) (by simp) fun h₆ tk₆ hl₆ hb₆ => ?_
    · intro p hp
      rcases List.mem_cons.mp hp with rfl | hp
      · exact (hT p (by simp)).up hgG
      · exact (hT p (List.mem_append_left _ (.tail _ hp))).up hgG
    have S₆ := S₅.next hb₆ hl₆ list_dep
    walk_at "mw"
    exact q h₆ _ hl₆ (hback _ S₆.keep)
end
section
variable {g h h' : Heap} {L : Addr} {D : List Addr} {P P' : Heap → Prop} {ls l : List (Str × Value)}
/-- a new object joins those that may be written -/
theorem St.fresh {P₁ : Heap → Prop} (S : St g L D P h ls) (o : Obj) (hf : o.isFreed = false) (h1 : ∀ h : Heap, h.get? a = some o → P₁ h) (ha : a = h.objs.size)
    (d1 : ∀ h h', P₁ h → (∀ o, h.get? a = some o → h'.get? a = some o) → P₁ h') : St g L (a :: D) (fun h => P₁ h ∧ P h) (h.push o) ls where
  loc := S.loc.keeps (Le.push h o)
  keep := S.keep.trans (Le.push h o)
  offL := S.offL
  offD := fun d hd => by
    rcases List.mem_cons.mp hd with rfl | hd
    · subst ha
      refine ⟨?_, Nat.ne_of_gt S.lt⟩
      cases q : g.get? h.objs.size with
      | none => rfl
      | some o => exact absurd (Heap.lt_size (S.keep _ _ q)) (Nat.lt_irrefl _)
    · exact S.offD d hd
  dep := fun h h' x k => ⟨d1 h h' x.1 (k a (.head _)), S.dep h h' x.2 fun d hd => k d (.tail _ hd)⟩
  here := ⟨h1 _ (ha ▸ Heap.get?_push_size _ hf), S.dep _ _ S.here fun d hd o e => Heap.get?_push_of_some _ e⟩
/-- one of those that may be written is forgotten -/
theorem St.drop {a : Addr} {P₁ : Heap → Prop} (S : St g L (a :: D) (fun h => P₁ h ∧ P h) h ls) (dep : ∀ h h', P h → (∀ d ∈ D, ∀ o, h.get? d = some o → h'.get? d = some o) → P h') : St g L D P h ls where
  loc := S.loc
  keep := S.keep
  offL := S.offL
  offD := fun d hd => S.offD d (.tail _ hd)
  dep := dep
  here := S.here.2
theorem iter_dep {a : Addr} {x n st : Int} (h h' : Heap) (i : IsRangeIter h a x n st) (k : ∀ o, h.get? a = some o → h'.get? a = some o) : IsRangeIter h' a x n st := by
  unfold IsRangeIter at *
  exact k _ i
end
section
variable {M : Model} {A : Around} {E : Value → Shared → Prop} {env : Env} {g h : Heap} {gn : Array GenState} {dr : Drawn} {tk : Nat} {os : OsState} {Q : Value → Shared → Prop} {mg mb : Str → Option Value} {fa : Nat → Addr}
/-- a call of a built-in type by its name -/
theorem e_ty {x : Str} {np pos : Pos} {T : String} {e : PySem.Expr} {rest : List PySem.Expr} (B : Base mg mb fa g) (k : Le g h) (hv : bootBuiltins x = some (.type T))
    (q : wpAny M A (spliced (backTo pos (starEach (e :: rest) env))) (fun vs s₁ => wpAny M A (call (.type T) vs) Q E s₁) E ⟨h, gn, dr, tk, os⟩)
    (he : starEach (e :: rest) env = (false, eval e env) :: starEach rest env := by rfl)
    (hplain : (backTo pos (starEach rest env)).any (·.1) = false := by rfl) (hi : x ∈ biNames := by decide)
    (hg : env.globals = mainGlobals := by rfl) (hb : env.builtins = builtinsNs := by rfl) (hk : env.scope.kind = .function := by kernel_rfl) (hl : env.kindOf x = some .globalImplicit := by kernel_rfl) (hd : (x == ("__debug__" : Str)) = false := by kernel_rfl) :
    wpAny M A (eval (.Call (.Name x np) (e :: rest) [] pos) env) Q E ⟨h, gn, dr, tk, os⟩ :=
  wpAny_Call_NameR (r_bi B k hv (Pv.callWith_type1 q he hplain) hi hg hb hk hl hd)
end
section
variable {prog : Program} {w : World} {A : Around} {E : Value → Shared → Prop} {Q : Value → Shared → Prop} {h : Heap} {gn : Array GenState} {dr : Drawn} {tk : Nat} {os : OsState} {a b : Int} {t u : Tok}
theorem r_range1 (q : ∀ h' tk' r t₀ t₁, IsRange h' r 0 b 1 t₀ u t₁ → Le h h' → Q (.ref r) ⟨h', gn, dr, tk', os⟩) : wpAny (model prog w) A (call (.type "range") [.int b u]) Q E ⟨h, gn, dr, tk, os⟩ :=
  call_range_1 (s := ⟨h, gn, dr, tk, os⟩) (q _ _ _ _ _ (IsRange.new ..) (Le.push _ _))
theorem r_range2 (q : ∀ h' tk' r t₁, IsRange h' r a b 1 t u t₁ → Le h h' → Q (.ref r) ⟨h', gn, dr, tk', os⟩) : wpAny (model prog w) A (call (.type "range") [.int a t, .int b u]) Q E ⟨h, gn, dr, tk, os⟩ :=
  call_range_2 (s := ⟨h, gn, dr, tk, os⟩) (q _ _ _ _ (IsRange.new ..) (Le.push _ _))
abbrev iterObj (x n st : Int) : Obj := { cls := .type "range_iterator", dict := none, data := .fields #[rawInt x, rawInt n, rawInt st], slots := #[] }
theorem r_iterRange {r : Addr} {t₁ : Tok} (hr : IsRange h r a b 1 t u t₁) (h1 : -(2 ^ 62) ≤ a) (h2 : a < 2 ^ 62) (h3 : -(2 ^ 62) ≤ b) (h4 : b < 2 ^ 62)
    (q : Q (.ref h.objs.size) ⟨h.push (iterObj a (((b - a).toNat : Nat) : Int) 1), gn, dr, tk, os⟩) : wpAny (model prog w) A (pyIter (.ref r)) Q E ⟨h, gn, dr, tk, os⟩ := by
  refine wpAny_pyIter_range (s := ⟨h, gn, dr, tk, os⟩) hr (small_one h1 h2 h3 h4) ?_
  rw [rangeSize_one, show (if a < b then b - a else 0) = (((b - a).toNat : Nat) : Int) by split <;> lia]
  exact q
end
section
variable {prog : Program} {w : World} {A : Around} {E : Value → Shared → Prop} {h : Heap} {gn : Array GenState} {dr : Drawn} {tk : Nat} {os : OsState} {g : Heap} {env : Env} {L : Addr} {D : List Addr} {R : Result → Shared → Prop}
/-- a for over a range's iterator, by what holds of the turn's number -/
theorem for_rng {σ : Type} (P : Nat → σ → Heap → Prop) (ls : Nat → σ → List (Str × Value)) (F : Nat → σ → Prop) (c₀ : σ) {x : Str} {px : Pos} {body : List Stmt} {it : Addr} {a st : Int} {n : Nat}
    (hh : A.handled = none) (hitD : it ∉ D) (S : St g L (it :: D) (fun h => IsRangeIter h it a n st ∧ P 0 c₀ h) h (ls 0 c₀)) (hF : F 0 c₀)
    (dep : ∀ i c h h', P i c h → (∀ d ∈ D, ∀ o, h.get? d = some o → h'.get? d = some o) → P i c h')
    (turn : ∀ i c h tk t, i < n → F i c → St g L (it :: D) (fun h => IsRangeIter h it (a + (i : Int) * st + st) ((n : Int) - i - 1) st ∧ P i c h) h ((x, .int (a + (i : Int) * st) t) :: ls i c) →
      wpAny (model prog w) A (execs body env) (fun f s₃ => (f = .next ∨ f = .cont) ∧ ∃ h' tk' c', s₃ = ⟨h', gn, dr, tk', os⟩ ∧ F (i + 1) c' ∧
        St g L (it :: D) (fun h => IsRangeIter h it (a + (i : Int) * st + st) ((n : Int) - i - 1) st ∧ P (i + 1) c' h) h' (ls (i + 1) c')) (notedBy (model prog w) A env fun e s' => R (.error e) s') ⟨h, gn, dr, tk, os⟩)
    (done : ∀ c h tk, F n c → St g L D (P n c) h (ls n c) → R (.ok .next) ⟨h, gn, dr, tk, os⟩)
    (hL : env.locals = L := by rfl) (hk : env.scope.kind = .function := by kernel_rfl) (hl : env.kindOf x = some .local := by kernel_rfl) :
    codeAny (model prog w) A (.forLoop (.Name x px) (.ref it) body [] env) R ⟨h, gn, dr, tk, os⟩ := by
  refine codeAny_forLoop (fun m s => ∃ i c h tk, m = n - i ∧ i ≤ n ∧ s = ⟨h, gn, dr, tk, os⟩ ∧ F i c ∧ St g L (it :: D) (fun h => IsRangeIter h it (a + (i : Int) * st) ((n : Int) - i) st ∧ P i c h) h (ls i c)) ?_ n
    ⟨0, c₀, h, tk, rfl, Nat.zero_le _, rfl, hF, by simpa using S⟩
  rintro m s ⟨i, c, h, tk, rfl, hi, rfl, hFi, S⟩
  by_cases hin : i < n
  · refine wpAny_pyNext_range_item (s := ⟨h, gn, dr, tk, os⟩) S.here.1 (by lia) fun h₁ hit₁ hs₁ => ?_
    have S₁ : St g L (it :: D) (fun h => IsRangeIter h it (a + (i : Int) * st + st) ((n : Int) - i - 1) st ∧ P i c h) h₁ (ls i c) := by
      refine S.same (.head _) hs₁ ⟨hit₁, dep i c _ _ S.here.2 fun d hd o e => (hs₁.2 d (fun q => hitD (q ▸ hd))).trans e⟩ fun h h' x k => ⟨k it (.head _) _ x.1, dep i c h h' x.2 fun d hd => k d (.tail _ hd)⟩
    refine wpAny_assign_Name ?_
    refine r_st S₁ (fun h₂ tk₂ S₂ _ => ?_) hL hk hl
    refine wpAny_mono (turn i c h₂ tk₂ _ hin hFi S₂) ?_ fun _ _ x => x
    rintro f s₃ ⟨hf, h', tk', c', rfl, hF', S'⟩
    have : ∃ m, m < n - i ∧ ∃ i c h tk, m = n - i ∧ i ≤ n ∧ (⟨h', gn, dr, tk', os⟩ : Shared) = ⟨h, gn, dr, tk, os⟩ ∧ F i c ∧ St g L (it :: D) (fun h => IsRangeIter h it (a + (i : Int) * st) ((n : Int) - i) st ∧ P i c h) h (ls i c) := by
      refine ⟨n - (i + 1), by lia, i + 1, c', h', tk', rfl, hin, rfl, hF', ?_⟩
      rw [show a + ((i + 1 : Nat) : Int) * st = a + (i : Int) * st + st by rw [Int.natCast_add, Int.add_mul]; simp; lia, show (n : Int) - ((i + 1 : Nat) : Int) = (n : Int) - i - 1 by lia]
      exact S'
    rcases hf with rfl | rfl <;> exact this
  · have : i = n := by lia
    subst this
    refine wpAny_pyNext_range_end (s := ⟨h, gn, dr, tk, os⟩) hh S.here.1 (by lia) fun h₁ hs₁ => ?_
    refine wpAny_execs_nil (done c h₁ tk hFi ?_)
    have hne : ∀ b o, b ≠ it → h.get? b = some o → h₁.get? b = some o := fun b o hb e => hs₁ b o hb e
    exact {
      loc := by
        obtain ⟨m, ⟨o, es, ep, ho, r⟩, h2⟩ := S.loc
        exact ⟨m, ⟨o, es, ep, hne L o (Ne.symm (S.offD it (.head _)).2) ho, r⟩, h2⟩
      keep := fun b o e => hne b o (fun q => by subst q; rw [(S.offD b (.head _)).1] at e; cases e) (S.keep b o e)
      offL := S.offL
      offD := fun d hd => S.offD d (.tail _ hd)
      dep := dep i c
      here := dep i c _ _ S.here.2 fun d hd o e => hne d o (fun q => hitD (q ▸ hd)) e }
end
theorem range_rev (r : Addr) (b : Int) (t u v : Tok) (hb0 : 0 ≤ b) (hb : b < 2 ^ 30) :
    Meets (Builtin.«range.__reversed__» ⟨[.ref r], []⟩) (fun _ R s => IsRange s.heap r 0 b 1 t u v ∧
      R (.ok (.ret (.ref s.heap.objs.size))) { s with heap := s.heap.push (iterObj (b - 1) b (-1)) }) :=
  .of_wp fun prog w A R s h => by
    obtain ⟨hp, g, d, tk, os⟩ := s; obtain ⟨hl, h⟩ := h
    have e1 : Builtin.Range.rangeSize 0 b 1 = b := by rw [rangeSize_one]; split <;> lia
    have e2 : (Builtin.Range.rangeFitsLong 0 && Builtin.Range.rangeFitsLong b && Builtin.Range.rangeFitsLong 1 && Builtin.Range.rangeFitsLong (-1) && Builtin.Range.rangeFitsLong (0 - 1) && Builtin.Range.rangeFitsLong b) = true := by
      simp only [Builtin.Range.rangeFitsLong, Bool.and_eq_true, decide_eq_true_eq]
      lia
    unfold Builtin.«range.__reversed__»
    wp_walk using (PySem.AutoSeq1.wpAny_loadPart' hl)
    simp only [e1, e2, Bool.not_true, Bool.false_eq_true, if_false, if_true]
    rw [show (0 : Int) + (b - 1) * 1 = b - 1 by lia]
    exact wpAny_bind (wpAny_newObj_type (wpAny_pure ⟨_, rfl, h⟩))
theorem sub_ri_rev : isSubtype (.type "range_iterator") (.type "reversed") = pure false := by rw [isSubtype_type]; kernel_rfl
section
variable {prog : Program} {w : World} {A : Around} {E : Value → Shared → Prop} {Q : Value → Shared → Prop} {h : Heap} {gn : Array GenState} {dr : Drawn} {tk : Nat} {os : OsState}
theorem code_rev {r : Addr} {b : Int} {t u v : Tok} {Q₁ : Value → Shared → Prop} (hr : IsRange h r 0 b 1 t u v) (hb0 : 0 ≤ b) (hb : b < 2 ^ 30)
    (q : Q₁ (.ref h.objs.size) ⟨h.push (iterObj (b - 1) b (-1)), gn, dr, tk, os⟩) :
    codeAny (model prog w) A (.call (.builtin "reversed.__new__") ⟨[.type "reversed", .ref r], []⟩) (wants Q₁ E) ⟨h, gn, dr, tk, os⟩ := by
  have hty : Shared.TypeIs ⟨h, gn, dr, tk, os⟩ (.ref r) "range" := ⟨_, hr, rfl⟩
  refine codeAny_of_tree ?_
  show wpAny _ A.in1 (do checkBuiltinCall "reversed.__new__" ⟨[.type "reversed", .ref r], []⟩; again (.builtin "reversed.__new__" ⟨[.type "reversed", .ref r], []⟩)) _ _ _
  refine wpAny_bind (wpAny_of_eq (F.newCall_reversed_1 _) (wpAny_pure ⟨plainId_quiet F.plain_reversed_new _, codeAny_builtin F.entry_reversed_new ?_⟩))
  rw [Around.under_plainId F.plain_reversed_new _]
  unfold Builtin.«reversed.__new__»
  refine wpAny_bind (wpAny_of_eq (newClass_reversed _) ?_)
  dsimp only
  refine wpAny_bind (wpAny_of_eq (a := ()) (by first | rfl | kernel_rfl) ?_)
  refine wpAny_bind (wpAny_of_eq (a := ()) (by first | rfl | kernel_rfl) ?_)
  try dsimp only
  refine wpAny_bind (wpAny_specialOf hty F.slot_range_reversed.lookup ?_)
  try dsimp only
  refine wpAny_bind (wpAny_of_eq (F.slot_range_reversed.bind _) ?_)
  try dsimp only
  first
  | rw [if_neg (show ¬ ((Value.builtin "range.__reversed__" == Value.none) = true) from Bool.false_ne_true)]
  | (show wpAny _ _ (if (Value.builtin "range.__reversed__" == Value.none) = true then _ else _) _ _ _; rw [if_neg (show ¬ ((Value.builtin "range.__reversed__" == Value.none) = true) from Bool.false_ne_true)])
  refine wpAny_bind (wpAny_rule ?_)
  refine wpAny_bind (m := runValue (.call (.builtin "range.__reversed__") ⟨[.ref r], []⟩)) (show wpAny _ _ (call (.builtin "range.__reversed__") [.ref r]) _ _ _ from
    call_meets (s := ⟨h, gn, dr, tk, os⟩) F.slot_range_reversed hty F.entry_range_reversed (F.args_range_reversed_1 _) (range_rev r b t u v hb0 hb) ⟨hr, ?_⟩)
  first
  | exact wpAny_pure q
  | exact wpAny_bind (wpAny_pure (wpAny_pure q))
theorem r_rev {r : Addr} {b : Int} {t u v : Tok} (hr : IsRange h r 0 b 1 t u v) (hb0 : 0 ≤ b) (hb : b < 2 ^ 30)
    (q : Q (.ref h.objs.size) ⟨h.push (iterObj (b - 1) b (-1)), gn, dr, tk, os⟩) : wpAny (model prog w) A (call (.type "reversed") [.ref r]) Q E ⟨h, gn, dr, tk, os⟩ := by
  refine callType_other (U := "range_iterator") (Q₁ := fun obj s₁ => obj = .ref h.objs.size ∧ s₁ = ⟨h.push (iterObj (b - 1) b (-1)), gn, dr, tk, os⟩) (by decide +kernel) F.create_reversed ⟨_, _, F.mro_reversed⟩ F.made_reversed sub_ri_rev (F.typeCall_reversed_1 _) (code_rev hr hb0 hb ⟨rfl, rfl⟩) ?_
  rintro obj s₁ ⟨rfl, rfl⟩
  exact ⟨⟨_, Heap.get?_push_size _ rfl, rfl⟩, q⟩
end
theorem sdown_length (s : Nat) (x : Row) (p : Nat) (xs : List Row) : (sdown s x p xs).length = xs.length := by
  rw [sdown]
  split
  · split
    · split
      · rename_i r _ _
        rw [sdown_length s x ((p - 1) / 2) (xs.set p r)]; simp
      · simp
    · simp
  · simp
termination_by p
decreasing_by lia
theorem sdown_mem (s : Nat) (x : Row) (p : Nat) (xs : List Row) {r : Row} (h : r ∈ sdown s x p xs) : r ∈ xs ∨ r = x := by
  rw [sdown] at h
  split at h
  · split at h
    · split at h
      · rename_i y hy _
        rcases sdown_mem s x ((p - 1) / 2) (xs.set p y) h with h | h
        · rcases List.mem_or_eq_of_mem_set h with h | rfl
          · exact .inl h
          · exact .inl (List.mem_of_getElem? hy)
        · exact .inr h
      · exact List.mem_or_eq_of_mem_set h
    · exact List.mem_or_eq_of_mem_set h
  · exact List.mem_or_eq_of_mem_set h
termination_by p
decreasing_by lia
theorem sup_mem (pos : Nat) (xs : List Row) {r : Row} (h : r ∈ (sup pos xs).2) : r ∈ xs := by
  rw [sup] at h
  split at h
  · rename_i hc
    have := sup_mem (kid pos xs) (xs.set pos (xs[kid pos xs]'(kid_lt hc))) h
    rcases List.mem_or_eq_of_mem_set this with h | rfl
    · exact h
    · exact List.getElem_mem _
  · exact h
termination_by xs.length - pos
decreasing_by
  have := kid_cases pos xs
  simp only [List.length_set]
  lia
theorem siftup_length {pos : Nat} {x : Row} {xs : List Row} (h : pos < xs.length) : (siftup pos x xs).length = xs.length := by
  unfold siftup
  rw [sdown_length, List.length_set]
  exact (sup_lt pos xs h).2
theorem siftup_mem {pos : Nat} {x r : Row} {xs : List Row} (h : r ∈ siftup pos x xs) : r ∈ xs ∨ r = x := by
  unfold siftup at h
  rcases sdown_mem _ _ _ _ h with h | h
  · rcases List.mem_or_eq_of_mem_set h with h | h
    · exact .inl (sup_mem _ _ h)
    · exact .inr h
  · exact .inr h
/-- what heapify makes of the list: the places below k -/
def hfy : Nat → List Row → List Row
  | 0, xs => xs
  | k + 1, xs => hfy k (match xs[k]? with | some x => siftup k x xs | none => xs)
section
variable {prog : Program} {w : World} {A : Around} {E : Value → Shared → Prop} {mg mb : Str → Option Value} {fa : Nat → Addr} {g : Heap} {Q : Value → Shared → Prop} {h₀ : Heap} {gn : Array GenState} {dr : Drawn} {tk₀ : Nat} {os : OsState}
theorem heapify_spec {hp : Addr} {xs : List Row}
    (B : Base mg mb fa g) (k : Le g h₀) (hoff : g.get? hp = none) (hl : h₀.PlainList hp (vals xs)) (hT : ∀ p ∈ xs, T4 g p.1 p.2) (hlen : xs.length < 2 ^ 20)
    (hh : A.handled = none) (hd : A.depth + 2 < recursionLimit) (hu : A.units + 32 < cLine)
    (q : ∀ h' tk, h'.PlainList hp (vals (hfy (xs.length / 2) xs)) → (∀ b o, b ∉ [hp] → h₀.get? b = some o → h'.get? b = some o) → Q .none ⟨h', gn, dr, tk, os⟩) :
    wpAny (model prog w) A (call (.ref (fa 5)) [.ref hp]) Q E ⟨h₀, gn, dr, tk₀, os⟩ := by
  refine call_fn 5 (binds := [("x", .ref hp)]) B k (by lia) rfl (fun h₁ cd tk₁ hns hk₁ => ?_)
  have S := St.enter (D := [hp]) (P := fun h => h.PlainList hp (vals xs)) hns hk₁ (by simpa using isList_lt (plain_isList hl)) list_dep hl
  have hgG := hide_le (D := [hp]) k (by simpa using hoff)
  have hback := fun h' => @hide_back h₀ h' [hp]
  generalize hideAll h₀ [hp] = G at S hgG hback
  generalize h₀.objs.size = L at S ⊢
  have BG : Base mg mb fa G := B.up hgG
  have hT' : ∀ p ∈ xs, T4 G p.1 p.2 := fun p hp => (hT p hp).up hgG
  walk_at "mw"
  refine e_bi BG S.keep boot_len ?_
  walk_at "mw"
  refine r_len (plain_isList S.here) (by rw [vals_size]; lia) fun t3 tk3 => ?_
  refine r_st S fun h₂ tk₂ S₂ _ => ?_
  rw [vals_size] at S₂
  walk_at "m1"
  refine wpAny_For ?_ (by intro _; rfl)
  refine e_ty BG S₂.keep boot_reversed ?_
  walk_at "mw"
  refine e_ty BG S₂.keep boot_range ?_
  walk_at "mw"
  refine r_div (by decide) (by decide) fun t₃ tk₃ => ?_
  walk_at "mw"
  refine r_range1 fun h₃ tk₃ r t₀ t₁ hr k₃ => ?_
  have S₃ := S₂.grow k₃
  have en : ((xs.length : Nat) : Int).fdiv 2 = ((xs.length / 2 : Nat) : Int) := by rw [Int.fdiv_eq_ediv_of_nonneg _ (by decide)]; lia
  rw [en] at hr
  walk_at "mw"
  refine r_rev hr (by lia) (by lia) ?_
  have hne : h₃.objs.size ∉ [hp] := by
    intro q
    have hlt := isList_lt (plain_isList S₃.here)
    rw [List.mem_singleton.mp q] at hlt
    exact Nat.lt_irrefl _ hlt
  have S₄ := S₃.fresh (P₁ := fun h => IsRangeIter h h₃.objs.size (((xs.length / 2 : Nat) : Int) - 1) ((xs.length / 2 : Nat) : Int) (-1)) _ rfl (fun _ e => e) rfl iter_dep
  generalize h₃.objs.size = it at S₄ hne ⊢
  generalize h₃.push _ = h₄ at S₄ ⊢
  refine wpAny_pyIter_rangeiter (s := ⟨h₄, gn, dr, tk₃, os⟩) S₄.here.1 ?_
  refine for_rng (D := [hp]) (σ := List Row) (P := fun _ cur h => h.PlainList hp (vals cur)) (ls := fun _ _ => [("x", .ref hp)])
    (F := fun i cur => hfy (xs.length / 2 - i) cur = hfy (xs.length / 2) xs ∧ cur.length = xs.length ∧ ∀ p ∈ cur, T4 G p.1 p.2) xs hh hne (S₄.less ⟨rfl, trivial⟩) ⟨rfl, rfl, hT'⟩ (fun _ _ => list_dep) ?_ ?_
  · rintro i cur h tk t hi ⟨h1, h2, h3⟩ S
    have e : ((xs.length / 2 : Nat) : Int) - 1 + (i : Int) * -1 = ((xs.length / 2 - i - 1 : Nat) : Int) := by lia
    rw [e] at S ⊢
    have hk : xs.length / 2 - i = (xs.length / 2 - i - 1) + 1 := by lia
    have hlt : xs.length / 2 - i - 1 < cur.length := by lia
    walk_at "mw"
    refine wpAny_Expr_any ?_ (by rfl) (by kernel_rfl)
    refine e_fn 7 BG S.keep ?_
    walk_at "mw"
    refine ⟨S.keep, ?_⟩
    refine siftup_spec (x := cur[xs.length / 2 - i - 1]) (xs := cur) BG S.keep (S.offD hp (by simp)).1 S.here.2 h3 (by lia) (by show A.depth + 1 + 1 < _; lia) (by show A.units + 3 + 16 < _; lia) (List.getElem?_eq_getElem hlt) fun h₆ tk₆ hl₆ hb₆ => ?_
    have S₆ := S.next (P' := fun h => IsRangeIter h it _ _ _ ∧ h.PlainList hp (vals (siftup (xs.length / 2 - i - 1) cur[xs.length / 2 - i - 1] cur))) (fun b o hb e => hb₆ b o (fun q => hb (.tail _ q)) e) ⟨hb₆ it _ (by simpa using hne) S.here.1, hl₆⟩
      (fun h h' x k => ⟨k it (.head _) _ x.1, list_dep h h' x.2 fun d hd => k d (.tail _ hd)⟩)
    walk_at "mw"
    refine ⟨.inl rfl, h₆, _, siftup (xs.length / 2 - i - 1) cur[xs.length / 2 - i - 1] cur, rfl, ⟨?_, ?_, ?_⟩, S₆.less (l := [("x", .ref hp)]) ⟨rfl, trivial⟩⟩
    · rw [hk] at h1
      rw [show xs.length / 2 - (i + 1) = xs.length / 2 - i - 1 by lia]
      simpa [hfy, hlt] using h1
    · rw [siftup_length hlt]; exact h2
    · intro p hp
      rcases siftup_mem hp with hp | rfl
      · exact h3 p hp
      · exact h3 _ (List.getElem_mem hlt)
  · rintro cur h tk ⟨h1, _, _⟩ S
    dsimp only
    walk_at "mw"
    have : hfy (xs.length / 2 - xs.length / 2) cur = cur := by rw [Nat.sub_self]; rfl
    rw [this] at h1
    exact q h _ (h1 ▸ S.here) (hback _ S.keep)
end
section
variable {prog : Program} {w : World}
theorem int_is {k : Int} {v : Value} (h : (intKind prog w).is k v = true) : ∃ t, v = .int k t := Value.isInt_shape h
theorem is_int {k : Int} {t : Tok} : (intKind prog w).is k (.int k t) = true := by simp [intKind, Value.isInt]
end
def ItIs (h : Heap) (it d : Addr) (i n ep : Nat) : Prop := ∃ ok ov, IsItemIter h it d i n ep ok ov
theorem itIs_dep {it d : Addr} {i n ep : Nat} (h h' : Heap) (x : ItIs h it d i n ep) (k : ∀ o, h.get? it = some o → h'.get? it = some o) : ItIs h' it d i n ep :=
  let ⟨ok, ov, e⟩ := x; ⟨ok, ov, k _ e⟩
theorem Le.dictAt {prog : Program} {w : World} {g h : Heap} (k : Le g h) {d : Addr} {kvs : List (Int × Value)} {ep : Nat} (x : g.DictAt (intKind prog w) d kvs ep) : h.DictAt (intKind prog w) d kvs ep :=
  let ⟨o, es, e, r⟩ := x; ⟨o, es, k _ _ e, r⟩
section
variable {prog : Program} {w : World} {A : Around} {E : Value → Shared → Prop} {h : Heap} {gn : Array GenState} {dr : Drawn} {tk : Nat} {os : OsState} {g : Heap} {env : Env} {L : Addr} {D : List Addr} {R : Result → Shared → Prop}
/-- a for over a dict's items, by what holds of the turn's number -/
theorem for_items {σ : Type} (P : Nat → σ → Heap → Prop) (ls : Nat → σ → List (Str × Value)) (F : Nat → σ → Prop) (c₀ : σ) {xk xv : Str} {pk pv pt : Pos} {x1 : Nat} {body : List Stmt} {it d : Addr} {kvs : List (Int × Value)} {ep : Nat}
    (hh : A.handled = none) (hitD : it ∉ D) (hd : g.DictAt (intKind prog w) d kvs ep) (S : St g L (it :: D) (fun h => ItIs h it d 0 kvs.length ep ∧ P 0 c₀ h) h (ls 0 c₀)) (hF : F 0 c₀)
    (dep : ∀ i c h h', P i c h → (∀ d ∈ D, ∀ o, h.get? d = some o → h'.get? d = some o) → P i c h')
    (turn : ∀ i c h tk k v t, kvs[i]? = some (k, v) → F i c → St g L (it :: D) (fun h => ItIs h it d (i + 1) kvs.length ep ∧ P i c h) h ((xv, v) :: (xk, .int k t) :: ls i c) →
      wpAny (model prog w) A (execs body env) (fun f s₃ => (f = .next ∨ f = .cont) ∧ ∃ h' tk' c', s₃ = ⟨h', gn, dr, tk', os⟩ ∧ F (i + 1) c' ∧
        St g L (it :: D) (fun h => ItIs h it d (i + 1) kvs.length ep ∧ P (i + 1) c' h) h' (ls (i + 1) c')) (notedBy (model prog w) A env fun e s' => R (.error e) s') ⟨h, gn, dr, tk, os⟩)
    (done : ∀ c h tk, F kvs.length c → St g L D (P kvs.length c) h (ls kvs.length c) → R (.ok .next) ⟨h, gn, dr, tk, os⟩)
    (hL : env.locals = L := by rfl) (hk : env.scope.kind = .function := by kernel_rfl) (hlk : env.kindOf xk = some .local := by kernel_rfl) (hlv : env.kindOf xv = some .local := by kernel_rfl) :
    codeAny (model prog w) A (.forLoop (.Tuple [.Name xk pk, .Name xv pv] x1 pt) (.ref it) body [] env) R ⟨h, gn, dr, tk, os⟩ := by
  refine codeAny_forLoop_any (fun m s => ∃ i c h tk, m = kvs.length - i ∧ i ≤ kvs.length ∧ s = ⟨h, gn, dr, tk, os⟩ ∧ F i c ∧ St g L (it :: D) (fun h => ItIs h it d i kvs.length ep ∧ P i c h) h (ls i c)) ?_ kvs.length
    ⟨0, c₀, h, tk, rfl, Nat.zero_le _, rfl, hF, S⟩
  rintro m s ⟨i, c, h, tk, rfl, hi, rfl, hFi, S⟩
  have hgi : g.get? it = none := (S.offD it (.head _)).1
  obtain ⟨ok, ov, hit⟩ := S.here.1
  cases hv : kvs[i]? with
  | none =>
    have : i = kvs.length := Nat.le_antisymm hi (by simpa using hv)
    subst this
    refine wpAny_pyNext_items_end (s := ⟨h, gn, dr, tk, os⟩) hh hit (S.keep.dictAt hd) hv fun h₁ hne => ?_
    refine wpAny_execs_nil (done c h₁ tk hFi ?_)
    exact {
      loc := by
        obtain ⟨m, ⟨o, es, ep, ho, r⟩, h2⟩ := S.loc
        exact ⟨m, ⟨o, es, ep, hne L o (Ne.symm (S.offD it (.head _)).2) ho, r⟩, h2⟩
      keep := fun b o e => hne b o (fun q => by subst q; rw [hgi] at e; cases e) (S.keep b o e)
      offL := S.offL
      offD := fun d hd => S.offD d (.tail _ hd)
      dep := dep _ c
      here := dep _ c _ _ S.here.2 fun d hd o e => hne d o (fun q => hitD (q ▸ hd)) e }
  | some kv =>
    obtain ⟨k, v⟩ := kv
    have hlt : i < kvs.length := (List.getElem?_eq_some_iff.mp hv).1
    refine wpAny_pyNext_items_item (s := ⟨h, gn, dr, tk, os⟩) hit (S.keep.dictAt hd) hv fun key h₁ hkey heo ht₁ hz₁ hk₁ => ?_
    obtain ⟨t, rfl⟩ := int_is hkey
    refine wpAny_letOwnedTupleGo_items (s := ⟨h₁, gn, dr, tk, os⟩) heo fun h₂ he₂ hs₂ => ?_
    have hitlt : it < h.objs.size := Heap.lt_size hit
    have ht₂ : h₂.IsTuple h.objs.size #[.int k t, v] := ⟨_, (hs₂.2 _ (Nat.ne_of_gt hitlt)).trans ht₁, rfl, _, rfl⟩
    have hb₂ : ∀ b o, b ≠ it → h.get? b = some o → h₂.get? b = some o := fun b o hb e => (hs₂.2 b hb).trans (hk₁ b o hb e)
    refine wpAny_assign_Tuple (s := ⟨h₂, gn, dr, tk, os⟩) hh ht₂ rfl rfl fun h₃ hx₃ => ?_
    have hsz₂ : h₂.objs.size = h.objs.size + 1 := hs₂.1.trans hz₁
    have hb₃ : ∀ b o, b ≠ it → h.get? b = some o → h₃.get? b = some o := fun b o hb e => hx₃ b o (by
      have := Heap.lt_size e
      show b ≠ h₂.objs.size
      rw [hsz₂]; exact Nat.ne_of_lt (Nat.lt_succ_of_lt this)) (hb₂ b o hb e)
    have hit₃ : ItIs h₃ it d (i + 1) kvs.length ep := ⟨_, _, hx₃ it _ (by show it ≠ h₂.objs.size; rw [hsz₂]; exact Nat.ne_of_lt (Nat.lt_succ_of_lt hitlt)) he₂⟩
    have S₃ : St g L (it :: D) (fun h => ItIs h it d (i + 1) kvs.length ep ∧ P i c h) h₃ (ls i c) := {
      loc := by
        obtain ⟨m, ⟨o, es, ep, ho, r⟩, h2⟩ := S.loc
        exact ⟨m, ⟨o, es, ep, hb₃ L o (Ne.symm (S.offD it (.head _)).2) ho, r⟩, h2⟩
      keep := fun b o e => hb₃ b o (fun q => by subst q; rw [hgi] at e; cases e) (S.keep b o e)
      offL := S.offL
      offD := S.offD
      dep := fun h h' x k => ⟨itIs_dep h h' x.1 (k it (.head _)), dep i c h h' x.2 fun d hd => k d (.tail _ hd)⟩
      here := ⟨hit₃, dep i c _ _ S.here.2 fun d hd o e => hb₃ d o (fun q => hitD (q ▸ hd)) e⟩ }
    show wpAny _ _ (do holding [v] (assign (.Name xk pk) env (.int k t)); do holding [] (assign (.Name xv pv) env v); pure ()) _ _ _
    refine wpAny_bind (wpAny_holding (wpAny_assign_Name (r_st S₃ (fun h₄ tk₄ S₄ _ => ?_) hL hk hlk)))
    refine wpAny_bind (wpAny_holding (wpAny_assign_Name (r_st S₄ (fun h₅ tk₅ S₅ _ => wpAny_pure ?_) hL hk hlv)))
    refine wpAny_mono (turn i c h₅ tk₅ k v _ hv hFi S₅) ?_ fun _ _ x => x
    rintro f s₃ ⟨hf, h', tk', c', rfl, hF', S'⟩
    have : ∃ m, m < kvs.length - i ∧ ∃ i c h tk, m = kvs.length - i ∧ i ≤ kvs.length ∧ (⟨h', gn, dr, tk', os⟩ : Shared) = ⟨h, gn, dr, tk, os⟩ ∧ F i c ∧ St g L (it :: D) (fun h => ItIs h it d i kvs.length ep ∧ P i c h) h (ls i c) :=
      ⟨kvs.length - (i + 1), by lia, i + 1, c', h', tk', rfl, hlt, rfl, hF', S'⟩
    rcases hf with rfl | rfl <;> exact this
end
abbrev DictI (prog : Program) (w : World) (h : Heap) (d : Addr) (kvs : List (Int × Value)) : Prop := h.DictOf (intKind prog w) d kvs
theorem Base.low {mg mb : Str → Option Value} {fa : Nat → Addr} {g : Heap} (B : Base mg mb fa g) : sysModules < g.objs.size := by
  obtain ⟨o, _, _, ho, _⟩ := B.gns
  exact Nat.lt_trans (by decide : sysModules < mainGlobals) (Heap.lt_size ho)
theorem ne_sys {d : Addr} (h : sysModules < d) : (d == sysModules) = false := beq_false_of_ne (Nat.ne_of_gt h)
theorem Base.size_le {mg mb : Str → Option Value} {fa : Nat → Addr} {g h : Heap} (B : Base mg mb fa g) (k : Le g h) : sysModules < h.objs.size := (B.up k).low
theorem keys_app {kvs : List (Int × Value)} {k : Int} {v : Value} (h : k ∉ kvs.map (·.1)) : stored kvs k v = kvs ++ [(k, v)] := by
  unfold stored
  rw [if_neg]
  simp only [List.any_eq_true, decide_eq_true_eq, not_exists, not_and]
  intro p hp e
  exact h (e ▸ List.mem_map_of_mem hp)
theorem valueAt_none {kvs : List (Int × Value)} {k : Int} (h : k ∉ kvs.map (·.1)) : valueAt kvs k = none := by
  unfold valueAt
  rw [List.find?_eq_none.mpr]
  · rfl
  · intro p hp e
    simp only [decide_eq_true_eq] at e
    exact h (e ▸ List.mem_map_of_mem hp)
section
variable {prog : Program} {w : World} {A : Around} {E : Value → Shared → Prop} {Q : Value → Shared → Prop} {h : Heap} {gn : Array GenState} {dr : Drawn} {tk : Nat} {os : OsState} {env : Env} {d : Addr} {kvs : List (Int × Value)} {k : Int} {t : Tok} {v : Value}
theorem dictI_dep {h h' : Heap} (x : DictI prog w h d kvs) (k : ∀ o, h.get? d = some o → h'.get? d = some o) : DictI prog w h' d kvs := x.at k
theorem dictI_lt (x : DictI prog w h d kvs) : d < h.objs.size := by
  obtain ⟨o, _, _, ho, _⟩ := x
  exact Heap.lt_size ho
theorem dictI_nodup (x : DictI prog w h d kvs) : (kvs.map (·.1)).Nodup := by
  obtain ⟨o, _, _, _, _, _, _, _, hn⟩ := x
  exact hn
theorem r_inD (hd : (d == sysModules) = false) (hm : DictI prog w h d kvs) (q : ∀ tk', Q (.bool (valueAt kvs k).isSome) ⟨h, gn, dr, tk', os⟩) :
    wpAny (model prog w) A (compareOp .In (.int k t) (.ref d)) Q E ⟨h, gn, dr, tk, os⟩ := wpAny_in_of (s := ⟨h, gn, dr, tk, os⟩) is_int hd hm.mapOf (q _)
theorem r_notInD (hd : (d == sysModules) = false) (hm : DictI prog w h d kvs) (q : ∀ tk', Q (.bool (!(valueAt kvs k).isSome)) ⟨h, gn, dr, tk', os⟩) :
    wpAny (model prog w) A (compareOp .NotIn (.int k t) (.ref d)) Q E ⟨h, gn, dr, tk, os⟩ := wpAny_notIn_of (s := ⟨h, gn, dr, tk, os⟩) is_int hd hm.mapOf (q _)
theorem r_setD {Q : Unit → Shared → Prop} (hm : DictI prog w h d kvs) (hsz : kvs.length < 2 ^ 20) (q : ∀ h' tk', DictI prog w h' d (stored kvs k v) → Heap.SameBut d h h' → Q () ⟨h', gn, dr, tk', os⟩) :
    wpAny (model prog w) A (setItem (.ref d) (.int k t) v) Q E ⟨h, gn, dr, tk, os⟩ := wpAny_setItem_pairs (s := ⟨h, gn, dr, tk, os⟩) is_int hm (fun h' a b => q h' _ a b) (by rw [sizeLine_eq]; lia)
theorem e_items {o : PySem.Expr} {apos pos : Pos} (hdS : (d == sysModules) = false) (hm : DictI prog w h d kvs)
    (ho : ∀ Q', Q' (.ref d) ⟨h, gn, dr, tk, os⟩ → wpAny (model prog w) A (eval o env) Q' E ⟨h, gn, dr, tk, os⟩)
    (q : ∀ h' v', h'.IsItemsView v' d → Le h h' → Q (.ref v') ⟨h', gn, dr, tk, os⟩)
    (hbase : attributeBase o "items" env (eval o env) = eval o env := by kernel_rfl) (hline : (apos.endLine == pos.line) = true := by kernel_rfl) :
    wpAny (model prog w) A (eval (.Call (.Attribute o "items" apos) [] [] pos) env) Q E ⟨h, gn, dr, tk, os⟩ :=
  wpAny_Call_items (s := ⟨h, gn, dr, tk, os⟩) hdS hm hbase hline ho (q _ _ ⟨_, Heap.get?_push_size _ rfl, rfl, rfl⟩ (Le.push _ _))
theorem r_iterItems {g : Heap} {L : Addr} {D : List Addr} {P : Heap → Prop} {ls : List (Str × Value)} {v' : Addr} {ep : Nat} (S : St g L D P h ls) (hv : h.IsItemsView v' d) (hm : g.DictAt (intKind prog w) d kvs ep)
    (q : ∀ h' it, it ∉ D → St g L (it :: D) (fun h => ItIs h it d 0 kvs.length ep ∧ P h) h' ls → Q (.ref it) ⟨h', gn, dr, tk, os⟩) (hD : ∀ d ∈ D, d < h.objs.size) :
    wpAny (model prog w) A (pyIter (.ref v')) Q E ⟨h, gn, dr, tk, os⟩ := by
  refine wpAny_pyIter_items (s := ⟨h, gn, dr, tk, os⟩) hv (S.keep.dictAt hm) ?_
  exact q _ _ (fun hx => Nat.lt_irrefl _ (hD _ hx)) (S.fresh (P₁ := fun h' => ItIs h' h.objs.size d 0 kvs.length ep) _ rfl (fun _ e => ⟨_, _, e⟩) rfl itIs_dep)
end
section
variable {prog : Program} {w : World} {A : Around} {E : Value → Shared → Prop} {mg mb : Str → Option Value} {fa : Nat → Addr} {g : Heap} {Q : Value → Shared → Prop} {h₀ : Heap} {gn : Array GenState} {dr : Drawn} {tk₀ : Nat} {os : OsState}
theorem add_callers_spec {td sd : Addr} {tkv skv : List (Int × Value)}
    (B : Base mg mb fa g) (k : Le g h₀) (ht : DictI prog w h₀ td tkv) (hs : DictI prog w h₀ sd skv) (htS : (td == sysModules) = false) (hsS : (sd == sysModules) = false)
    (hdis : ∀ x ∈ skv.map (·.1), x ∉ tkv.map (·.1)) (hlt : tkv.length + skv.length < 2 ^ 20)
    (hh : A.handled = none) (hd : A.depth + 1 < recursionLimit) (hu : A.units + 32 < cLine)
    (q : ∀ h' tk nd, h₀.objs.size ≤ nd → DictI prog w h' nd (tkv ++ skv) → Le h₀ h' → Q (.ref nd) ⟨h', gn, dr, tk, os⟩) :
    wpAny (model prog w) A (call (.ref (fa 10)) [.ref td, .ref sd]) Q E ⟨h₀, gn, dr, tk₀, os⟩ := by
  refine call_fn 10 (binds := [("target", .ref td), ("source", .ref sd)]) B k (by lia) rfl (fun h₁ cd tk₁ hns hk₁ => ?_)
  have S := St.enter (D := []) (P := fun _ => True) hns hk₁ (by simp) (fun _ _ _ _ => trivial) trivial
  have hback := fun h' => @hide_back h₀ h' []
  simp only [hideAll] at S hback
  have BG : Base mg mb fa h₀ := B.up k
  have hLe : h₀.objs.size ≤ h₀.objs.size := Nat.le_refl _
  generalize hL : h₀.objs.size = L at S ⊢
  obtain ⟨ep1, ht'⟩ := ht.dictAt
  obtain ⟨ep2, hs'⟩ := hs.dictAt
  walk_at "mw"
  refine wpAny_Dict_empty (s := ⟨h₁, gn, dr, tk₁, os⟩) ?_
  have S₂ := S.fresh (P₁ := fun h => DictI prog w h h₁.objs.size []) { cls := .type "dict", data := .dict #[] } rfl (fun h e => ⟨_, _, _, e, ⟨rfl, rfl, rfl⟩, rfl, by intro e he; simp at he, .nil, List.nodup_nil⟩) rfl (fun _ _ x k => x.at k)
  have hnd : L ≤ h₁.objs.size := Nat.le_of_lt S.lt
  generalize h₁.objs.size = nd at S₂ hnd ⊢
  refine r_st S₂ fun h₃ tk₃ S₃ _ => ?_
  have dep : ∀ (kvs : List (Int × Value)) (h h' : Heap), (DictI prog w h nd kvs ∧ True) → (∀ d ∈ [nd], ∀ o, h.get? d = some o → h'.get? d = some o) → (DictI prog w h' nd kvs ∧ True) := fun kvs h h' x k => ⟨x.1.at (k nd (.head _)), trivial⟩
  have take_next : ∀ {l : List (Int × Value)} {i : Nat} {p : Int × Value}, l[i]? = some p → l.take (i + 1) = l.take i ++ [p] := fun e => by rw [List.take_add_one, e]; rfl
  have fresh_key : ∀ {l : List (Int × Value)} {i : Nat} {p : Int × Value}, (l.map (·.1)).Nodup → l[i]? = some p → p.1 ∉ (l.take i).map (·.1) := fun {l i p} hn e hm => by
    obtain ⟨hi, e⟩ := List.getElem?_eq_some_iff.mp e
    obtain ⟨r, hr, e2⟩ := List.mem_map.mp hm
    obtain ⟨j, hj, e3⟩ := List.mem_iff_getElem.mp hr
    rw [List.length_take] at hj
    rw [List.getElem_take] at e3
    have := (List.pairwise_iff_getElem.mp hn) j i (by simp; lia) (by simp; lia) (by lia)
    simp [e3, e, e2] at this
  walk_at "mw"
  refine wpAny_For ?_ (by intro _; rfl)
  refine e_items htS (ht.keep S₃.keep) (fun Q' hq => r_ld S₃ rfl hq) fun h₄ v₄ hv₄ k₄ => ?_
  have S₄ := S₃.grow k₄
  refine r_iterItems S₄ hv₄ ht' (fun h₅ it hit S₅ => ?_) (by simpa using dictI_lt S₄.here.1)
  refine for_items (D := [nd]) (σ := Unit) (P := fun i _ h => DictI prog w h nd (tkv.take i) ∧ True) (ls := fun _ _ => [("new_callers", .ref nd), ("source", .ref sd)]) (F := fun _ _ => True) () hh hit ht' (S₅.less ⟨rfl, rfl, trivial⟩) trivial (fun _ _ => dep _) ?_ ?_
  · rintro i c h tk x v t hx _ S
    walk_at "mw"
    refine r_setD S.here.2.1 (by simp; lia) fun h' tk' hm' hs' => ?_
    rw [keys_app (fresh_key (dictI_nodup ht) hx), ← take_next hx] at hm'
    have S' := S.same (P' := fun h => ItIs h it td (i + 1) tkv.length ep1 ∧ DictI prog w h nd (tkv.take (i + 1)) ∧ True) (by simp : nd ∈ [it, nd]) hs' ⟨itIs_dep _ _ S.here.1 fun o e => (hs'.2 it (by simpa using hit)).trans e, hm', trivial⟩
      (fun h h' x k => ⟨itIs_dep h h' x.1 (k it (.head _)), dep _ h h' x.2 fun d hd => k d (.tail _ hd)⟩)
    walk_at "mw"
    exact ⟨.inl rfl, h', _, (), rfl, trivial, S'.less (l := [("new_callers", .ref nd), ("source", .ref sd)]) ⟨rfl, rfl, trivial⟩⟩
  rintro c h tk _ S₆
  rw [List.take_length] at S₆
  dsimp only
  walk_at "mw"
  refine wpAny_For ?_ (by intro _; rfl)
  refine e_items hsS (hs.keep S₆.keep) (fun Q' hq => r_ld S₆ rfl hq) fun h₇ v₇ hv₇ k₇ => ?_
  have S₇ := S₆.grow k₇
  refine r_iterItems S₇ hv₇ hs' (fun h₈ it hit S₈ => ?_) (by simpa using dictI_lt S₇.here.1)
  refine for_items (D := [nd]) (σ := Unit) (P := fun i _ h => DictI prog w h nd (tkv ++ skv.take i) ∧ True) (ls := fun _ _ => [("new_callers", .ref nd)]) (F := fun _ _ => True) () hh hit hs' (by simpa using S₈.less (l := [("new_callers", .ref nd)]) ⟨rfl, trivial⟩) trivial (fun _ _ => dep _) ?_ ?_
  · rintro i c h tk x v t hx _ S
    have hxk : x ∉ (tkv ++ skv.take i).map (·.1) := by
      rw [List.map_append]
      intro hm
      rcases List.mem_append.mp hm with hm | hm
      · exact hdis x (List.mem_map_of_mem (List.mem_of_getElem? hx)) hm
      · exact fresh_key (dictI_nodup hs) hx hm
    walk_at "mw"
    refine r_inD (ne_sys (Nat.lt_of_lt_of_le BG.low (hL ▸ hnd))) S.here.2.1 fun tk' => ?_
    rw [valueAt_none hxk]
    walk_at "mw"
    refine i_ff (X := _) ?_
    walk_at "mw"
    refine r_setD S.here.2.1 (by simp; lia) fun h' tk' hm' hs' => ?_
    rw [keys_app hxk, List.append_assoc, ← take_next hx] at hm'
    have S' := S.same (P' := fun h => ItIs h it sd (i + 1) skv.length ep2 ∧ DictI prog w h nd (tkv ++ skv.take (i + 1)) ∧ True) (by simp : nd ∈ [it, nd]) hs' ⟨itIs_dep _ _ S.here.1 fun o e => (hs'.2 it (by simpa using hit)).trans e, hm', trivial⟩
      (fun h h' x k => ⟨itIs_dep h h' x.1 (k it (.head _)), dep _ h h' x.2 fun d hd => k d (.tail _ hd)⟩)
    walk_at "mw"
    exact ⟨.inl rfl, h', _, (), rfl, trivial, S'.less (l := [("new_callers", .ref nd)]) ⟨rfl, trivial⟩⟩
  rintro c h tk _ S₉
  rw [List.take_length] at S₉
  dsimp only
  walk_at "mw"
  exact q h _ nd (hL ▸ hnd) S₉.here.1 S₉.keep
end
section
variable {prog : Program} {w : World} {A : Around} {E : Value → Shared → Prop} {h : Heap} {gn : Array GenState} {dr : Drawn} {tk : Nat} {os : OsState} {env : Env}
theorem r_unpack {elts : List PySem.Expr} {x1 : Nat} {pos : Pos} {t : Addr} {items : Array Value} {Q : Unit → Shared → Prop} (hh : A.handled = none) (ht : h.IsTuple t items)
    (q : ∀ h', Le h h' → wpAny (model prog w) A (assignInOrder ((assignEach elts env).map (·.2)) items.toList) Q E ⟨h', gn, dr, tk, os⟩)
    (hn : (assignEach elts env).length = items.size := by kernel_rfl) (hstar : (assignEach elts env).findIdx? (·.1) = none := by kernel_rfl) :
    wpAny (model prog w) A (assign (.Tuple elts x1 pos) env (.ref t)) Q E ⟨h, gn, dr, tk, os⟩ :=
  wpAny_assign_Tuple (s := ⟨h, gn, dr, tk, os⟩) hh ht hn hstar fun h' hx => q h' fun b o e => hx b o (Nat.ne_of_lt (Heap.lt_size e)) e
theorem r_tuple {items : List Value} {Q : Value → Shared → Prop} (hs : items.length ≤ sizeLine) (q : ∀ h' a, h.objs.size ≤ a → h'.IsTuple a items.toArray → Le h h' → Q (.ref a) ⟨h', gn, dr, tk, os⟩) :
    wpAny (model prog w) A (newTuple items) Q E ⟨h, gn, dr, tk, os⟩ :=
  wpAny_newObj_type (s := ⟨h, gn, dr, tk, os⟩) (q _ _ (Nat.le_refl _) ⟨_, Heap.get?_push_size _ rfl, rfl, _, rfl⟩ (Le.push _ _)) (by show items.toArray.size ≤ sizeLine; simpa using hs)
end
/-- a dict's pairs hold these ints -/
inductive Ivs : List (Int × Value) → List (Int × Int) → Prop
  | nil : Ivs [] []
  | cons {k v : Int} {t : Tok} {kvs : List (Int × Value)} {cs : List (Int × Int)} : Ivs kvs cs → Ivs ((k, .int v t) :: kvs) ((k, v) :: cs)
theorem Ivs.app {a b : List (Int × Value)} {x y : List (Int × Int)} (h : Ivs a x) (k : Ivs b y) : Ivs (a ++ b) (x ++ y) := by
  induction h with
  | nil => exact k
  | cons _ ih => exact .cons ih
theorem Ivs.keys {a : List (Int × Value)} {x : List (Int × Int)} (h : Ivs a x) : a.map (·.1) = x.map (·.1) := by
  induction h with
  | nil => rfl
  | cons _ ih => simp [ih]
theorem Ivs.length {a : List (Int × Value)} {x : List (Int × Int)} (h : Ivs a x) : a.length = x.length := by
  induction h with
  | nil => rfl
  | cons _ ih => simp [ih]
/-- a row of the stats: four ints and the callers -/
structure Sta where
  cc : Int
  nc : Int
  tt : Int
  ct : Int
  cs : List (Int × Int)
/-- v is such a row; its objects lie at N or above -/
def StaAt (prog : Program) (w : World) (N : Nat) (h : Heap) (v : Value) (x : Sta) : Prop := ∃ a d t1 t2 t3 t4 kvs, v = .ref a ∧ N ≤ a ∧ N ≤ d ∧ h.IsTuple a #[.int x.cc t1, .int x.nc t2, .int x.tt t3, .int x.ct t4, .ref d] ∧
  DictI prog w h d kvs ∧ Ivs kvs x.cs ∧ (d == sysModules) = false
theorem StaAt.on {prog : Program} {w : World} {N : Nat} {g h : Heap} {v : Value} {x : Sta} (s : StaAt prog w N g v x) (k : ∀ b o, N ≤ b → g.get? b = some o → h.get? b = some o) : StaAt prog w N h v x := by
  obtain ⟨a, d, t1, t2, t3, t4, kvs, e, ha, hd', ⟨o, ho, r⟩, hd, r'⟩ := s
  exact ⟨a, d, t1, t2, t3, t4, kvs, e, ha, hd', ⟨o, k a o ha ho, r⟩, hd.at (fun o => k d o hd'), r'⟩
theorem StaAt.up {prog : Program} {w : World} {N : Nat} {g h : Heap} {v : Value} {x : Sta} (s : StaAt prog w N g v x) (k : Le g h) : StaAt prog w N h v x := s.on fun b o _ => k b o
theorem StaAt.low {prog : Program} {w : World} {N n : Nat} {h : Heap} {v : Value} {x : Sta} (s : StaAt prog w N h v x) (k : n ≤ N) : StaAt prog w n h v x := by
  obtain ⟨a, d, t1, t2, t3, t4, kvs, e, ha, hd, r⟩ := s
  exact ⟨a, d, t1, t2, t3, t4, kvs, e, Nat.le_trans k ha, Nat.le_trans k hd, r⟩
section
variable {prog : Program} {w : World} {A : Around} {E : Value → Shared → Prop} {mg mb : Str → Option Value} {fa : Nat → Addr} {g : Heap} {Q : Value → Shared → Prop} {h₀ : Heap} {gn : Array GenState} {dr : Drawn} {tk₀ : Nat} {os : OsState}
theorem add_stats_spec {tv sv : Value} {x y : Sta} {N₁ N₂ : Nat}
    (B : Base mg mb fa g) (k : Le g h₀) (hx : StaAt prog w N₁ h₀ tv x) (hy : StaAt prog w N₂ h₀ sv y)
    (hdis : ∀ c ∈ y.cs.map (·.1), c ∉ x.cs.map (·.1)) (hlt : x.cs.length + y.cs.length < 2 ^ 20)
    (hh : A.handled = none) (hd : A.depth + 2 < recursionLimit) (hu : A.units + 64 < cLine)
    (q : ∀ h' tk v, StaAt prog w h₀.objs.size h' v ⟨y.cc + x.cc, y.nc + x.nc, y.tt + x.tt, y.ct + x.ct, x.cs ++ y.cs⟩ → Le h₀ h' → Q v ⟨h', gn, dr, tk, os⟩) :
    wpAny (model prog w) A (call (.ref (fa 9)) [tv, sv]) Q E ⟨h₀, gn, dr, tk₀, os⟩ := by
  obtain ⟨xa, xd, x1, x2, x3, x4, xkv, rfl, _, _, hxt, hxd, hxi, hxs⟩ := hx
  obtain ⟨ya, yd, y1, y2, y3, y4, ykv, rfl, _, _, hyt, hyd, hyi, hys⟩ := hy
  refine call_fn 9 (binds := [("target", .ref xa), ("source", .ref ya)]) B k (by lia) rfl (fun h₁ cd tk₁ hns hk₁ => ?_)
  have S := St.enter (D := []) (P := fun _ => True) hns hk₁ (by simp) (fun _ _ _ _ => trivial) trivial
  simp only [hideAll] at S
  have BG : Base mg mb fa h₀ := B.up k
  generalize hL : h₀.objs.size = L at S ⊢
  walk_at "mw"
  refine Assign_Tuple ?_ (by kernel_rfl)
  walk_at "mw"
  refine r_unpack hh (S.keep.tuple hyt) fun h₂ k₂ => ?_
  have S₂ := S.grow k₂
  walk_at "mm"
  refine Assign_Tuple ?_ (by kernel_rfl)
  walk_at "mw"
  have S₃ := ‹St _ _ _ _ _ _›
  refine r_unpack hh (S₃.keep.tuple hxt) fun h₄ k₄ => ?_
  have S₄ := S₃.grow k₄
  walk_at "mm"
  have S₅ := ‹St _ _ _ _ _ _›
  refine e_fn 10 BG S₅.keep ?_
  walk_at "mm"
  refine ⟨S₅.keep, ?_⟩
  refine add_callers_spec BG S₅.keep (hxd.keep S₅.keep) (hyd.keep S₅.keep) hxs hys (by rw [hxi.keys, hyi.keys]; exact hdis) (by rw [hxi.length, hyi.length]; exact hlt) hh (by show A.depth + 1 + 1 < _; lia) (by show A.units + 3 + 32 < _; lia) fun h₆ tk₆ nd hnd hm k₆ => ?_
  walk_at "mm"
  refine r_tuple (by rw [sizeLine_eq]; simp) fun h₇ a ha ht k₇ => ?_
  have hLn : L ≤ nd := Nat.le_trans (Nat.le_of_lt S₅.lt) hnd
  have hLa : L ≤ a := Nat.le_trans (Nat.le_of_lt (S₅.grow k₆).lt) ha
  refine q h₇ _ _ ⟨a, nd, _, _, _, _, _, rfl, hL ▸ hLa, hL ▸ hLn, ht, hm.keep k₇, hxi.app hyi, ne_sys (Nat.lt_of_lt_of_le (BG.size_le S₅.keep) hnd)⟩ ((S₅.keep.trans k₆).trans k₇)
end
/-- an iterator at it, over what g holds -/
structure Wk (prog : Program) (w : World) (A : Around) (g : Heap) (it : Addr) (n : Nat) (Pv : Nat → Value → Prop) (OI : Nat → Heap → Prop) : Prop where
  item : ∀ i h gn dr tk os (Q : Option Value → Shared → Prop) (E : Value → Shared → Prop), i < n → Le g h → OI i h →
    (∀ v h' tk', Pv i v → OI (i + 1) h' → (∀ b o, b ≠ it → h.get? b = some o → h'.get? b = some o) → Q (some v) ⟨h', gn, dr, tk', os⟩) → wpAny (model prog w) A (pyNext (.ref it)) Q E ⟨h, gn, dr, tk, os⟩
  done : ∀ h gn dr tk os (Q : Option Value → Shared → Prop) (E : Value → Shared → Prop), Le g h → OI n h →
    (∀ h' tk', (∀ b o, b ≠ it → h.get? b = some o → h'.get? b = some o) → Q none ⟨h', gn, dr, tk', os⟩) → wpAny (model prog w) A (pyNext (.ref it)) Q E ⟨h, gn, dr, tk, os⟩
  self : ∀ i h gn dr tk os (Q : Value → Shared → Prop) (E : Value → Shared → Prop), Le g h → OI i h → Q (.ref it) ⟨h, gn, dr, tk, os⟩ → wpAny (model prog w) A (pyIter (.ref it)) Q E ⟨h, gn, dr, tk, os⟩
  dep : ∀ i h h', OI i h → (∀ o, h.get? it = some o → h'.get? it = some o) → OI i h'
theorem Wk.of {prog : Program} {w : World} {A : Around} {g : Heap} {it : Addr} {n : Nat} {Pv : Nat → Value → Prop} {OI : Nat → Heap → Prop} {fp : List Addr} {SI : Nat → Heap → Prop} (W : Walks prog w A it fp [it] n Pv SI)
    (o1 : ∀ i h, SI i h → OI i h) (o2 : ∀ i h, Le g h → OI i h → SI i h) (o3 : ∀ i h h', OI i h → (∀ o, h.get? it = some o → h'.get? it = some o) → OI i h') : Wk prog w A g it n Pv OI where
  item := fun i h gn dr tk os Q E hi k o q => W.item i ⟨h, gn, dr, tk, os⟩ Q E hi (o2 i h k o) fun v h' tk' hv st kb => q v h' tk' hv (o1 _ _ st) fun b o hb e => kb b o (by simpa using hb) e
  done := fun h gn dr tk os Q E k o q => W.done ⟨h, gn, dr, tk, os⟩ Q E (o2 n h k o) fun h' tk' kb => q h' tk' fun b o hb e => kb b o (by simpa using hb) e
  self := fun i h gn dr tk os Q E k o q => W.self i ⟨h, gn, dr, tk, os⟩ Q E (o2 i h k o) q
  dep := o3
theorem Wk.up {prog : Program} {w : World} {A : Around} {g g' : Heap} {it : Addr} {n : Nat} {Pv : Nat → Value → Prop} {OI : Nat → Heap → Prop} (W : Wk prog w A g it n Pv OI) (k : Le g g') : Wk prog w A g' it n Pv OI where
  item := fun i h gn dr tk os Q E hi k' o q => W.item i h gn dr tk os Q E hi (k.trans k') o q
  done := fun h gn dr tk os Q E k' o q => W.done h gn dr tk os Q E (k.trans k') o q
  self := fun i h gn dr tk os Q E k' o q => W.self i h gn dr tk os Q E (k.trans k') o q
  dep := W.dep
section
variable {prog : Program} {w : World} {A : Around} {g : Heap} {it : Addr}
theorem Wk.values (hh : A.handled = none) {d : Addr} {kvs : List (Int × Value)} {ep : Nat} (hd : g.DictAt (intKind prog w) d kvs ep) (hne : d ≠ it) :
    Wk prog w A g it kvs.length (fun i v => ∃ k, kvs[i]? = some (k, v)) (fun i h => h.IsValIter it d i kvs.length ep) :=
  Wk.of (Walks.dictValues hh it d hne kvs ep) (fun _ _ x => x.1) (fun _ _ k x => ⟨x, k.dictAt hd⟩) (fun _ _ _ x k => let ⟨o, ho, r⟩ := x; ⟨o, k _ ho, r⟩)
theorem Wk.keys (hh : A.handled = none) {d : Addr} {kvs : List (Int × Value)} {ep : Nat} (hd : g.DictAt (intKind prog w) d kvs ep) (hne : d ≠ it) :
    Wk prog w A g it kvs.length (fun i v => ∃ p t, kvs[i]? = some p ∧ v = .int p.1 t) (fun i h => h.IsKeyIter it d i kvs.length ep) := by
  have W := Wk.of (g := g) (OI := fun i h => h.IsKeyIter it d i kvs.length ep) (Walks.dictKeys (knd := intKind prog w) hh it d hne kvs ep) (fun _ _ x => x.1) (fun _ _ k x => ⟨x, k.dictAt hd⟩) (fun _ _ _ x k => let ⟨o, ho, r⟩ := x; ⟨o, k _ ho, r⟩)
  refine ⟨fun i h gn dr tk os Q E hi k o q => W.item i h gn dr tk os Q E hi k o fun v h' tk' hv => ?_, W.done, W.self, W.dep⟩
  obtain ⟨k, x, hx, hk⟩ := hv
  obtain ⟨t, rfl⟩ := int_is hk
  exact q _ h' tk' ⟨_, t, hx, rfl⟩
theorem Wk.list (hh : A.handled = none) {l : Addr} {items : Array Value} (hl : g.IsList l items) (hne : l ≠ it) :
    Wk prog w A g it items.size (fun i v => items[i]? = some v) (fun i h => h.IsListIter it l i) :=
  Wk.of (Walks.list hh it l hne items) (fun _ _ x => x.1) (fun _ _ k x => ⟨x, k.list hl⟩) (fun _ _ _ x k => let ⟨o, ho, r⟩ := x; ⟨o, k _ ho, r⟩)
theorem Wk.range (hh : A.handled = none) (a : Int) (n : Nat) :
    Wk prog w A g it n (fun i v => ∃ t, v = .int (a + i) t) (fun i h => IsRangeIter h it (a + i) ((n : Int) - i) 1) := by
  have W := Wk.of (g := g) (OI := fun i h => IsRangeIter h it (a + (i : Nat) * 1) ((n : Int) - (i : Nat)) 1) (Walks.range (prog := prog) (w := w) hh it a 1 n) (fun _ _ x => x) (fun _ _ _ x => x) (fun _ _ _ x k => k _ x)
  simpa only [Int.mul_one] using W
end
section
variable {g h h' : Heap} {L : Addr} {D : List Addr} {P P' : Heap → Prop} {ls l : List (Str × Value)}
/-- all becomes known for good, but for the frame and those at D' -/
theorem St.re (S : St g L D P h ls) (D' : List Addr) (P' : Heap → Prop) (hp : P' h) (dep' : ∀ h h', P' h → (∀ d ∈ D', ∀ o, h.get? d = some o → h'.get? d = some o) → P' h') (hD' : ∀ d ∈ D', d ≠ L ∧ g.get? d = none) :
    ∃ g', Le g g' ∧ (∀ b o, b ≠ L → b ∉ D' → h.get? b = some o → g'.get? b = some o) ∧ St g' L D' P' h ls := by
  refine ⟨hideAll h (L :: D'), ?_, ?_, ?_⟩
  · intro b o e
    refine hideAll_get _ (S.keep b o e) fun q => ?_
    rcases List.mem_cons.mp q with q | q
    · subst q; rw [S.offL] at e; cases e
    · rw [(hD' b q).2] at e; cases e
  · intro b o h1 h2 e
    exact hideAll_get _ e fun q => (List.mem_cons.mp q).elim h1 h2
  · exact { loc := S.loc, keep := fun b o e => of_hideAll _ e, offL := hideAll_none _ (.head _), offD := fun d hd => ⟨hideAll_none _ (.tail _ hd), (hD' d hd).1⟩, dep := dep', here := hp }
/-- another object, apart from all that is known, has changed -/
theorem St.off {c : Addr} (S : St g L D P h ls) (hs : Heap.SameBut c h h') (h1 : c ≠ L) (h2 : c ∉ D) (h3 : g.get? c = none) : St g L D P h' ls where
  loc := S.loc.same h1 hs
  keep := S.keep.of_same h3 hs
  offL := S.offL
  offD := S.offD
  dep := S.dep
  here := S.dep _ _ S.here fun d hd o e => (hs.2 d (fun q => h2 (q ▸ hd))).trans e
theorem cell_dep {c : Addr} {v : Option Value} {h h' : Heap} (x : h.IsCell c v) (k : ∀ o, h.get? c = some o → h'.get? c = some o) : h'.IsCell c v := let ⟨o, ho, r⟩ := x; ⟨o, k _ ho, r⟩
end
section
variable {M : Model} {A : Around} {E : Value → Shared → Prop} {env : Env} {Q : Value → Shared → Prop} {h : Heap} {gn : Array GenState} {dr : Drawn} {tk : Nat} {os : OsState}
theorem r_ldC {x : Str} {pos : Pos} {c : Addr} {v : Value} (hv : h.IsCell c (some v)) (q : Q v ⟨h, gn, dr, tk, os⟩) (hc : env.cells.lookup x = some c := by kernel_rfl)
    (hk : env.scope.kind = .function := by kernel_rfl) (hl : env.kindOf x = some .cell := by kernel_rfl) (hd : (x == ("__debug__" : Str)) = false := by kernel_rfl) :
    wpAny M A (eval (.Name x pos) env) Q E ⟨h, gn, dr, tk, os⟩ := wpAny_Name (wpAny_loadName_cell (s := ⟨h, gn, dr, tk, os⟩) hk hl hc hv q) hd
theorem r_stC {x : Str} {c : Addr} {v₀ : Option Value} {v : Value} {Q : Unit → Shared → Prop} (hv : h.IsCell c v₀) (q : ∀ h', h'.IsCell c (some v) → Heap.SameBut c h h' → Q () ⟨h', gn, dr, tk, os⟩) (hc : env.cells.lookup x = some c := by kernel_rfl)
    (hk : env.scope.kind = .function := by kernel_rfl) (hl : env.kindOf x = some .cell := by kernel_rfl) :
    wpAny M A (storeName env x v) Q E ⟨h, gn, dr, tk, os⟩ := wpAny_storeName_cell (s := ⟨h, gn, dr, tk, os⟩) hk hl hc hv q
end
/-- a call of a def of the text that has cells -/
theorem call_fnC {prog : Program} {w : World} {A : Around} {E : Value → Shared → Prop} {h : Heap} {gn : Array GenState} {dr : Drawn} {tk : Nat} {os : OsState} {Q : Value → Shared → Prop} {mg mb : Str → Option Value} {fa : Nat → Addr} {g : Heap} (i : Nat) {args : List Value} {binds : List (Str × Value)} {st : Stmt} {rest : List Stmt}
    (B : Base mg mb fa g) (k : Le g h) (hroom : A.depth < recursionLimit) (hbody : (fn i).body = st :: rest)
    (q : ∀ h₁ cd tk₁, h₁.Ns h.objs.size (bindL (envOfC (fn i).name (fn i).scope h.objs.size (fa i) cd).kindOf binds fun _ => none) → Le h h₁ →
      (∀ n c, (cellsFrom (h.objs.size + 1) (fn i).scope.names []).lookup n = some c → h₁.IsCell c (bindC (envOfC (fn i).name (fn i).scope h.objs.size (fa i) cd).kindOf binds (fun _ => none) n)) →
      wpAny (model prog w) (A.deeper (envOfC (fn i).name (fn i).scope h.objs.size (fa i) cd)) (execs (st :: rest) (envOfC (fn i).name (fn i).scope h.objs.size (fa i) cd))
        (fun f s' => Q (match f with | .ret v => v | _ => .none) s') (fun _ _ => False) ⟨h₁, gn, dr, tk₁, os⟩)
    (hbind : ∀ pm cd doc, bindArgs (Calls.docDef (fn i).name (fn i).params (fn i).body (fn i).scope pm cd doc) ⟨args, []⟩ = pure binds := by intro _ _ _; kernel_rfl)
    (hkind : (binds.all fun y => (fn i).scope.names.lookup y.1 == some .local || (fn i).scope.names.lookup y.1 == some .cell) = true := by kernel_rfl)
    (hi : i ∈ fnIdx := by decide)
    (hco : (fn i).scope.isCoroutine = false := by kernel_rfl) (hgen : (fn i).scope.isGenerator = false := by kernel_rfl) (hk : (fn i).scope.kind = .function := by kernel_rfl) :
    wpAny (model prog w) A (call (.ref (fa i)) args) Q E ⟨h, gn, dr, tk, os⟩ := by
  obtain ⟨o, pm, cd, doc, ho, hd, hcd⟩ := (B.fn i hi).2
  refine wpAny_call (call_cells_ret (s := ⟨h, gn, dr, tk, os⟩) (R := fun r s' => match r with | .ok (.ret v) => Q v s' | .ok _ => False | .error e => E e s') hroom (k _ _ ho) hd (B.lim.keeps k) (hcd.keeps k) (hbind pm cd doc) (kindsX hkind _) (fun h₁ tk₁ F X => hbody ▸ q h₁ cd tk₁ F.ns F.keep X.cell) hco hgen hk)
/-- the turns that a comprehension keeps -/
def kept (pt : Nat → Bool) (i : Nat) : List Nat := (List.range i).filter pt
theorem kept_succ (pt : Nat → Bool) (i : Nat) : kept pt (i + 1) = if pt i then kept pt i ++ [i] else kept pt i := by
  unfold kept
  rw [List.range_succ, List.filter_append]
  cases h : pt i <;> simp [h]
def Made (pt : Nat → Bool) (Pv : Nat → Value → Prop) (Y : Nat → Value → Value → Heap → Prop) (i : Nat) (ys : List Value) (h : Heap) : Prop :=
  ys.length = (kept pt i).length ∧ ∀ (k : Nat) (y : Value) (j : Nat), ys[k]? = some y → (kept pt i)[k]? = some j → ∃ v, Pv j v ∧ Y j v y h
section
variable {prog : Program} {w : World} {A : Around} {E : Value → Shared → Prop} {h : Heap} {gn : Array GenState} {dr : Drawn} {tk : Nat} {os : OsState} {env : Env} {Q : Value → Shared → Prop}
/-- a list comprehension over one source: what each turn makes -/
theorem comp_turnsR {RR : Value → Addr → Result → Shared → Prop} {elt iter : PySem.Expr} {x : Str} {px : Pos} {ifs : List PySem.Expr} {scope : Scope} {cl : List (Str × Addr)} {pos : Pos} {it : Addr} {n : Nat} {Pv : Nat → Value → Prop} {OI : Nat → Heap → Prop} {h₂ : Heap} {tk₂ : Nat}
    (TP : Nat → Prop) (hTP : ∀ t, TP (t + 1)) (pt : Nat → Bool) (Y : Nat → Value → Value → Heap → Prop) (hn : n ≤ 2 ^ 20) (hit : it < h₂.objs.size) (h0 : OI 0 h₂) (W : Wk prog w A (hideAll h₂ [it]) it n Pv OI)
    (ymono : ∀ j v y h h', Y j v y h → (∀ b o, b ≠ it → b ≠ h₂.objs.size → b ≠ h₂.objs.size + 1 → h.get? b = some o → h'.get? b = some o) → Y j v y h')
    (tests : ∀ i v ys h₃ tk₃ (Q : Bool → Shared → Prop) (E : Value → Shared → Prop), TP tk₃ → i < n → Pv i v → St (hideAll h₂ [it]) (h₂.objs.size + 1) [it, h₂.objs.size] (fun h => OI (i + 1) h ∧ h.PlainList h₂.objs.size ys) h₃ [(x, v)] →
      (∀ tk', TP tk' → Q (pt i) ⟨h₃, gn, dr, tk', os⟩) → wpAny (model prog w) A (forIn ifs true fun c r => if r = true then do let ok ← isTrue c (compEnvC scope cl (h₂.objs.size + 1) env) (eval c (compEnvC scope cl (h₂.objs.size + 1) env)); pure (ForInStep.yield ok) else pure (ForInStep.yield r)) Q E ⟨h₃, gn, dr, tk₃, os⟩)
    (elts : ∀ i v ys h₃ tk₃ (Q : Value → Shared → Prop) (E : Value → Shared → Prop), TP tk₃ → i < n → Pv i v → pt i = true → St (hideAll h₂ [it]) (h₂.objs.size + 1) [it, h₂.objs.size] (fun h => OI (i + 1) h ∧ h.PlainList h₂.objs.size ys) h₃ [(x, v)] →
      (∀ y h' tk', Y i v y h' → Le h₃ h' → Q y ⟨h', gn, dr, tk', os⟩) → wpAny (model prog w) A (eval elt (compEnvC scope cl (h₂.objs.size + 1) env)) Q E ⟨h₃, gn, dr, tk₃, os⟩)
    (q : ∀ h' tk' ys m, h'.Ns (h₂.objs.size + 1) m → (∀ b o, b ≠ it → h₂.get? b = some o → h'.get? b = some o) → h'.PlainList h₂.objs.size ys.toArray → Made pt Pv Y n ys h' → RR (.ref h₂.objs.size) (h₂.objs.size + 1) (.ok .next) ⟨h', gn, dr, tk', os⟩)
    (hcell : (scope.names.all fun x => x.2 != .cell) = true := by kernel_rfl) (hkind : scope.kind = .function := by kernel_rfl) (hx : scope.names.lookup x = some .local := by kernel_rfl) :
    wpAny (model prog w) A (newList []) (fun acc s₃ => wpAny (model prog w) A (newFunctionEnv scope env.globals cl [] env.qual none .none (some env)) (fun cenv s₄ =>
      codeAny (model prog w) A (.compStart (.ListComp elt [⟨.Name x px, iter, ifs, 0⟩] scope pos) 0 (.ref it) acc { cenv with scope := relabel scope env }) (RR acc cenv.locals) s₄) E s₃) E ⟨h₂, gn, dr, tk₂, os⟩ := by
  refine wpAny_newObj_type (s := ⟨h₂, gn, dr, tk₂, os⟩) (wpAny_newFunctionEnv (fun y hy => by simpa using List.all_eq_true.mp hcell y hy) (by intro y hy; simp at hy) (fun h₁ hns₁ hsb₁ => ?_) hkind)
  dsimp only at hns₁ hsb₁ ⊢
  generalize hH2 : h₂.push { cls := .type "list", dict := none, data := .seq ([] : List Value).toArray } = H2 at hns₁ hsb₁ ⊢
  have hC : H2.objs.size = h₂.objs.size + 1 := by rw [← hH2, Heap.size_push]
  rw [hC] at hns₁ hsb₁ ⊢
  have hlow : ∀ b o, h₂.get? b = some o → h₁.get? b = some o := fun b o e => hsb₁.extBut b o (Nat.ne_of_lt (Nat.lt_succ_of_lt (Heap.lt_size e))) (Heap.get?_push_of_some _ (hH2 ▸ Heap.get?_push_of_some _ e))
  have hacc : h₁.PlainList h₂.objs.size #[] := ⟨_, hsb₁.extBut _ _ (Nat.ne_of_lt (Nat.lt_succ_self _)) (Heap.get?_push_of_some _ (hH2 ▸ Heap.get?_push_size _ rfl))⟩
  have none_at : ∀ a, h₂.objs.size ≤ a → (hideAll h₂ [it]).get? a = none := fun a ha => by
    cases e : (hideAll h₂ [it]).get? a with
    | none => rfl
    | some o => exact absurd (Heap.lt_size (of_hideAll _ e)) (Nat.not_lt.mpr ha)
  have dep : ∀ i ys (h h' : Heap), (OI i h ∧ h.PlainList h₂.objs.size ys) → (∀ d ∈ [it, h₂.objs.size], ∀ o, h.get? d = some o → h'.get? d = some o) → (OI i h' ∧ h'.PlainList h₂.objs.size ys) := fun i ys h h' x k =>
    ⟨W.dep i h h' x.1 (k it (.head _)), let ⟨n, e⟩ := x.2; ⟨n, k _ (.tail _ (.head _)) _ e⟩⟩
  have S₁ : St (hideAll h₂ [it]) (h₂.objs.size + 1) [it, h₂.objs.size] (fun h => OI 0 h ∧ h.PlainList h₂.objs.size ([] : List Value).toArray) h₁ [] := {
    loc := ⟨_, hns₁, fun _ _ e => by cases e⟩
    keep := fun b o e => hlow b o (of_hideAll _ e)
    offL := none_at _ (Nat.le_succ _)
    offD := fun d hd => by
      rcases List.mem_cons.mp hd with rfl | hd
      · exact ⟨hideAll_none _ (.head _), Nat.ne_of_lt (Nat.lt_succ_of_lt hit)⟩
      · rw [List.mem_singleton.mp hd]; exact ⟨none_at _ (Nat.le_refl _), Nat.ne_of_lt (Nat.lt_succ_self _)⟩
    dep := dep 0 _
    here := ⟨W.dep 0 _ _ h0 fun o e => hlow _ _ e, hacc⟩ }
  have hne : it ≠ h₂.objs.size := Nat.ne_of_lt hit
  have loop : codeAny (model prog w) A (.compLoop (.ListComp elt [⟨.Name x px, iter, ifs, 0⟩] scope pos) 0 (.ref it) (.ref h₂.objs.size) (compEnvC scope cl (h₂.objs.size + 1) env))
      (RR (.ref h₂.objs.size) (h₂.objs.size + 1)) ⟨h₁, gn, dr, tk₂, os⟩ := by
    refine codeAny_compLoop_tests (fun m s => ∃ i h tk ys ls, m = n - i ∧ i ≤ n ∧ s = ⟨h, gn, dr, tk, os⟩ ∧ St (hideAll h₂ [it]) (h₂.objs.size + 1) [it, h₂.objs.size] (fun h => OI i h ∧ h.PlainList h₂.objs.size ys.toArray) h ls ∧
      Made pt Pv Y i ys h) ?_ n ⟨0, h₁, tk₂, [], [], rfl, Nat.zero_le _, rfl, S₁, rfl, by simp⟩
    rintro m s ⟨i, h, tk, ys, ls, rfl, hi, rfl, S, hM⟩
    have mono : ∀ {i ys h h'}, Made pt Pv Y i ys h → (∀ b o, b ≠ it → b ≠ h₂.objs.size → b ≠ h₂.objs.size + 1 → h.get? b = some o → h'.get? b = some o) → Made pt Pv Y i ys h' := fun hM k => ⟨hM.1, fun a y j e1 e2 => by
      obtain ⟨v, hv, hy⟩ := hM.2 a y j e1 e2
      exact ⟨v, hv, ymono _ _ _ _ _ hy k⟩⟩
    have hlen : ys.length ≤ i := by
      rw [hM.1]
      unfold kept
      exact Nat.le_trans (List.length_filter_le _ _) (by simp)
    by_cases hin : i < n
    · refine W.item i h gn dr tk os _ _ hin S.keep S.here.1 fun v h₃ tk₃ hv ho hb => ?_
      have S₃ : St (hideAll h₂ [it]) (h₂.objs.size + 1) [it, h₂.objs.size] (fun h => OI (i + 1) h ∧ h.PlainList h₂.objs.size ys.toArray) h₃ [] := {
        loc := by
          obtain ⟨m, ⟨o, es, ep, ho, r⟩, h2⟩ := S.loc
          exact ⟨m, ⟨o, es, ep, hb _ o (Ne.symm (S.offD it (.head _)).2) ho, r⟩, fun _ _ e => by cases e⟩
        keep := fun b o e => hb b o (fun q => by subst q; rw [(S.offD b (.head _)).1] at e; cases e) (S.keep b o e)
        offL := S.offL
        offD := S.offD
        dep := dep _ _
        here := ⟨ho, let ⟨n, e⟩ := S.here.2; ⟨n, hb _ _ (Ne.symm hne) e⟩⟩ }
      have hM₃ := mono hM fun b o h1 _ _ e => hb b o h1 e
      dsimp only
      refine wpAny_assign_Name (r_stT S₃ (fun h₄ S₄ hs₄ => ?_) rfl (by simpa [compEnvC, relabel] using hkind) (lookup_relabel_local hx))
      have hM₄ := mono hM₃ fun b o _ _ h3 e => (hs₄.2 b h3).trans e
      refine tests i v _ h₄ _ _ _ (hTP _) hin hv S₄ fun tk₅ ht₅ => ?_
      cases hp : pt i with
      | false =>
        rw [if_neg Bool.false_ne_true]
        refine ⟨n - (i + 1), by lia, i + 1, h₄, _, ys, _, rfl, hin, rfl, S₄, ?_⟩
        unfold Made at hM₄ ⊢
        rw [kept_succ, hp]
        simpa using hM₄
      | true =>
        rw [if_pos rfl]
        refine elts i v _ h₄ _ _ _ ht₅ hin hv hp S₄ fun y h₅ tk₅ hy k₅ => ?_
        have S₅ := S₄.grow k₅
        have hM₅ := mono hM₄ fun b o _ _ _ e => k₅ b o e
        refine r_append S₅.here.2 (by rw [sizeLine_eq]; simp; lia) fun h₆ hl₆ hs₆ => ?_
        have S₆ := S₅.same (P' := fun h => OI (i + 1) h ∧ h.PlainList h₂.objs.size (ys ++ [y]).toArray) (by simp : h₂.objs.size ∈ [it, h₂.objs.size]) hs₆ ⟨W.dep _ _ _ S₅.here.1 fun o e => (hs₆.2 it hne).trans e, by simpa using hl₆⟩ (dep _ _)
        have hk₆ : ∀ b o, b ≠ it → b ≠ h₂.objs.size → b ≠ h₂.objs.size + 1 → h₅.get? b = some o → h₆.get? b = some o := fun b o _ h2 _ e => (hs₆.2 b h2).trans e
        have hM₆ := mono hM₅ hk₆
        refine ⟨n - (i + 1), by lia, i + 1, h₆, _, ys ++ [y], _, rfl, hin, rfl, S₆, ?_, ?_⟩
        · rw [kept_succ, hp]; simp [hM.1]
        · intro k y' j e1 e2
          rw [kept_succ, hp, if_pos rfl] at e2
          rcases Nat.lt_trichotomy k ys.length with hk | hk | hk
          · rw [List.getElem?_append_left hk] at e1
            rw [List.getElem?_append_left (hM.1 ▸ hk)] at e2
            exact hM₆.2 k y' j e1 e2
          · rw [hk, List.getElem?_append_right (Nat.le_refl _), Nat.sub_self] at e1
            rw [hk, hM.1, List.getElem?_append_right (Nat.le_refl _), Nat.sub_self] at e2
            cases e1; cases e2
            exact ⟨v, hv, ymono _ _ _ _ _ hy hk₆⟩
          · rw [List.getElem?_eq_none (by simp; lia)] at e1; cases e1
    · have : i = n := by lia
      subst this
      refine W.done h gn dr tk os _ _ S.keep S.here.1 fun h₃ tk₃ hb => ?_
      obtain ⟨m, ⟨o, es, ep, ho, r⟩, h2⟩ := S.loc
      refine q h₃ _ ys m ⟨o, es, ep, hb _ o (Ne.symm (S.offD it (.head _)).2) ho, r⟩ (fun b o h1 e => hb b o h1 (S.keep b o (hideAll_get _ e (by simpa using h1)))) ?_ (mono hM fun b o h1 _ _ e => hb b o h1 e)
      obtain ⟨n, e⟩ := S.here.2
      exact ⟨n, hb _ _ (Ne.symm hne) e⟩
  exact codeAny_compStart_list loop (W.self 0 h₁ gn dr tk₂ os _ _ S₁.keep S₁.here.1 loop)
theorem comp_turns {elt iter : PySem.Expr} {x : Str} {px : Pos} {ifs : List PySem.Expr} {scope : Scope} {cl : List (Str × Addr)} {pos : Pos} {it : Addr} {n : Nat} {Pv : Nat → Value → Prop} {OI : Nat → Heap → Prop} {h₂ : Heap} {tk₂ : Nat}
    (pt : Nat → Bool) (Y : Nat → Value → Value → Heap → Prop) (hn : n ≤ 2 ^ 20) (hit : it < h₂.objs.size) (h0 : OI 0 h₂) (W : Wk prog w A (hideAll h₂ [it]) it n Pv OI)
    (ymono : ∀ j v y h h', Y j v y h → (∀ b o, b ≠ it → b ≠ h₂.objs.size → b ≠ h₂.objs.size + 1 → h.get? b = some o → h'.get? b = some o) → Y j v y h')
    (tests : ∀ i v ys h₃ tk₃ (Q : Bool → Shared → Prop) (E : Value → Shared → Prop), i < n → Pv i v → St (hideAll h₂ [it]) (h₂.objs.size + 1) [it, h₂.objs.size] (fun h => OI (i + 1) h ∧ h.PlainList h₂.objs.size ys) h₃ [(x, v)] →
      (∀ tk', Q (pt i) ⟨h₃, gn, dr, tk', os⟩) → wpAny (model prog w) A (forIn ifs true fun c r => if r = true then do let ok ← isTrue c (compEnvC scope cl (h₂.objs.size + 1) env) (eval c (compEnvC scope cl (h₂.objs.size + 1) env)); pure (ForInStep.yield ok) else pure (ForInStep.yield r)) Q E ⟨h₃, gn, dr, tk₃, os⟩)
    (elts : ∀ i v ys h₃ tk₃ (Q : Value → Shared → Prop) (E : Value → Shared → Prop), i < n → Pv i v → pt i = true → St (hideAll h₂ [it]) (h₂.objs.size + 1) [it, h₂.objs.size] (fun h => OI (i + 1) h ∧ h.PlainList h₂.objs.size ys) h₃ [(x, v)] →
      (∀ y h' tk', Y i v y h' → Le h₃ h' → Q y ⟨h', gn, dr, tk', os⟩) → wpAny (model prog w) A (eval elt (compEnvC scope cl (h₂.objs.size + 1) env)) Q E ⟨h₃, gn, dr, tk₃, os⟩)
    (q : ∀ h' tk' ys, (∀ b o, b ≠ it → h₂.get? b = some o → h'.get? b = some o) → h'.PlainList h₂.objs.size ys.toArray → Made pt Pv Y n ys h' → Q (.ref h₂.objs.size) ⟨h', gn, dr, tk', os⟩)
    (hcell : (scope.names.all fun x => x.2 != .cell) = true := by kernel_rfl) (hkind : scope.kind = .function := by kernel_rfl) (hx : scope.names.lookup x = some .local := by kernel_rfl) :
    wpAny (model prog w) A (newList []) (fun acc s₃ => wpAny (model prog w) A (newFunctionEnv scope env.globals cl [] env.qual none .none (some env)) (fun cenv s₄ =>
      codeAny (model prog w) A (.compStart (.ListComp elt [⟨.Name x px, iter, ifs, 0⟩] scope pos) 0 (.ref it) acc { cenv with scope := relabel scope env }) (compPost (model prog w) A E none Q acc cenv.locals) s₄) E s₃) E ⟨h₂, gn, dr, tk₂, os⟩ := by
  refine comp_turnsR (RR := fun acc C => compPost (model prog w) A E none Q acc C) (fun _ => True) (fun _ => trivial) pt Y hn hit h0 W ymono (fun i v ys h₃ tk₃ Q E _ a b c q => tests i v ys h₃ tk₃ Q E a b c fun tk' => q tk' trivial) (fun i v ys h₃ tk₃ Q E _ a b c d q => elts i v ys h₃ tk₃ Q E a b c d q) (fun h₃ tk₃ ys m hns hb hl hM => ?_) hcell hkind hx
  refine ⟨m, hns, fun h' hs' => ?_⟩
  have hk : ∀ b o, b ≠ h₂.objs.size + 1 → h₃.get? b = some o → h'.get? b = some o := fun b o h2 e => (hs'.2 b h2).trans e
  refine q h' _ ys (fun b o h1 e => hk b o (Nat.ne_of_lt (Nat.lt_succ_of_lt (Heap.lt_size e))) (hb b o h1 e)) ?_ ⟨hM.1, fun a y j e1 e2 => ?_⟩
  · obtain ⟨n, e⟩ := hl
    exact ⟨n, hk _ _ (Nat.ne_of_lt (Nat.lt_succ_self _)) e⟩
  · obtain ⟨v, hv, hy⟩ := hM.2 a y j e1 e2
    exact ⟨v, hv, ymono _ _ _ _ _ hy fun b o _ _ h3 e => hk b o h3 e⟩
/-- no tests; a turn's tokens are not 0 -/
theorem comp_turnsT {elt iter : PySem.Expr} {x : Str} {px : Pos} {scope : Scope} {cl : List (Str × Addr)} {pos : Pos} {it : Addr} {n : Nat} {Pv : Nat → Value → Prop} {OI : Nat → Heap → Prop} {h₂ : Heap} {tk₂ : Nat}
    (Y : Nat → Value → Value → Heap → Prop) (hn : n ≤ 2 ^ 20) (hit : it < h₂.objs.size) (h0 : OI 0 h₂) (W : Wk prog w A (hideAll h₂ [it]) it n Pv OI)
    (ymono : ∀ j v y h h', Y j v y h → (∀ b o, b ≠ it → b ≠ h₂.objs.size → b ≠ h₂.objs.size + 1 → h.get? b = some o → h'.get? b = some o) → Y j v y h')
    (elts : ∀ i v ys h₃ tk₃ (Q : Value → Shared → Prop) (E : Value → Shared → Prop), 0 < tk₃ → i < n → Pv i v → St (hideAll h₂ [it]) (h₂.objs.size + 1) [it, h₂.objs.size] (fun h => OI (i + 1) h ∧ h.PlainList h₂.objs.size ys) h₃ [(x, v)] →
      (∀ y h' tk', Y i v y h' → Le h₃ h' → Q y ⟨h', gn, dr, tk', os⟩) → wpAny (model prog w) A (eval elt (compEnvC scope cl (h₂.objs.size + 1) env)) Q E ⟨h₃, gn, dr, tk₃, os⟩)
    (q : ∀ h' tk' ys, (∀ b o, b ≠ it → h₂.get? b = some o → h'.get? b = some o) → h'.PlainList h₂.objs.size ys.toArray → Made (fun _ => true) Pv Y n ys h' → Q (.ref h₂.objs.size) ⟨h', gn, dr, tk', os⟩)
    (hcell : (scope.names.all fun x => x.2 != .cell) = true := by kernel_rfl) (hkind : scope.kind = .function := by kernel_rfl) (hx : scope.names.lookup x = some .local := by kernel_rfl) :
    wpAny (model prog w) A (newList []) (fun acc s₃ => wpAny (model prog w) A (newFunctionEnv scope env.globals cl [] env.qual none .none (some env)) (fun cenv s₄ =>
      codeAny (model prog w) A (.compStart (.ListComp elt [⟨.Name x px, iter, [], 0⟩] scope pos) 0 (.ref it) acc { cenv with scope := relabel scope env }) (compPost (model prog w) A E none Q acc cenv.locals) s₄) E s₃) E ⟨h₂, gn, dr, tk₂, os⟩ := by
  refine comp_turnsR (RR := fun acc C => compPost (model prog w) A E none Q acc C) (fun t => 0 < t) (fun _ => Nat.succ_pos _) (fun _ => true) Y hn hit h0 W ymono (fun _ _ _ _ tk₃ _ _ hp _ _ _ q => by rw [List.forIn_nil]; exact wpAny_pure (q tk₃ hp)) (fun i v ys h₃ tk₃ Q E hp a b _ d q => elts i v ys h₃ tk₃ Q E hp a b d q) (fun h₃ tk₃ ys m hns hb hl hM => ?_) hcell hkind hx
  refine ⟨m, hns, fun h' hs' => ?_⟩
  have hk : ∀ b o, b ≠ h₂.objs.size + 1 → h₃.get? b = some o → h'.get? b = some o := fun b o h2 e => (hs'.2 b h2).trans e
  refine q h' _ ys (fun b o h1 e => hk b o (Nat.ne_of_lt (Nat.lt_succ_of_lt (Heap.lt_size e))) (hb b o h1 e)) ?_ ⟨hM.1, fun a y j e1 e2 => ?_⟩
  · obtain ⟨n, e⟩ := hl
    exact ⟨n, hk _ _ (Nat.ne_of_lt (Nat.lt_succ_self _)) e⟩
  · obtain ⟨v, hv, hy⟩ := hM.2 a y j e1 e2
    exact ⟨v, hv, ymono _ _ _ _ _ hy fun b o _ _ h3 e => hk b o h3 e⟩
/-- the same, the list stored in a name before the turns' names go -/
theorem comp_turnsA {y : Str} {py : Pos} {Q : Shared → Prop} {elt iter : PySem.Expr} {x : Str} {px : Pos} {ifs : List PySem.Expr} {scope : Scope} {cl : List (Str × Addr)} {pos : Pos} {it : Addr} {n : Nat} {Pv : Nat → Value → Prop} {OI : Nat → Heap → Prop} {h₂ : Heap} {tk₂ : Nat}
    (pt : Nat → Bool) (Y : Nat → Value → Value → Heap → Prop) (hn : n ≤ 2 ^ 20) (hit : it < h₂.objs.size) (h0 : OI 0 h₂) (W : Wk prog w A (hideAll h₂ [it]) it n Pv OI)
    (ymono : ∀ j v y h h', Y j v y h → (∀ b o, b ≠ it → b ≠ h₂.objs.size → b ≠ h₂.objs.size + 1 → h.get? b = some o → h'.get? b = some o) → Y j v y h')
    (tests : ∀ i v ys h₃ tk₃ (Q : Bool → Shared → Prop) (E : Value → Shared → Prop), i < n → Pv i v → St (hideAll h₂ [it]) (h₂.objs.size + 1) [it, h₂.objs.size] (fun h => OI (i + 1) h ∧ h.PlainList h₂.objs.size ys) h₃ [(x, v)] →
      (∀ tk', Q (pt i) ⟨h₃, gn, dr, tk', os⟩) → wpAny (model prog w) A (forIn ifs true fun c r => if r = true then do let ok ← isTrue c (compEnvC scope cl (h₂.objs.size + 1) env) (eval c (compEnvC scope cl (h₂.objs.size + 1) env)); pure (ForInStep.yield ok) else pure (ForInStep.yield r)) Q E ⟨h₃, gn, dr, tk₃, os⟩)
    (elts : ∀ i v ys h₃ tk₃ (Q : Value → Shared → Prop) (E : Value → Shared → Prop), i < n → Pv i v → pt i = true → St (hideAll h₂ [it]) (h₂.objs.size + 1) [it, h₂.objs.size] (fun h => OI (i + 1) h ∧ h.PlainList h₂.objs.size ys) h₃ [(x, v)] →
      (∀ y h' tk', Y i v y h' → Le h₃ h' → Q y ⟨h', gn, dr, tk', os⟩) → wpAny (model prog w) A (eval elt (compEnvC scope cl (h₂.objs.size + 1) env)) Q E ⟨h₃, gn, dr, tk₃, os⟩)
    (q : ∀ h' tk' ys, (∀ b o, b ≠ it → h₂.get? b = some o → h'.get? b = some o) → h'.PlainList h₂.objs.size ys.toArray → Made pt Pv Y n ys h' →
      wpAny (model prog w) A (storeName env y (.ref h₂.objs.size)) (fun _ s₅ => ∃ h₅ tk₅, s₅ = ⟨h₅, gn, dr, tk₅, os⟩ ∧ (∀ o, h'.get? (h₂.objs.size + 1) = some o → h₅.get? (h₂.objs.size + 1) = some o) ∧ ∀ h₆, Heap.SameBut (h₂.objs.size + 1) h₅ h₆ → Q ⟨h₆, gn, dr, tk₅, os⟩) E ⟨h', gn, dr, tk', os⟩)
    (hcell : (scope.names.all fun x => x.2 != .cell) = true := by kernel_rfl) (hkind : scope.kind = .function := by kernel_rfl) (hx : scope.names.lookup x = some .local := by kernel_rfl) :
    wpAny (model prog w) A (newList []) (fun acc s₃ => wpAny (model prog w) A (newFunctionEnv scope env.globals cl [] env.qual none .none (some env)) (fun cenv s₄ =>
      codeAny (model prog w) A (.compStart (.ListComp elt [⟨.Name x px, iter, ifs, 0⟩] scope pos) 0 (.ref it) acc { cenv with scope := relabel scope env }) (compPost (model prog w) A E (some (assign (.Name y py) env)) (fun _ s' => Q s') acc cenv.locals) s₄) E s₃) E ⟨h₂, gn, dr, tk₂, os⟩ := by
  refine comp_turnsR (RR := fun acc C => compPost (model prog w) A E (some (assign (.Name y py) env)) (fun _ s' => Q s') acc C) (fun _ => True) (fun _ => trivial) pt Y hn hit h0 W ymono (fun i v ys h₃ tk₃ Q E _ a b c q => tests i v ys h₃ tk₃ Q E a b c fun tk' => q tk' trivial) (fun i v ys h₃ tk₃ Q E _ a b c d q => elts i v ys h₃ tk₃ Q E a b c d q) (fun h₃ tk₃ ys m hns hb hl hM => ?_) hcell hkind hx
  show wpAny _ _ (assign (.Name y py) env (.ref h₂.objs.size)) _ _ _
  refine wpAny_assign_Name (wpAny_mono (q h₃ tk₃ ys hb hl hM) ?_ fun _ _ x => x)
  rintro _ s₅ ⟨h₅, tk₅, rfl, hC, hq⟩
  obtain ⟨o, es, ep, ho, r⟩ := hns
  exact ⟨m, ⟨o, es, ep, hC o ho, r⟩, fun h₆ hs₆ => hq h₆ hs₆⟩
theorem e_comp {elt iter : PySem.Expr} {x : Str} {px : Pos} {ifs : List PySem.Expr} {scope : Scope} {cl : List (Str × Addr)} {pos : Pos}
    (q : wpAny (model prog w) A (eval iter env) (fun xv s₁ => wpAny (model prog w) A (pyIter xv) (fun itv s₂ => wpAny (model prog w) A (newList []) (fun acc s₃ => wpAny (model prog w) A (newFunctionEnv scope env.globals cl [] env.qual none .none (some env)) (fun cenv s₄ =>
      codeAny (model prog w) A (.compStart (.ListComp elt [⟨.Name x px, iter, ifs, 0⟩] scope pos) 0 itv acc { cenv with scope := relabel scope env }) (compPost (model prog w) A E none Q acc cenv.locals) s₄) E s₃) E s₂) E s₁) E ⟨h, gn, dr, tk, os⟩)
    (hclos : closureFor scope env = pure cl := by kernel_rfl) (hs : ∀ x, foldedSetIterable iter env x = pure x := by intro _; rfl)
    (hkind : scope.kind = .function := by kernel_rfl) (hnames : (scope.names.all fun x => x.2 != .local || scope.names.lookup x.1 == some .local) = true := by kernel_rfl) :
    wpAny (model prog w) A (eval (.ListComp elt [⟨.Name x px, iter, ifs, 0⟩] scope pos) env) Q E ⟨h, gn, dr, tk, os⟩ := by
  rw [eval_ListComp]
  refine wpAny_comprehension_free (use := none) rfl hs hclos hkind (fun y hy e => ?_) q
  have := List.all_eq_true.mp hnames y hy
  rw [e] at this
  simpa using this
theorem e_compA {elt iter : PySem.Expr} {x y : Str} {px py : Pos} {ifs : List PySem.Expr} {scope : Scope} {cl : List (Str × Addr)} {pos spos : Pos} {Q : Flow → Shared → Prop}
    (q : wpAny (model prog w) A (eval iter env) (fun xv s₁ => wpAny (model prog w) A (pyIter xv) (fun itv s₂ => wpAny (model prog w) A (newList []) (fun acc s₃ => wpAny (model prog w) A (newFunctionEnv scope env.globals cl [] env.qual none .none (some env)) (fun cenv s₄ =>
      codeAny (model prog w) A (.compStart (.ListComp elt [⟨.Name x px, iter, ifs, 0⟩] scope pos) 0 itv acc { cenv with scope := relabel scope env }) (compPost (model prog w) A E (some (assign (.Name y py) env)) (fun _ s' => Q .next s') acc cenv.locals) s₄) E s₃) E s₂) E s₁) E ⟨h, gn, dr, tk, os⟩)
    (hsw : swapsWith (.ListComp elt [⟨.Name x px, iter, ifs, 0⟩] scope pos) (some (.Name y py)) spos.line env = pure true := by kernel_rfl)
    (hclos : closureFor scope env = pure cl := by kernel_rfl) (hs : ∀ x, foldedSetIterable iter env x = pure x := by intro _; rfl)
    (hkind : scope.kind = .function := by kernel_rfl) (hnames : (scope.names.all fun x => x.2 != .local || scope.names.lookup x.1 == some .local) = true := by kernel_rfl) :
    wpAny (model prog w) A (exec (.Assign [.Name y py] (.ListComp elt [⟨.Name x px, iter, ifs, 0⟩] scope pos) spos) env) Q E ⟨h, gn, dr, tk, os⟩ := by
  rw [exec_Assign_Name_used _ _ _ _ hsw]
  refine wpAny_bind (wpAny_standAt (wpAny_bind ?_))
  show wpAny _ A (do let _ ← comprehension (.ListComp elt [⟨.Name x px, iter, ifs, 0⟩] scope pos) scope env _ (newList []) false (eval iter env) (some (assign (.Name y py) env))) _ _ _
  refine wpAny_bind (wpAny_mono (wpAny_comprehension_free (use := some (assign (.Name y py) env)) (Q := fun _ s' => Q .next s') rfl hs hclos hkind (fun y hy e => ?_) q) (fun _ s' hq => wpAny_pure (wpAny_pure hq)) fun _ _ e => e)
  have := List.all_eq_true.mp hnames y hy
  rw [e] at this
  simpa using this
end
section
variable {prog : Program} {w : World} {A : Around} {E : Value → Shared → Prop} {h : Heap} {gn : Array GenState} {dr : Drawn} {tk : Nat} {os : OsState} {g : Heap} {env : Env} {L : Addr} {D : List Addr} {R : Result → Shared → Prop}
/-- a for over any iterator, by what holds of the turn's number -/
theorem for_wk {σ : Type} (P : Nat → σ → Heap → Prop) (ls : Nat → σ → List (Str × Value)) (F : Nat → σ → Prop) (c₀ : σ) {x : Str} {px : Pos} {body : List Stmt} {it : Addr} {n : Nat} {Pv : Nat → Value → Prop} {OI : Nat → Heap → Prop}
    (W : Wk prog w A g it n Pv OI) (hitD : it ∉ D) (S : St g L (it :: D) (fun h => OI 0 h ∧ P 0 c₀ h) h (ls 0 c₀)) (hF : F 0 c₀)
    (dep : ∀ i c h h', P i c h → (∀ d ∈ D, ∀ o, h.get? d = some o → h'.get? d = some o) → P i c h')
    (turn : ∀ i c h tk v, i < n → Pv i v → F i c → St g L (it :: D) (fun h => OI (i + 1) h ∧ P i c h) h ((x, v) :: ls i c) →
      wpAny (model prog w) A (execs body env) (fun f s₃ => (f = .next ∨ f = .cont) ∧ ∃ h' tk' c', s₃ = ⟨h', gn, dr, tk', os⟩ ∧ F (i + 1) c' ∧
        St g L (it :: D) (fun h => OI (i + 1) h ∧ P (i + 1) c' h) h' (ls (i + 1) c')) (notedBy (model prog w) A env fun e s' => R (.error e) s') ⟨h, gn, dr, tk, os⟩)
    (done : ∀ c h tk, F n c → St g L D (P n c) h (ls n c) → R (.ok .next) ⟨h, gn, dr, tk, os⟩)
    (hL : env.locals = L := by rfl) (hk : env.scope.kind = .function := by kernel_rfl) (hl : env.kindOf x = some .local := by kernel_rfl) :
    codeAny (model prog w) A (.forLoop (.Name x px) (.ref it) body [] env) R ⟨h, gn, dr, tk, os⟩ := by
  refine codeAny_forLoop (fun m s => ∃ i c h tk, m = n - i ∧ i ≤ n ∧ s = ⟨h, gn, dr, tk, os⟩ ∧ F i c ∧ St g L (it :: D) (fun h => OI i h ∧ P i c h) h (ls i c)) ?_ n ⟨0, c₀, h, tk, rfl, Nat.zero_le _, rfl, hF, S⟩
  rintro m s ⟨i, c, h, tk, rfl, hi, rfl, hFi, S⟩
  have moved : ∀ {h₁ : Heap} {OI' : Heap → Prop} (D' : List Addr), (∀ d ∈ D', d ∈ it :: D) → (∀ b o, b ≠ it → h.get? b = some o → h₁.get? b = some o) → OI' h₁ → (∀ h h', OI' h → (∀ d ∈ D', ∀ o, h.get? d = some o → h'.get? d = some o) → OI' h') → St g L D' OI' h₁ (ls i c) := fun D' hD' hb ho dp => {
      loc := by
        obtain ⟨m, ⟨o, es, ep, ho, r⟩, h2⟩ := S.loc
        exact ⟨m, ⟨o, es, ep, hb _ o (Ne.symm (S.offD it (.head _)).2) ho, r⟩, h2⟩
      keep := fun b o e => hb b o (fun q => by subst q; rw [(S.offD b (.head _)).1] at e; cases e) (S.keep b o e)
      offL := S.offL
      offD := fun d hd => S.offD d (hD' d hd)
      dep := dp
      here := ho }
  by_cases hin : i < n
  · refine W.item i h gn dr tk os _ _ hin S.keep S.here.1 fun v h₁ tk₁ hv ho hb => ?_
    have S₁ : St g L (it :: D) (fun h => OI (i + 1) h ∧ P i c h) h₁ (ls i c) := moved (it :: D) (fun _ x => x) hb ⟨ho, dep i c _ _ S.here.2 fun d hd o e => hb d o (fun q => hitD (q ▸ hd)) e⟩
      fun h h' x k => ⟨W.dep _ h h' x.1 (k it (.head _)), dep i c h h' x.2 fun d hd => k d (.tail _ hd)⟩
    dsimp only
    refine wpAny_assign_Name ?_
    refine r_st S₁ (fun h₂ tk₂ S₂ _ => ?_) hL hk hl
    refine wpAny_mono (turn i c h₂ tk₂ v hin hv hFi S₂) ?_ fun _ _ x => x
    rintro f s₃ ⟨hf, h', tk', c', rfl, hF', S'⟩
    have : ∃ m, m < n - i ∧ ∃ i c h tk, m = n - i ∧ i ≤ n ∧ (⟨h', gn, dr, tk', os⟩ : Shared) = ⟨h, gn, dr, tk, os⟩ ∧ F i c ∧ St g L (it :: D) (fun h => OI i h ∧ P i c h) h (ls i c) :=
      ⟨n - (i + 1), by lia, i + 1, c', h', tk', rfl, hin, rfl, hF', S'⟩
    rcases hf with rfl | rfl <;> exact this
  · have : i = n := by lia
    subst this
    refine W.done h gn dr tk os _ _ S.keep S.here.1 fun h₁ tk₁ hb => ?_
    exact wpAny_execs_nil (done c h₁ tk₁ hFi (moved D (fun _ x => .tail _ x) hb (dep i c _ _ S.here.2 fun d hd o e => hb d o (fun q => hitD (q ▸ hd)) e) (dep i c)))
end
section
variable {prog : Program} {w : World} {A : Around} {E : Value → Shared → Prop} {Q : Value → Shared → Prop} {h : Heap} {gn : Array GenState} {dr : Drawn} {tk : Nat} {os : OsState} {env : Env} {d : Addr} {kvs : List (Int × Value)} {a b : Int} {t u : Tok}
theorem r_iadd (q : ∀ t tk', Q (.int (a + b) t) ⟨h, gn, dr, tk', os⟩) : wpAny (model prog w) A (inplaceOp .Add (.int a t) (.int b u)) Q E ⟨h, gn, dr, tk, os⟩ := iadd_int (q _ _)
theorem e_values {o : PySem.Expr} {apos pos : Pos} (hdS : (d == sysModules) = false) (hm : DictI prog w h d kvs)
    (ho : ∀ Q', Q' (.ref d) ⟨h, gn, dr, tk, os⟩ → wpAny (model prog w) A (eval o env) Q' E ⟨h, gn, dr, tk, os⟩)
    (q : ∀ h' v', h'.IsValuesView v' d → Le h h' → Q (.ref v') ⟨h', gn, dr, tk, os⟩)
    (hbase : attributeBase o "values" env (eval o env) = eval o env := by kernel_rfl) (hline : (apos.endLine == pos.line) = true := by kernel_rfl) :
    wpAny (model prog w) A (eval (.Call (.Attribute o "values" apos) [] [] pos) env) Q E ⟨h, gn, dr, tk, os⟩ := by
  refine wpAny_Call_method0_late hbase hline (ho _ ?_)
  refine ⟨"dict", "dict.values", F.plainAttrs_dict, F.slot_dict_values, F.type_dict_values, Heap.DictOf.typeIs (s := ⟨h, gn, dr, tk, os⟩) hm, ?_, ?_⟩
  · rintro a e
    cases e
    obtain ⟨ob, _, _, h1, h2, _⟩ := hm
    exact ⟨ob, h1, h2.2.1⟩
  · exact method_meetsIn (s := ⟨h, gn, dr, tk, os⟩) F.slot_dict_values F.entry_dict_values rfl (PyProof.Rows.evalArgs_none ⟨rfl, Heap.DictOf.typeIs (s := ⟨h, gn, dr, tk, os⟩) hm, F.args_dict_values_1 _, _, meets_dict_values (intKind prog w) d hdS, ⟨kvs, hm⟩, q _ _ ⟨_, Heap.get?_push_size _ rfl, rfl, rfl⟩ (Le.push _ _)⟩)
end
def sumC (cs : List (Int × Int)) : Int := (cs.map (·.2)).sum
theorem Ivs.at {kvs : List (Int × Value)} {cs : List (Int × Int)} (h : Ivs kvs cs) : ∀ {i : Nat} {k : Int} {v : Value}, kvs[i]? = some (k, v) → ∃ x t, v = .int x t ∧ cs[i]? = some (k, x) := by
  induction h with
  | nil => intro i k v e; simp at e
  | cons _ ih =>
    intro i k v e
    cases i with
    | zero => simp at e; obtain ⟨rfl, rfl⟩ := e; exact ⟨_, _, rfl, rfl⟩
    | succ i => simp at e; simpa using ih e
section
variable {prog : Program} {w : World} {A : Around} {E : Value → Shared → Prop} {mg mb : Str → Option Value} {fa : Nat → Addr} {g : Heap} {Q : Value → Shared → Prop} {h₀ : Heap} {gn : Array GenState} {dr : Drawn} {tk₀ : Nat} {os : OsState}
theorem count_calls_spec {d : Addr} {kvs : List (Int × Value)} {cs : List (Int × Int)}
    (B : Base mg mb fa g) (k : Le g h₀) (hm : DictI prog w h₀ d kvs) (hi : Ivs kvs cs) (hdS : (d == sysModules) = false)
    (hh : A.handled = none) (hd : A.depth + 1 < recursionLimit)
    (q : ∀ h' tk t, Le h₀ h' → Q (.int (sumC cs) t) ⟨h', gn, dr, tk, os⟩) :
    wpAny (model prog w) A (call (.ref (fa 11)) [.ref d]) Q E ⟨h₀, gn, dr, tk₀, os⟩ := by
  refine call_fn 11 (binds := [("callers", .ref d)]) B k (by lia) rfl (fun h₁ cd tk₁ hns hk₁ => ?_)
  have S := St.enter (D := []) (P := fun _ => True) hns hk₁ (by simp) (fun _ _ _ _ => trivial) trivial
  simp only [hideAll] at S
  generalize hL : h₀.objs.size = L at S ⊢
  obtain ⟨ep, hm'⟩ := hm.dictAt
  walk_at "mm"
  have S₂ := ‹St _ _ _ _ _ _›
  refine wpAny_For ?_ (by intro _; rfl)
  refine e_values hdS (hm.keep S₂.keep) (fun Q' hq => r_ld S₂ rfl hq) fun h₃ v₃ hv₃ k₃ => ?_
  have S₃ := S₂.grow k₃
  refine wpAny_pyIter_values (s := ⟨h₃, gn, dr, _, os⟩) hv₃ (S₃.keep.dictAt hm') ?_
  have S₄ := S₃.fresh (P₁ := fun h => h.IsValIter h₃.objs.size d 0 kvs.length ep) { cls := .type "dict_valueiterator", data := .fields #[.ref d, .int 0 0, .int kvs.length 0, .int ep 0] } rfl (fun _ e => ⟨_, e, rfl, rfl⟩) rfl (fun _ _ x k => let ⟨o, ho, r⟩ := x; ⟨o, k _ ho, r⟩)
  have hne : d ≠ h₃.objs.size := Nat.ne_of_lt (dictI_lt (hm.keep S₃.keep))
  refine for_wk (σ := Int × Tok) (D := []) (P := fun _ _ _ => True) (ls := fun _ c => [("nc", .int c.1 c.2)]) (F := fun i c => c.1 = sumC (cs.take i)) ((0 : Int), _) (Wk.values (show (A.deeper _).handled = none from hh) hm' hne) (by simp) (S₄.less ⟨rfl, trivial⟩) (by rfl) (fun _ _ _ _ _ _ => trivial) ?_ ?_
  · rintro i ⟨c, t⟩ h tk v hin ⟨kk, hv⟩ hF S
    obtain ⟨x, u, rfl, hx⟩ := hi.at hv
    walk_at "mm"
    refine wpAny_AugAssign_Name ?_
    obtain ⟨m, h1, h2⟩ := S.loc
    refine wpAny_loadName_local (by kernel_rfl) (by kernel_rfl) h1 (h2 _ _ (by rfl)) ?_
    walk_at "mm"
    refine r_iadd fun t' tk' => ?_
    refine r_st S fun h₅ tk₅ S₅ _ => ?_
    walk_at "mm"
    refine ⟨.inl rfl, h₅, _, (c + x, t'), rfl, ?_, S₅.less (l := [("nc", .int (c + x) t')]) ⟨rfl, trivial⟩⟩
    show c + x = sumC (cs.take (i + 1))
    rw [List.take_add_one, hx, show c = sumC (cs.take i) from hF]
    simp [sumC]
  · rintro ⟨c, t⟩ h tk hF S
    dsimp only
    walk_at "mm"
    have : c = sumC cs := by rw [show c = sumC (cs.take kvs.length) from hF, hi.length, List.take_length]
    rw [this]
    exact q h _ _ S.keep
theorem lamps_spec (B : Base mg mb fa g) (k : Le g h₀) (hd : A.depth + 1 < recursionLimit)
    (q : ∀ h' tk a t0 t1 t2 t3 t4 t5, h₀.objs.size ≤ a → h'.IsTuple a #[.int 256 t0, .int 272 t1, .int 16 t2, .int 17 t3, .int 1 t4, .int 257 t5] → Le h₀ h' → Q (.ref a) ⟨h', gn, dr, tk, os⟩) :
    wpAny (model prog w) A (call (.ref (fa 14)) []) Q E ⟨h₀, gn, dr, tk₀, os⟩ := by
  refine call_fn 14 (binds := []) B k (by lia) rfl (fun h₁ cd tk₁ hns hk₁ => ?_)
  walk_at "mm"
  refine r_tuple (by rw [sizeLine_eq]; simp) fun h₇ a ha ht k₇ => ?_
  exact q h₇ _ a _ _ _ _ _ _ (Nat.le_of_lt (Nat.lt_of_lt_of_le hns.lt ha)) ht (hk₁.trans k₇)
end
theorem intsAre_get : ∀ {vs : List Value} {ns : List Int}, IntsAre vs ns → ∀ {i : Nat} {x : Int}, ns[i]? = some x → ∃ t, vs[i]? = some (.int x t)
  | _, _, .nil, i, x, e => by simp at e
  | _, _, .cons _ _ _, 0, x, e => by simp at e; subst e; exact ⟨_, rfl⟩
  | _, _, .cons _ _ r, i + 1, x, e => by simp at e; simpa using intsAre_get r e
/-- a list of these ints -/
def IntsL (h : Heap) (l : Addr) (ns : List Int) : Prop := ∃ vs, h.PlainList l vs.toArray ∧ IntsAre vs ns
theorem IntsL.up {g h : Heap} {l : Addr} {ns : List Int} (x : IntsL g l ns) (k : Le g h) : IntsL h l ns := let ⟨vs, ⟨n, e⟩, r⟩ := x; ⟨vs, ⟨n, k _ _ e⟩, r⟩
theorem IntsL.get {h : Heap} {l : Addr} {ns : List Int} (x : IntsL h l ns) : ∃ items, h.IsList l items ∧ items.size = ns.length ∧ ∀ (i : Nat) (v : Int), ns[i]? = some v → ∃ t, items[i]? = some (.int v t) := by
  obtain ⟨vs, hp, hi⟩ := x
  exact ⟨_, plain_isList hp, by simpa using hi.length, fun i v e => by simpa using intsAre_get hi e⟩
section
variable {prog : Program} {w : World} {A : Around} {E : Value → Shared → Prop} {Q : Value → Shared → Prop} {h : Heap} {gn : Array GenState} {dr : Drawn} {tk : Nat} {os : OsState} {env : Env}
/-- an item of a list of ints -/
theorem r_itemI {value slice : PySem.Expr} {l : Addr} {ns : List Int} {k x : Int} {u : Tok}
    (hl : IntsL h l ns) (h0 : 0 ≤ k) (hx : ns[k.toNat]? = some x) (hhi : ns.length < 2 ^ 60) (q : ∀ t, Q (.int x t) ⟨h, gn, dr, tk, os⟩)
    (hs : subscripted slice false (.ref l) (.int k u) = operate [.ref l, .int k u] (getItem (.ref l) (.int k u)) := by kernel_rfl) :
    wpAny (model prog w) A (subscriptTail value slice (.ref l) (.int k u)) Q E ⟨h, gn, dr, tk, os⟩ := by
  obtain ⟨items, h1, h2, h3⟩ := hl.get
  obtain ⟨t, ht⟩ := h3 _ _ hx
  have := (List.getElem?_eq_some_iff.mp hx).1
  exact r_item h1 h0 (by lia) ht (q t) hs
theorem e_dict1 {ke ve : PySem.Expr} {pos : Pos}
    (q : wpAny (model prog w) A (eval ke env) (fun kv s₁ => wpAny (model prog w) A (eval ve env) (fun vv s₂ => ∃ k t h₂ tk₂, kv = .int k t ∧ s₂ = ⟨h₂, gn, dr, tk₂, os⟩ ∧ DictI prog w h₂ h.objs.size [] ∧
      ∀ h' tk', DictI prog w h' h.objs.size [(k, vv)] → Heap.SameBut h.objs.size h₂ h' → Q (.ref h.objs.size) ⟨h', gn, dr, tk', os⟩) E s₁) E ⟨h.push { cls := .type "dict", data := .dict #[] }, gn, dr, tk, os⟩) :
    wpAny (model prog w) A (eval (.Dict [some ke] [ve] pos) env) Q E ⟨h, gn, dr, tk, os⟩ := by
  refine wpAny_Dict_any (s := ⟨h, gn, dr, tk, os⟩) rfl rfl (by simp) (by simp) ?_
  show wpAny _ _ (do
    let kv ← eval ke env
    let vv ← holding [kv] (do let x ← eval ve env; standAt pos; pure x)
    return (kv, vv) :: (← holding [kv, vv] (evalPairs []))) _ _ _
  refine wpAny_bind (wpAny_mono q (fun kv s₁ q => ?_) fun _ _ x => x)
  refine wpAny_bind (wpAny_holding (wpAny_bind (wpAny_mono q (fun vv s₂ q => ?_) fun _ _ x => x)))
  obtain ⟨k, t, h₂, tk₂, rfl, rfl, hd, q⟩ := q
  refine wpAny_bind (wpAny_standAt (wpAny_pure (wpAny_bind (wpAny_holding (wpAny_pure (wpAny_pure ?_))))))
  show wpAny _ _ (forIn [(Value.int k t, vv)] PUnit.unit fun (x : Value × Value) (_ : PUnit) => (do dictSet h.objs.size x.1 x.2; pure (ForInStep.yield PUnit.unit) : Sem (ForInStep PUnit))) _ _ _
  rw [List.forIn_cons]
  refine wpAny_bind (wpAny_bind (wpAny_dictSet_pairs (s := ⟨h₂, gn, dr, tk₂, os⟩) is_int hd (fun h' hm hs => wpAny_pure ?_) ?_))
  · dsimp only
    rw [List.forIn_nil]
    exact wpAny_pure (q h' _ hm hs)
  · simp
end
section
variable {prog : Program} {w : World} {A : Around} {E : Value → Shared → Prop} {mg mb : Str → Option Value} {fa : Nat → Addr} {g : Heap} {Q : Value → Shared → Prop} {h₀ : Heap} {gn : Array GenState} {dr : Drawn} {tk₀ : Nat} {os : OsState}
theorem arrival_spec {pr : Addr} {ps : List Int} {price lamp ways p : Int} {t1 t2 t3 : Tok}
    (B : Base mg mb fa g) (k : Le g h₀) (hp : IntsL h₀ pr ps) (hpl : ps.length < 2 ^ 60) (hl0 : 0 ≤ lamp) (hl : ps[lamp.toNat]? = some p) (hw1 : -(2 ^ 64) < ways) (hw2 : ways < 2 ^ 64) (hd : A.depth + 1 < recursionLimit)
    (q : ∀ h' tk v, StaAt prog w h₀.objs.size h' v ⟨1, ways, ways * p, ways * price, [(lamp, ways)]⟩ → Le h₀ h' → Q v ⟨h', gn, dr, tk, os⟩) :
    wpAny (model prog w) A (call (.ref (fa 15)) [.ref pr, .int price t1, .int lamp t2, .int ways t3]) Q E ⟨h₀, gn, dr, tk₀, os⟩ := by
  refine call_fn 15 (binds := [("prices", .ref pr), ("price", .int price t1), ("lamp", .int lamp t2), ("ways", .int ways t3)]) B k (by lia) rfl (fun h₁ cd tk₁ hns hk₁ => ?_)
  have S := St.enter (D := []) (P := fun _ => True) hns hk₁ (by simp) (fun _ _ _ _ => trivial) trivial
  simp only [hideAll] at S
  have BG : Base mg mb fa h₀ := B.up k
  generalize hL : h₀.objs.size = L at S ⊢
  walk_at "mm"
  refine r_itemI (hp.up S.keep) hl0 hl hpl fun t4 => ?_
  refine r_mulL hw1 hw2 fun t5 tk5 => ?_
  walk_at "mm"
  refine r_mulL hw1 hw2 fun t6 tk6 => ?_
  walk_at "mm"
  refine e_dict1 ?_
  have S₂ := S.fresh (P₁ := fun h => DictI prog w h h₁.objs.size []) { cls := .type "dict", data := .dict #[] } rfl (fun h e => ⟨_, _, _, e, ⟨rfl, rfl, rfl⟩, rfl, by intro e he; simp at he, .nil, List.nodup_nil⟩) rfl (fun _ _ x k => x.at k)
  have hsl := S.lt
  have hsys := BG.size_le S.keep
  have hlow : ∀ b o, h₁.get? b = some o → b ≠ h₁.objs.size := fun b o e => Nat.ne_of_lt (Heap.lt_size e)
  generalize h₁.objs.size = d at S₂ hsl hsys hlow ⊢
  walk_at "mm"
  refine ⟨lamp, _, _, _, rfl, rfl, S₂.here.1, fun h₃ tk₃ hd₃ hs₃ => ?_⟩
  have k₃ : Le h₁ h₃ := fun b o e => (hs₃.2 b (hlow b o e)).trans (Heap.get?_push_of_some _ e)
  walk_at "mm"
  refine r_tuple (by rw [sizeLine_eq]; simp) fun h₇ a ha ht k₇ => ?_
  refine q h₇ _ _ ⟨a, d, _, _, _, _, _, rfl, ?_, hL ▸ Nat.le_of_lt hsl, ht, hd₃.keep k₇, .cons .nil, ne_sys hsys⟩ ((S.keep.trans k₃).trans k₇)
  exact hL ▸ Nat.le_trans (Nat.le_of_lt (S.grow k₃).lt) ha
end
/-- what _law_choose reckons -/
def chz (n : Int) : Nat → Int
  | 0 => 1
  | k + 1 => (chz n k * (n - k)).fdiv (k + 1)
section
variable {prog : Program} {w : World} {A : Around} {E : Value → Shared → Prop} {mg mb : Str → Option Value} {fa : Nat → Addr} {g : Heap} {Q : Value → Shared → Prop} {h₀ : Heap} {gn : Array GenState} {dr : Drawn} {tk₀ : Nat} {os : OsState}
theorem choose_spec {n : Int} {m : Nat} {t1 t2 : Tok}
    (B : Base mg mb fa g) (k : Le g h₀) (hn1 : -(2 ^ 20) < n) (hn2 : n < 2 ^ 20) (hm : m < 2 ^ 20) (hh : A.handled = none) (hd : A.depth + 1 < recursionLimit)
    (q : ∀ h' tk t, Le h₀ h' → Q (.int (chz n m) t) ⟨h', gn, dr, tk, os⟩) :
    wpAny (model prog w) A (call (.ref (fa 17)) [.int n t1, .int m t2]) Q E ⟨h₀, gn, dr, tk₀, os⟩ := by
  refine call_fn 17 (binds := [("things", .int n t1), ("taken", .int m t2)]) B k (by lia) rfl (fun h₁ cd tk₁ hns hk₁ => ?_)
  have S := St.enter (D := []) (P := fun _ => True) hns hk₁ (by simp) (fun _ _ _ _ => trivial) trivial
  simp only [hideAll] at S
  have BG : Base mg mb fa h₀ := B.up k
  generalize hL : h₀.objs.size = L at S ⊢
  walk_at "mm"
  have S₂ := ‹St _ _ _ _ _ _›
  refine wpAny_For ?_ (by intro _; rfl)
  refine e_ty BG S₂.keep boot_range ?_
  walk_at "mm"
  refine r_range1 fun h₃ tk₃ r t₀ t₁ hr k₃ => ?_
  have S₃ := S₂.grow k₃
  refine r_iterRange hr (by decide) (by decide) (by lia) (by lia) ?_
  rw [show (((m : Int) - 0).toNat) = m by lia]
  have S₄ := S₃.fresh (P₁ := fun h => IsRangeIter h h₃.objs.size 0 m 1) (iterObj 0 m 1) rfl (fun _ e => e) rfl iter_dep
  refine for_rng (D := []) (σ := Int × Tok) (P := fun _ _ _ => True) (ls := fun _ c => [("count", .int c.1 c.2), ("things", .int n t1)]) (F := fun i c => c.1 = chz n i) ((1 : Int), _) hh (by simp) (S₄.less ⟨rfl, rfl, trivial⟩) rfl (fun _ _ _ _ _ _ => trivial) ?_ ?_
  · rintro i ⟨c, t⟩ h tk t' hin hF S
    rw [show (0 : Int) + (i : Int) * 1 = i by lia] at S ⊢
    dsimp only at S hF
    walk_at "mm"
    refine r_mulR (by lia) (by lia) fun _ _ => ?_
    walk_at "mm"
    refine r_div (by lia) (by lia) fun t₅ tk₅ => ?_
    refine r_st S fun h₅ tk₅ S₅ _ => ?_
    walk_at "mm"
    refine ⟨.inl rfl, h₅, _, ((c * (n - i)).fdiv (i + 1), t₅), rfl, ?_, S₅.less (l := [("count", .int ((c * (n - i)).fdiv (i + 1)) t₅), ("things", .int n t1)]) ⟨rfl, rfl, trivial⟩⟩
    show (c * (n - i)).fdiv (i + 1) = chz n (i + 1)
    rw [chz, hF]
  · rintro ⟨c, t⟩ h tk hF S
    dsimp only
    walk_at "mm"
    rw [show c = chz n m from hF]
    exact q h _ _ S.keep
end
/-- the hue as rgb_to_hsv reckons it -/
def hueF (r g b n : Nat) : UInt64 :=
  (Float64.divmod (Float64.div (if r = n then Float64.sub (Float64.ofFrac false (n - b) n) (Float64.ofFrac false (n - g) n) else if g = n then Float64.sub (Float64.add 4611686018427387904 (Float64.ofFrac false (n - r) n)) (Float64.ofFrac false (n - b) n)
    else Float64.sub (Float64.add 4616189618054758400 (Float64.ofFrac false (n - g) n)) (Float64.ofFrac false (n - r) n)) 4618441417868443648) 4607182418800017408).2
/-- hue * 6 * value + 0.5 -/
def stepF (r g b n : Nat) : UInt64 := Float64.add (Float64.mul (Float64.mul (hueF r g b n) (Float64.ofInt 6)) (Float64.ofInt n)) 4602678819172646912
section
variable {prog : Program} {w : World} {A : Around} {E : Value → Shared → Prop} {Q : Value → Shared → Prop} {h : Heap} {gn : Array GenState} {dr : Drawn} {tk : Nat} {os : OsState} {t u x : Tok}
theorem r_max3 {a b c n : Int} (hh : A.handled = none) (h1 : a ≤ n) (h2 : b ≤ n) (h3 : c ≤ n) (h4 : a = n ∨ b = n ∨ c = n) (q : ∀ h' tk' t, Le h h' → Q (.int n t) ⟨h', gn, dr, tk', os⟩) :
    wpAny (model prog w) A (call (.builtin "max") [.int a t, .int b u, .int c x]) Q E ⟨h, gn, dr, tk, os⟩ := by
  refine max_three_ints (s := ⟨h, gn, dr, tk, os⟩) hh fun h' tk' k => ?_
  have : ∃ t', (if b > a then (if c > b then Value.int c x else .int b u) else (if c > a then .int c x else .int a t)) = .int n t' := by
    (repeat' split) <;> first
      | exact ⟨x, by rw [show c = n by lia]⟩
      | exact ⟨u, by rw [show b = n by lia]⟩
      | exact ⟨t, by rw [show a = n by lia]⟩
  obtain ⟨t', e⟩ := this
  rw [e]
  exact q h' tk' t' k
theorem r_min3 {a b c n : Int} (hh : A.handled = none) (h1 : n ≤ a) (h2 : n ≤ b) (h3 : n ≤ c) (h4 : a = n ∨ b = n ∨ c = n) (q : ∀ h' tk' t, Le h h' → Q (.int n t) ⟨h', gn, dr, tk', os⟩) :
    wpAny (model prog w) A (call (.builtin "min") [.int a t, .int b u, .int c x]) Q E ⟨h, gn, dr, tk, os⟩ := by
  refine min_three_ints (s := ⟨h, gn, dr, tk, os⟩) hh fun h' tk' k => ?_
  have : ∃ t', (if b < a then (if c < b then Value.int c x else .int b u) else (if c < a then .int c x else .int a t)) = .int n t' := by
    (repeat' split) <;> first
      | exact ⟨x, by rw [show c = n by lia]⟩
      | exact ⟨u, by rw [show b = n by lia]⟩
      | exact ⟨t, by rw [show a = n by lia]⟩
  obtain ⟨t', e⟩ := this
  rw [e]
  exact q h' tk' t' k
theorem r_divIT {a b : Int} (hh : A.handled = none) (h1 : 0 ≤ a) (h2 : a < 2 ^ 60) (h3 : 0 < b) (q : Q (.float (Float64.ofFrac false a.toNat b.toNat) tk) ⟨h, gn, dr, tk + 1, os⟩) :
    wpAny (model prog w) A (binaryOp .Div (.int a t) (.int b u)) Q E ⟨h, gn, dr, tk, os⟩ := by
  refine Flt.div_ii_fits (s := ⟨h, gn, dr, tk, os⟩) hh (Nat.lt_of_lt_of_le (show a.natAbs < 2 ^ 60 by lia) (Nat.pow_le_pow_right (by decide) (by decide))) (fun e => absurd e (by lia)) fun _ _ => ?_
  rw [decide_eq_false (show ¬ a < 0 by lia), decide_eq_false (show ¬ b < 0 by lia), show a.natAbs = a.toNat by lia, show b.natAbs = b.toNat by lia]
  exact q
theorem pow1023 {a : Int} (h : a.natAbs < 2 ^ 60) : a.natAbs < 2 ^ 1023 := Nat.lt_of_lt_of_le h (Nat.pow_le_pow_right (by decide) (by decide))
theorem r_divI {a b : Int} (hh : A.handled = none) (h1 : 0 ≤ a) (h2 : a < 2 ^ 60) (h3 : 0 < b) (q : ∀ t tk', Q (.float (Float64.ofFrac false a.toNat b.toNat) t) ⟨h, gn, dr, tk', os⟩) :
    wpAny (model prog w) A (binaryOp .Div (.int a t) (.int b u)) Q E ⟨h, gn, dr, tk, os⟩ := by
  refine Flt.div_ii_fits (s := ⟨h, gn, dr, tk, os⟩) hh (pow1023 (by lia)) (fun e => absurd e (by lia)) fun _ _ => ?_
  rw [decide_eq_false (show ¬ a < 0 by lia), decide_eq_false (show ¬ b < 0 by lia), show a.natAbs = a.toNat by lia, show b.natAbs = b.toNat by lia]
  exact q _ _
variable {a b : UInt64}
theorem r_addF (q : ∀ t tk', Q (.float (Float64.add a b) t) ⟨h, gn, dr, tk', os⟩) : wpAny (model prog w) A (binaryOp .Add (.float a t) (.float b u)) Q E ⟨h, gn, dr, tk, os⟩ := add_float (q _ _)
theorem r_subF (q : ∀ t tk', Q (.float (Float64.sub a b) t) ⟨h, gn, dr, tk', os⟩) : wpAny (model prog w) A (binaryOp .Sub (.float a t) (.float b u)) Q E ⟨h, gn, dr, tk, os⟩ := sub_float (q _ _)
theorem r_mulFI {n : Int} (hn : n.natAbs < 2 ^ 60) (q : ∀ t tk', Q (.float (Float64.mul a (Float64.ofInt n)) t) ⟨h, gn, dr, tk', os⟩) : wpAny (model prog w) A (binaryOp .Mult (.float a t) (.int n u)) Q E ⟨h, gn, dr, tk, os⟩ := mul_fi_fits (pow1023 hn) (q _ _)
theorem r_divF (hh : A.handled = none) (hb : Float64.isZero b = false) (q : ∀ t tk', Q (.float (Float64.div a b) t) ⟨h, gn, dr, tk', os⟩) : wpAny (model prog w) A (binaryOp .Div (.float a t) (.float b u)) Q E ⟨h, gn, dr, tk, os⟩ :=
  truediv_float_or (s := ⟨h, gn, dr, tk, os⟩) hh (fun e => by rw [hb] at e; cases e) (fun _ => q _ _)
theorem r_modF (hh : A.handled = none) (hb : Float64.isZero b = false) (q : ∀ t tk', Q (.float (Float64.divmod a b).2 t) ⟨h, gn, dr, tk', os⟩) : wpAny (model prog w) A (binaryOp .Mod (.float a t) (.float b u)) Q E ⟨h, gn, dr, tk, os⟩ :=
  Flt.mod_ff (s := ⟨h, gn, dr, tk, os⟩) hh (fun e => by rw [hb] at e; cases e) (fun _ => q _ _)
theorem r_flt {M : Model} {env : Env} {y : UInt64} {kd : Nat} {pos : Pos} (q : ∀ t tk', Q (.float y t) ⟨h, gn, dr, tk', os⟩) : wpAny M A (eval (.Constant (.float y) kd pos) env) Q E ⟨h, gn, dr, tk, os⟩ := fun _ _ _ => q _ _
end
section
variable {prog : Program} {w : World} {A : Around} {E : Value → Shared → Prop} {mg mb : Str → Option Value} {fa : Nat → Addr} {g : Heap} {Q : Value → Shared → Prop} {h₀ : Heap} {gn : Array GenState} {dr : Drawn} {tk₀ : Nat} {os : OsState}
theorem hsv_spec {rr gg bb n : Nat} {t1 t2 t3 : Tok}
    (B : Base mg mb fa g) (k : Le g h₀) (h1 : rr ≤ n) (h2 : gg ≤ n) (h3 : bb ≤ n) (h4 : rr = n ∨ gg = n ∨ bb = n) (h5 : rr = 0 ∨ gg = 0 ∨ bb = 0) (hn0 : 0 < n) (hn : n < 2 ^ 20) (hh : A.handled = none) (hd : A.depth + 1 < recursionLimit)
    (q : ∀ h' tk a t4 t5 t6, h₀.objs.size ≤ a → t5 ≠ 0 → h'.IsTuple a #[.float (hueF rr gg bb n) t4, .float (Float64.ofFrac false n n) t5, .int n t6] → Le h₀ h' → Q (.ref a) ⟨h', gn, dr, tk, os⟩) :
    wpAny (model prog w) A (call (.ref (fa 1)) [.int rr t1, .int gg t2, .int bb t3]) Q E ⟨h₀, gn, dr, tk₀, os⟩ := by
  refine call_fn 1 (binds := [("r", .int rr t1), ("g", .int gg t2), ("b", .int bb t3)]) B k (by lia) rfl (fun h₁ cd tk₁ hns hk₁ => ?_)
  have S := St.enter (D := []) (P := fun _ => True) hns hk₁ (by simp) (fun _ _ _ _ => trivial) trivial
  simp only [hideAll] at S
  have BG : Base mg mb fa h₀ := B.up k
  generalize hL : h₀.objs.size = L at S ⊢
  walk_at "mm"
  refine e_bi BG S.keep boot_max ?_
  walk_at "mm"
  refine r_max3 (n := (n : Int)) hh (by lia) (by lia) (by lia) (by lia) fun h₂ tk₂ t4 k₂ => ?_
  have S₂ := S.grow k₂
  walk_at "mm"
  have S₃ := ‹St _ _ _ _ _ _›
  refine e_bi BG S₃.keep boot_min ?_
  walk_at "mm"
  refine r_min3 (n := 0) hh (by lia) (by lia) (by lia) (by lia) fun h₄ tk₄ t5 k₄ => ?_
  have S₄ := S₃.grow k₄
  refine r_st S₄ fun h₅ tk₅ Sa _ => ?_
  walk_at "mw"
  refine r_st Sa fun h₆ tk₆ Sb _ => ?_
  walk_at "mw"
  refine r_stT Sb fun h₇ Sc _ => ?_
  walk_at "mw"
  refine i_by (fun e => absurd e (by lia)) fun _ => ?_
  walk_at "mw"
  refine r_divIT hh (by lia) (by lia) (by lia) ?_
  have hpos : tk₆ + 1 ≠ 0 := Nat.succ_ne_zero _
  generalize tk₆ + 1 = t6 at hpos ⊢
  walk_at "mm"
  refine r_divI hh (by lia) (by lia) (by lia) fun t7 tk7 => ?_
  walk_at "mm"
  refine r_divI hh (by lia) (by lia) (by lia) fun t8 tk8 => ?_
  walk_at "mm"
  refine r_divI hh (by lia) (by lia) (by lia) fun t9 tk9 => ?_
  walk_at "mm"
  have S₅ := ‹St _ _ _ _ _ _›
  rw [show ((n : Int) - 0).toNat = n by lia, show ((n : Int)).toNat = n by lia, show ((n : Int) - rr).toNat = n - rr by lia, show ((n : Int) - gg).toNat = n - gg by lia, show ((n : Int) - bb).toNat = n - bb by lia] at S₅
  have z6 : Float64.isZero 4618441417868443648 = false := by decide +kernel
  have z1 : Float64.isZero 4607182418800017408 = false := by decide +kernel
  refine i_by (fun e => ?_) fun e => ?_
  · have eh : hueF rr gg bb n = (Float64.divmod (Float64.div (Float64.sub (Float64.ofFrac false (n - bb) n) (Float64.ofFrac false (n - gg) n)) 4618441417868443648) 4607182418800017408).2 := by
      unfold hueF; rw [if_pos (by lia)]
    walk_at "mm"
    refine r_subF fun _ _ => ?_
    walk_at "mm"
    refine r_flt fun _ _ => ?_
    refine r_divF hh z6 fun _ _ => ?_
    refine r_flt fun _ _ => ?_
    refine r_modF hh z1 fun _ _ => ?_
    walk_at "mm"
    have S₆ := ‹St _ _ _ _ _ _›
    refine r_tuple (by rw [sizeLine_eq]; simp) fun h₇ a ha ht k₇ => ?_
    exact q h₇ _ a _ _ _ (hL ▸ Nat.le_trans (Nat.le_of_lt S₆.lt) ha) hpos (eh ▸ ht) (S₆.keep.trans k₇)
  · walk_at "mm"
    refine i_by (fun e2 => ?_) fun e2 => ?_
    · have eh : hueF rr gg bb n = (Float64.divmod (Float64.div (Float64.sub (Float64.add 4611686018427387904 (Float64.ofFrac false (n - rr) n)) (Float64.ofFrac false (n - bb) n)) 4618441417868443648) 4607182418800017408).2 := by
        unfold hueF; rw [if_neg (by lia), if_pos (by lia)]
      walk_at "mm"
      refine r_flt fun _ _ => ?_
      walk_at "mm"
      refine r_addF fun _ _ => ?_
      walk_at "mm"
      refine r_subF fun _ _ => ?_
      walk_at "mm"
      refine r_flt fun _ _ => ?_
      refine r_divF hh z6 fun _ _ => ?_
      refine r_flt fun _ _ => ?_
      refine r_modF hh z1 fun _ _ => ?_
      walk_at "mm"
      have S₆ := ‹St _ _ _ _ _ _›
      refine r_tuple (by rw [sizeLine_eq]; simp) fun h₇ a ha ht k₇ => ?_
      exact q h₇ _ a _ _ _ (hL ▸ Nat.le_trans (Nat.le_of_lt S₆.lt) ha) hpos (eh ▸ ht) (S₆.keep.trans k₇)
    · have eh : hueF rr gg bb n = (Float64.divmod (Float64.div (Float64.sub (Float64.add 4616189618054758400 (Float64.ofFrac false (n - gg) n)) (Float64.ofFrac false (n - rr) n)) 4618441417868443648) 4607182418800017408).2 := by
        unfold hueF; rw [if_neg (by lia), if_neg (by lia)]
      walk_at "mm"
      refine r_flt fun _ _ => ?_
      walk_at "mm"
      refine r_addF fun _ _ => ?_
      walk_at "mm"
      refine r_subF fun _ _ => ?_
      walk_at "mm"
      refine r_flt fun _ _ => ?_
      refine r_divF hh z6 fun _ _ => ?_
      refine r_flt fun _ _ => ?_
      refine r_modF hh z1 fun _ _ => ?_
      walk_at "mm"
      have S₆ := ‹St _ _ _ _ _ _›
      refine r_tuple (by rw [sizeLine_eq]; simp) fun h₇ a ha ht k₇ => ?_
      exact q h₇ _ a _ _ _ (hL ▸ Nat.le_trans (Nat.le_of_lt S₆.lt) ha) hpos (eh ▸ ht) (S₆.keep.trans k₇)
end
theorem preSum_take (ns : List Int) : ∀ k, k ≤ ns.length → preSum (fun i => ns.getD i 0) k = (ns.take k).sum
  | 0, _ => by simp [preSum]
  | k + 1, h => by
    have hk : ns[k]? = some (ns[k]'(by lia)) := List.getElem?_eq_getElem (by lia)
    rw [preSum, preSum_take ns k (by lia), List.take_add_one, hk]
    simp only [List.getD, hk, Option.getD_some, Option.toList_some, List.sum_append, List.sum_cons, List.sum_nil, Int.add_zero]
theorem intsAre_at {vs : List Value} {ns : List Int} (h : IntsAre vs ns) {i : Nat} {v : Value} (e : vs[i]? = some v) : ∃ t, v = .int (ns.getD i 0) t := by
  have hl := h.length
  have hi : i < ns.length := by have := (List.getElem?_eq_some_iff.mp e).1; lia
  obtain ⟨t, ht⟩ := intsAre_get h (List.getElem?_eq_getElem hi)
  rw [e] at ht
  cases ht
  exact ⟨t, by simp [List.getD, List.getElem?_eq_getElem hi]⟩
theorem intsAre_of : ∀ {vs : List Value} {ns : List Int}, vs.length = ns.length → (∀ (k : Nat) (v : Value), vs[k]? = some v → ∃ t, v = .int (ns.getD k 0) t) → IntsAre vs ns
  | [], [], _, _ => .nil
  | v :: vs, n :: ns, hl, h => by
    obtain ⟨t, rfl⟩ := h 0 v rfl
    exact .cons _ _ (intsAre_of (by simpa using hl) fun k v e => by simpa using h (k + 1) v (by simpa using e))
  | [], _ :: _, hl, _ => by simp at hl
  | _ :: _, [], hl, _ => by simp at hl
theorem kept_all (n : Nat) : kept (fun _ => true) n = List.range n := by
  unfold kept; rw [List.filter_eq_self]; simp
theorem Made.all {Pv : Nat → Value → Prop} {Y : Nat → Value → Value → Heap → Prop} {n : Nat} {ys : List Value} {h : Heap} (m : Made (fun _ => true) Pv Y n ys h) : ys.length = n ∧ ∀ (k : Nat) (y : Value), ys[k]? = some y → ∃ v, Pv k v ∧ Y k v y h := by
  unfold Made at m
  rw [kept_all] at m
  refine ⟨by simpa using m.1, fun k y e => m.2 k y k e ?_⟩
  have := (List.getElem?_eq_some_iff.mp e).1
  rw [List.getElem?_range (by simpa [m.1] using this)]
section
variable {prog : Program} {w : World} {A : Around} {E : Value → Shared → Prop} {Q : Value → Shared → Prop} {h : Heap} {gn : Array GenState} {dr : Drawn} {tk : Nat} {os : OsState} {t u : Tok} {a b : Int}
theorem no_tests {M : Model} {env : Env} {Q : Bool → Shared → Prop} {s : Shared} (q : Q true s) : wpAny M A (forIn ([] : List PySem.Expr) true fun c r => if r = true then do let ok ← isTrue c env (eval c env); pure (ForInStep.yield ok) else pure (ForInStep.yield r)) Q E s := by
  rw [List.forIn_nil]; exact wpAny_pure q
theorem r_sum {l : Addr} {vs : List Value} {ns : List Int} (hh : A.handled = none) (hl : h.IsList l vs.toArray) (hi : IntsAre vs ns) (q : ∀ h' tk' t, Le h h' → Q (.int ns.sum t) ⟨h', gn, dr, tk', os⟩) :
    wpAny (model prog w) A (call (.builtin "sum") [.ref l]) Q E ⟨h, gn, dr, tk, os⟩ := by
  refine call_sum_walkG (wpAny_pyIter_list (s := ⟨h, gn, dr, tk, os⟩) hl ?_)
  have hlt := isList_lt hl
  have hne : l ≠ h.objs.size := Nat.ne_of_lt hlt
  refine ⟨_, [_, l], [_], _, _, _, fun i => ns.getD i 0, rfl, Walks.list (A := A.in1) hh _ l hne vs.toArray, ⟨⟨_, Heap.get?_push_size _ rfl, rfl, rfl⟩, (Le.push h _).list hl⟩, ?_, ?_, ?_⟩
  · intro b hb
    show b < (h.push _).objs.size
    rw [Heap.size_push]
    rcases List.mem_cons.mp hb with rfl | hb
    · exact Nat.lt_succ_self _
    · rw [List.mem_singleton.mp hb]; exact Nat.lt_succ_of_lt hlt
  · intro i v hv
    exact intsAre_at hi (by simpa using hv)
  · intro h' tk' t' k
    have : preSum (fun i => ns.getD i 0) vs.toArray.size = ns.sum := by
      rw [show vs.toArray.size = ns.length by simpa using hi.length, preSum_take _ _ (Nat.le_refl _), List.take_length]
    rw [this]
    refine q h' tk' t' fun b o e => k b o ?_ (Heap.get?_push_of_some _ e)
    intro hb
    rw [List.mem_singleton.mp hb] at e
    exact absurd (Heap.lt_size e) (Nat.lt_irrefl _)
theorem r_divmod (hb : b ≠ 0) (hs : b.natAbs < 1073741824) (q : ∀ h' tk' a' t1 t2, h.objs.size ≤ a' → h'.IsTuple a' #[.int (a.fdiv b) t1, .int (a.fmod b) t2] → Le h h' → Q (.ref a') ⟨h', gn, dr, tk', os⟩) :
    wpAny (model prog w) A (call (.builtin "divmod") [.int a t, .int b u]) Q E ⟨h, gn, dr, tk, os⟩ :=
  divmod_int (s := ⟨h, gn, dr, tk, os⟩) hb (q _ _ _ _ _ (Nat.le_refl _) ⟨_, Heap.get?_push_size _ rfl, rfl, _, rfl⟩ (Le.push _ _)) (.inl (PyProof.noPylong_small hs))
def isFinI (x : UInt64) (k : Int) : Bool := match Float64.decode x with
  | .fin sg m e => Float64.truncOf sg m e == k
  | _ => false
theorem r_intF {x : UInt64} {k : Int} (hx : isFinI x k = true) (q : ∀ t tk', Q (.int k t) ⟨h, gn, dr, tk', os⟩) : wpAny (model prog w) A (call (.type "int") [.float x u]) Q E ⟨h, gn, dr, tk, os⟩ := by
  unfold isFinI at hx
  split at hx
  · rename_i sg m e hd
    have := eq_of_beq hx
    exact call_int_float hd (by rw [this]; exact q _ _)
  · cases hx
theorem r_lenD {d : Addr} {kvs : List (Int × Value)} (hd : (d == sysModules) = false) (hm : DictI prog w h d kvs) (hf : kvs.length < 2 ^ 60) (q : ∀ t tk', Q (.int kvs.length t) ⟨h, gn, dr, tk', os⟩) :
    wpAny (model prog w) A (call (.builtin "len") [.ref d]) Q E ⟨h, gn, dr, tk, os⟩ := call_len_dict (s := ⟨h, gn, dr, tk, os⟩) hd hm (by lia) (q _ _)
theorem r_getD {value slice : PySem.Expr} {d : Addr} {kvs : List (Int × Value)} {k : Int} {u : Tok} {v : Value} (hm : DictI prog w h d kvs) (hv : valueAt kvs k = some v) (q : ∀ tk', Q v ⟨h, gn, dr, tk', os⟩)
    (hs : subscripted slice false (.ref d) (.int k u) = operate [.ref d, .int k u] (getItem (.ref d) (.int k u)) := by kernel_rfl) :
    wpAny (model prog w) A (subscriptTail value slice (.ref d) (.int k u)) Q E ⟨h, gn, dr, tk, os⟩ :=
  tail_any (s := ⟨h, gn, dr, tk, os⟩) (Heap.DictOf.typeIs (s := ⟨h, gn, dr, tk, os⟩) hm) F.slot_dict_getitem.lookup (wpAny_getItem_of (s := ⟨h, gn, dr, tk, os⟩) is_int hm.mapOf hv (q _)) hs
theorem r_itemT {value slice : PySem.Expr} {l : Addr} {items : Array Value} {k : Int} {u : Tok} {v : Value}
    (hl : h.IsTuple l items) (h0 : 0 ≤ k) (hhi : k < 2 ^ 63) (hx : items[k.toNat]? = some v) (q : Q v ⟨h, gn, dr, tk, os⟩)
    (hs : subscripted slice false (.ref l) (.int k u) = operate [.ref l, .int k u] (getItem (.ref l) (.int k u)) := by kernel_rfl) :
    wpAny (model prog w) A (subscriptTail value slice (.ref l) (.int k u)) Q E ⟨h, gn, dr, tk, os⟩ := by
  have hlt := (Array.getElem?_eq_some_iff.mp hx).1
  have hk : seqIndex? k items.size = some k.toNat := by
    have e : seqIndex? k items.size = if (decide (0 ≤ k) && decide (k < items.size)) = true then some k.toNat else none := by
      unfold seqIndex?
      simp only [if_neg (show ¬ k < 0 by lia)]
    rw [e, if_pos (by simp; lia)]
  exact tail_any (s := ⟨h, gn, dr, tk, os⟩) (T := "tuple") (let ⟨o, ho, hc, _⟩ := hl; ⟨o, ho, hc⟩) PyProof.Rows.slot_tuple_getitem.lookup (PyProof.Rows.getItem_tuple (s := ⟨h, gn, dr, tk, os⟩) hl (by lia) hhi hk hx q) hs
end
/-- the tint of a step i beyond the lamp s, at value n -/
def rgbOf (s i n : Nat) : Nat × Nat × Nat := match s with
  | 0 => (n, i, 0)
  | 1 => (n - i, n, 0)
  | 2 => (0, n, i)
  | 3 => (0, n - i, n)
  | 4 => (i, 0, n)
  | _ => (n, 0, n - i)
def tintOf (s i n : Nat) : Nat := 256 * (rgbOf s i n).1 + 16 * (rgbOf s i n).2.1 + (rgbOf s i n).2.2
def okF (s i n : Nat) : Bool := isFinI (stepF (rgbOf s i n).1 (rgbOf s i n).2.1 (rgbOf s i n).2.2 n) (s * n + i)
def okN (n : Nat) : Bool := Float64.ofFrac false n n == 4607182418800017408 && (List.range 6).all fun s => (List.range n).all fun i => okF s i n
set_option maxRecDepth 100000 in
theorem ok_1 : okN 1 = true := by decide +kernel
set_option maxRecDepth 100000 in
theorem ok_2 : okN 2 = true := by decide +kernel
set_option maxRecDepth 100000 in
theorem ok_3 : okN 3 = true := by decide +kernel
set_option maxRecDepth 100000 in
theorem ok_4 : okN 4 = true := by decide +kernel
set_option maxRecDepth 100000 in
theorem ok_5 : okN 5 = true := by decide +kernel
set_option maxRecDepth 100000 in
theorem ok_6 : okN 6 = true := by decide +kernel
set_option maxRecDepth 100000 in
theorem ok_7 : okN 7 = true := by decide +kernel
set_option maxRecDepth 100000 in
theorem ok_8 : okN 8 = true := by decide +kernel
set_option maxRecDepth 100000 in
theorem ok_9 : okN 9 = true := by decide +kernel
set_option maxRecDepth 100000 in
theorem ok_10 : okN 10 = true := by decide +kernel
set_option maxRecDepth 100000 in
theorem ok_11 : okN 11 = true := by decide +kernel
set_option maxRecDepth 100000 in
theorem ok_12 : okN 12 = true := by decide +kernel
theorem okN_all {n : Nat} (h0 : 0 < n) (h : n ≤ 12) : okN n = true := by
  rcases (by lia : n = 1 ∨ n = 2 ∨ n = 3 ∨ n = 4 ∨ n = 5 ∨ n = 6 ∨ n = 7 ∨ n = 8 ∨ n = 9 ∨ n = 10 ∨ n = 11 ∨ n = 12) with rfl | rfl | rfl | rfl | rfl | rfl | rfl | rfl | rfl | rfl | rfl | rfl
  · exact ok_1
  · exact ok_2
  · exact ok_3
  · exact ok_4
  · exact ok_5
  · exact ok_6
  · exact ok_7
  · exact ok_8
  · exact ok_9
  · exact ok_10
  · exact ok_11
  · exact ok_12
theorem okF_all {s i n : Nat} (hs : s < 6) (hi : i < n) (h : n ≤ 12) : okF s i n = true := by
  have h1 := okN_all (by lia : 0 < n) h
  unfold okN at h1
  rw [Bool.and_eq_true] at h1
  have h2 := List.all_eq_true.mp h1.2 s (List.mem_range.mpr hs)
  exact List.all_eq_true.mp h2 i (List.mem_range.mpr hi)
theorem one_all {n : Nat} (h0 : 0 < n) (h : n ≤ 12) : Float64.ofFrac false n n = 4607182418800017408 := by
  have h1 := okN_all h0 h
  unfold okN at h1
  rw [Bool.and_eq_true] at h1
  exact eq_of_beq h1.1
theorem rgb_facts {s i n : Nat} (hs : s < 6) (hi : i < n) : (rgbOf s i n).1 ≤ n ∧ (rgbOf s i n).2.1 ≤ n ∧ (rgbOf s i n).2.2 ≤ n ∧ ((rgbOf s i n).1 = n ∨ (rgbOf s i n).2.1 = n ∨ (rgbOf s i n).2.2 = n) ∧ ((rgbOf s i n).1 = 0 ∨ (rgbOf s i n).2.1 = 0 ∨ (rgbOf s i n).2.2 = 0) := by
  rcases (by lia : s = 0 ∨ s = 1 ∨ s = 2 ∨ s = 3 ∨ s = 4 ∨ s = 5) with rfl | rfl | rfl | rfl | rfl | rfl <;> (simp [rgbOf]; try lia)
theorem tint_parts {s i n : Nat} (hs : s < 6) (hi : i < n) (hn : n ≤ 15) : ((tintOf s i n : Nat) : Int).fdiv 256 = ((rgbOf s i n).1 : Nat) ∧ (((tintOf s i n : Nat) : Int).fdiv 16).fmod 16 = ((rgbOf s i n).2.1 : Nat) ∧ ((tintOf s i n : Nat) : Int).fmod 16 = ((rgbOf s i n).2.2 : Nat) := by
  have := rgb_facts hs hi
  unfold tintOf
  rw [Int.fdiv_eq_ediv_of_nonneg _ (by decide), Int.fdiv_eq_ediv_of_nonneg _ (by decide), Int.fmod_eq_emod_of_nonneg _ (by decide), Int.fmod_eq_emod_of_nonneg _ (by decide)]
  lia
/-- the last lamps, as _law_told says them -/
def lastsOf (s i n : Nat) : List (Int × Int) := ((s : Int), chz ((n : Int) - 1) i) :: (if 0 < i then [((((s + 1) % 6 : Nat) : Int), chz ((n : Int) - 1) (i - 1))] else [])
def priceOf (ps : List Int) (s i n : Nat) : Int := ((n : Int) - i) * ps.getD s 0 + i * ps.getD ((s + 1) % 6) 0
def toldSta (ps : List Int) (s i n : Nat) : Sta where
  cc := (lastsOf s i n).length
  nc := chz n i
  tt := ((lastsOf s i n).map fun p => p.2 * ps.getD p.1.toNat 0).sum
  ct := chz n i * priceOf ps s i n
  cs := lastsOf s i n
theorem valueAt_cons (p : Int × Value) (r : List (Int × Value)) (k : Int) : valueAt (p :: r) k = if p.1 = k then some p.2 else valueAt r k := by
  unfold valueAt
  rw [List.find?_cons]
  by_cases h : p.1 = k
  · rw [if_pos h]; simp [h]
  · rw [if_neg h]; simp [h]
theorem valueAt_get : ∀ {kvs : List (Int × Value)} {j : Nat} {p : Int × Value}, (kvs.map (·.1)).Nodup → kvs[j]? = some p → valueAt kvs p.1 = some p.2
  | [], _, _, _, e => by simp at e
  | a :: r, 0, p, _, e => by simp at e; subst e; rw [valueAt_cons, if_pos rfl]
  | a :: r, j + 1, p, hn, e => by
    simp at e
    rw [List.map_cons, List.nodup_cons] at hn
    rw [valueAt_cons, if_neg, valueAt_get hn.2 e]
    intro q
    exact hn.1 (q ▸ List.mem_map_of_mem (List.mem_of_getElem? e))
theorem ne_add (a k : Nat) (h : 0 < k) : a + k ≠ a := by lia
section
variable {prog : Program} {w : World} {A : Around} {E : Value → Shared → Prop} {mg mb : Str → Option Value} {fa : Nat → Addr} {g : Heap} {Q : Value → Shared → Prop} {h₀ : Heap} {gn : Array GenState} {dr : Drawn} {tk₀ : Nat} {os : OsState}
set_option maxHeartbeats 2000000 in
theorem told_spec {pr : Addr} {ps : List Int} {s i n : Nat} {t1 : Tok}
    (B : Base mg mb fa g) (k : Le g h₀) (hp : IntsL h₀ pr ps) (hpl : ps.length = 6) (hpb : ∀ p ∈ ps, 0 ≤ p ∧ p < 1000) (hs : s < 6) (hi : i < n) (hn : n ≤ 12)
    (hh : A.handled = none) (hd : A.depth + 2 < recursionLimit)
    (q : ∀ h' tk a bv t1 t2, h₀.objs.size ≤ a → t1 ≠ 0 → h'.IsTuple a #[.float 4607182418800017408 t1, .int (priceOf ps s i n) t2, bv] → StaAt prog w h₀.objs.size h' bv (toldSta ps s i n) → Le h₀ h' → Q (.ref a) ⟨h', gn, dr, tk, os⟩) :
    wpAny (model prog w) A (call (.ref (fa 18)) [.int (tintOf s i n) t1, .ref pr]) Q E ⟨h₀, gn, dr, tk₀, os⟩ := by
  refine call_fnC 18 (binds := [("tint", .int (tintOf s i n) t1), ("prices", .ref pr)]) B k (by lia) rfl (fun h₁ cd tk₁ hns hk₁ hce => ?_)
  have hc1 : h₁.IsCell (h₀.objs.size + 1) (some (.ref pr)) := hce "prices" (h₀.objs.size + 1) (by kernel_rfl)
  have hc2 : h₁.IsCell (h₀.objs.size + 2) none := hce "lasts" (h₀.objs.size + 2) (by kernel_rfl)
  have hloc : Loc h₁ h₀.objs.size [("tint", .int (tintOf s i n) t1)] := ⟨_, hns, fun x v e => by
    have hx : x = "tint" ∧ v = .int (tintOf s i n) t1 := by
      rw [List.lookup_cons] at e
      cases h : x == "tint" with
      | true => rw [h] at e; cases e; exact ⟨eq_of_beq h, rfl⟩
      | false => rw [h] at e; cases e
    obtain ⟨rfl, rfl⟩ := hx
    kernel_rfl⟩
  have none_at : ∀ a, h₀.objs.size ≤ a → h₀.get? a = none := fun a ha => by
    cases e : h₀.get? a with
    | none => rfl
    | some o => exact absurd (Heap.lt_size e) (Nat.not_lt.mpr ha)
  have S : St h₀ h₀.objs.size [h₀.objs.size + 1, h₀.objs.size + 2] (fun h => h.IsCell (h₀.objs.size + 1) (some (.ref pr)) ∧ h.IsCell (h₀.objs.size + 2) none) h₁ [("tint", .int (tintOf s i n) t1)] :=
    { loc := hloc, keep := hk₁, offL := none_at _ (Nat.le_refl _)
      offD := fun d hd => by
        simp at hd
        rcases hd with rfl | rfl
        · exact ⟨none_at _ (Nat.le_add_right _ _), ne_add _ _ (by decide)⟩
        · exact ⟨none_at _ (Nat.le_add_right _ _), ne_add _ _ (by decide)⟩
      dep := fun h h' x k => ⟨cell_dep x.1 (k _ (by simp)), cell_dep x.2 (k _ (by simp))⟩
      here := ⟨hc1, hc2⟩ }
  have BG : Base mg mb fa h₀ := B.up k
  have hh' : ∀ env, (A.deeper env).handled = none := fun _ => hh
  clear hce hns hloc hc1 hc2
  generalize hL : h₀.objs.size = L at S ⊢
  obtain ⟨f1, f2, f3, f4, f5⟩ := rgb_facts hs hi
  obtain ⟨p1, p2, p3⟩ := tint_parts hs hi (by lia : n ≤ 15)
  walk_at "mw"
  refine Assign_Tuple ?_ (by kernel_rfl) (by kernel_rfl)
  refine e_fn 1 BG S.keep ?_
  walk_at "mm"
  refine r_div (by decide) (by decide) fun _ _ => ?_
  walk_at "mm"
  refine r_div (by decide) (by decide) fun _ _ => ?_
  walk_at "mm"
  refine r_mod (by decide) fun _ _ => ?_
  walk_at "mm"
  refine r_mod (by decide) fun _ _ => ?_
  walk_at "mm"
  refine ⟨S.keep, ?_⟩
  rw [p1, p2, p3]
  refine hsv_spec BG S.keep f1 f2 f3 f4 f5 (by lia) (by lia) (hh' _) (by show A.depth + 1 + 1 < _; lia) fun h₂ tk₂ a₂ t4 t5 t6 ha₂ hpos ht₂ k₂ => ?_
  have S₂ := S.grow k₂
  refine r_unpack (hh' _) ht₂ fun h₃ k₃ => ?_
  have S₃ := S₂.grow k₃
  walk_at "mm"
  refine Assign_Tuple ?_ (by kernel_rfl) (by kernel_rfl)
  have S₄ := ‹St _ _ _ _ _ _›
  refine e_bi BG S₄.keep boot_divmod ?_
  walk_at "mm"
  refine e_ty BG S₄.keep boot_int ?_
  walk_at "mm"
  refine r_mulFI (by decide) fun _ _ => ?_
  walk_at "mm"
  refine r_mulFI (by lia) fun _ _ => ?_
  refine r_flt fun _ _ => ?_
  refine r_addF fun _ _ => ?_
  walk_at "mm"
  have hok := okF_all hs hi hn
  unfold okF stepF at hok
  refine r_intF hok fun _ _ => ?_
  walk_at "mm"
  have ed : ((s : Int) * n + i).fdiv n = s := by
    rw [Int.fdiv_eq_ediv_of_nonneg _ (by lia), Int.mul_comm, Int.add_comm, Int.add_mul_ediv_left _ _ (by lia), Int.ediv_eq_zero_of_lt (by lia) (by lia)]; simp
  have em : ((s : Int) * n + i).fmod n = i := by
    rw [Int.fmod_eq_emod_of_nonneg _ (by lia), Int.mul_comm, Int.add_comm, Int.add_mul_emod_self_left, Int.emod_eq_of_lt (by lia) (by lia)]
  refine r_divmod (by lia) (by lia) fun h₅ tk₅ a₅ t7 t8 ha₅ ht₅ k₅ => ?_
  rw [ed, em] at ht₅
  have S₅ := S₄.grow k₅
  refine r_unpack (hh' _) ht₅ fun h₆ k₆ => ?_
  have S₆ := S₅.grow k₆
  walk_at "mm"
  have S₇ := ‹St _ _ _ _ _ _›
  have hget : ∀ j : Nat, j < 6 → ps[((j : Nat) : Int).toNat]? = some (ps.getD j 0) := fun j hj => by
    rw [Int.toNat_natCast, List.getElem?_eq_getElem (by lia)]; simp [List.getD, List.getElem?_eq_getElem (show j < ps.length by lia)]
  have hbnd : ∀ j : Nat, j < 6 → 0 ≤ ps.getD j 0 ∧ ps.getD j 0 < 1000 := fun j hj => hpb _ (List.mem_of_getElem? (hget j hj))
  have hj2 : (s + 1) % 6 < 6 := Nat.mod_lt _ (by decide)
  have e6 : ((s : Int) + 1).fmod 6 = (((s + 1) % 6 : Nat) : Int) := by rw [Int.fmod_eq_emod_of_nonneg _ (by decide)]; lia
  have b1 := hbnd s hs
  have b2 := hbnd _ hj2
  refine r_ldC S₇.here.1 ?_
  walk_at "mm"
  refine r_itemI (hp.up S₇.keep) (by lia) (hget s hs) (by lia) fun _ => ?_
  refine r_mulR (by lia) (by lia) fun _ _ => ?_
  walk_at "mm"
  refine r_ldC S₇.here.1 ?_
  walk_at "mm"
  refine r_mod (by decide) fun _ _ => ?_
  rw [e6]
  refine r_itemI (hp.up S₇.keep) (by lia) (hget _ hj2) (by lia) fun _ => ?_
  refine r_mulR (by lia) (by lia) fun _ _ => ?_
  walk_at "mm"
  have S₈ := ‹St _ _ _ _ _ _›
  change St h₀ L _ _ _ ((_, .int (priceOf ps s i n) _) :: _) at S₈
  refine e_fn 17 BG S₈.keep ?_
  walk_at "mm"
  refine ⟨S₈.keep, ?_⟩
  refine choose_spec BG S₈.keep (by lia) (by lia) (by lia) (hh' _) (by show A.depth + 1 + 1 < _; lia) fun h₉ tk₉ t₉ k₉ => ?_
  have S₉ := S₈.grow k₉
  walk_at "mm"
  rename_i hX tkX Sa hsX
  clear hsX
  refine e_dict1 ?_
  have Sb := Sa.fresh (P₁ := fun h => DictI prog w h hX.objs.size []) { cls := .type "dict", data := .dict #[] } rfl (fun h e => ⟨_, _, _, e, ⟨rfl, rfl, rfl⟩, rfl, by intro e he; simp at he, .nil, List.nodup_nil⟩) rfl (fun _ _ x k => x.at k)
  have hdL : L < hX.objs.size := Sa.lt
  have hdC : ∀ c, (∃ v, hX.IsCell c v) → c ≠ hX.objs.size := fun c ⟨v, o, ho, _⟩ => Nat.ne_of_lt (Heap.lt_size ho)
  have hd1 := hdC _ ⟨_, Sa.here.1⟩
  have hd2 := hdC _ ⟨_, Sa.here.2⟩
  have hsys := BG.size_le Sa.keep
  have hlow : ∀ b o, hX.get? b = some o → b ≠ hX.objs.size := fun b o e => Nat.ne_of_lt (Heap.lt_size e)
  generalize hX.objs.size = d at Sb hdL hd1 hd2 hsys hlow ⊢
  walk_at "mm"
  refine e_fn 17 BG Sb.keep ?_
  walk_at "mm"
  refine ⟨Sb.keep, ?_⟩
  refine choose_spec BG Sb.keep (by lia) (by lia) (by lia) (hh' _) (by show A.depth + 1 + 1 < _; lia) fun hY tkY tY kY => ?_
  have Sc := Sb.grow kY
  refine ⟨(s : Int), _, hY, _, rfl, rfl, Sc.here.1, fun hZ tkZ hdZ hsZ => ?_⟩
  have Sd := Sc.same (P' := fun h => DictI prog w h d [((s : Int), .int (chz ((n : Int) - 1) i) tY)] ∧ h.IsCell (L + 1) (some (.ref pr)) ∧ h.IsCell (L + 2) none) (.head _) hsZ
    ⟨hdZ, cell_dep Sc.here.2.1 fun o e => (hsZ.2 _ hd1).trans e, cell_dep Sc.here.2.2 fun o e => (hsZ.2 _ hd2).trans e⟩ (fun h h' x k => ⟨x.1.at (k d (.head _)), cell_dep x.2.1 (k _ (by simp)), cell_dep x.2.2 (k _ (by simp))⟩)
  refine r_stC Sd.here.2.2 fun hV hcV hsV => ?_
  have n12 : L + 1 ≠ L + 2 := by lia
  have Se := Sd.same (P' := fun h => DictI prog w h d [((s : Int), .int (chz ((n : Int) - 1) i) tY)] ∧ h.IsCell (L + 1) (some (.ref pr)) ∧ h.IsCell (L + 2) (some (.ref d))) (by simp : L + 2 ∈ [d, L + 1, L + 2]) hsV
    ⟨Sd.here.1.at fun o e => (hsV.2 _ (Ne.symm hd2)).trans e, cell_dep Sd.here.2.1 fun o e => (hsV.2 _ n12).trans e, hcV⟩ (fun h h' x k => ⟨x.1.at (k d (.head _)), cell_dep x.2.1 (k _ (by simp)), cell_dep x.2.2 (k _ (by simp))⟩)
  walk_at "m1"
  have depE : ∀ (kvs : List (Int × Value)) (h h' : Heap), (DictI prog w h d kvs ∧ h.IsCell (L + 1) (some (.ref pr)) ∧ h.IsCell (L + 2) (some (.ref d))) → (∀ x ∈ [d, L + 1, L + 2], ∀ o, h.get? x = some o → h'.get? x = some o) → (DictI prog w h' d kvs ∧ h'.IsCell (L + 1) (some (.ref pr)) ∧ h'.IsCell (L + 2) (some (.ref d))) :=
    fun kvs h h' x k => ⟨x.1.at (k d (.head _)), cell_dep x.2.1 (k _ (by simp)), cell_dep x.2.2 (k _ (by simp))⟩
  refine wpAny_mono (Q := fun f s' => f = .next ∧ ∃ h' tk kvs tp, s' = ⟨h', gn, dr, tk, os⟩ ∧ Ivs kvs (lastsOf s i n) ∧ St h₀ L [d, L + 1, L + 2] (fun h => DictI prog w h d kvs ∧ h.IsCell (L + 1) (some (.ref pr)) ∧ h.IsCell (L + 2) (some (.ref d))) h'
    [("share", .float (Float64.ofFrac false n n) t5), ("price", .int (priceOf ps s i n) tp), ("ways", .int (chz n i) t₉)]) ?_ ?_ (fun _ _ x => x)
  · walk_at "mm"
    refine i_by (fun h0 => ?_) fun h0 => ?_
    · walk_at "mm"
      refine e_fn 17 BG Se.keep ?_
      walk_at "mm"
      refine ⟨Se.keep, ?_⟩
      rw [show ((i : Int) - 1) = ((i - 1 : Nat) : Int) by lia]
      refine choose_spec BG Se.keep (by lia) (by lia) (by lia) (hh' _) (by show A.depth + 1 + 1 < _; lia) fun hY' tkY' tY' kY' => ?_
      have Sf := Se.grow kY'
      refine r_ldC Sf.here.2.2 ?_
      walk_at "mm"
      refine r_mod (by decide) fun _ _ => ?_
      rw [e6]
      refine r_setD Sf.here.1 (by simp) fun hW tkW hdW hsW => ?_
      have hne : (((s + 1) % 6 : Nat) : Int) ∉ [((s : Int), Value.int (chz ((n : Int) - 1) i) tY)].map (·.1) := by simp; lia
      rw [keys_app hne] at hdW
      have Sg := Sf.same (.head _) hsW ⟨hdW, cell_dep Sf.here.2.1 fun o e => (hsW.2 _ hd1).trans e, cell_dep Sf.here.2.2 fun o e => (hsW.2 _ hd2).trans e⟩ (depE _)
      walk_at "mm"
      refine ⟨rfl, hW, _, _, _, rfl, ?_, Sg.less ⟨rfl, rfl, rfl, trivial⟩⟩
      unfold lastsOf
      rw [if_pos (by lia)]
      exact .cons (.cons .nil)
    · walk_at "mm"
      refine ⟨rfl, hV, _, _, _, rfl, ?_, Se.less ⟨rfl, rfl, rfl, trivial⟩⟩
      unfold lastsOf
      rw [if_neg (by lia)]
      exact .cons .nil
  rintro f s' ⟨rfl, h', tk, kvs, tp, rfl, hiv, Sh⟩
  dsimp only
  clear Sa Sb Sc Sd Se
  obtain ⟨G, hG1, hG2, S₀⟩ := Sh.re [] (fun _ => True) trivial (fun _ _ _ _ => trivial) (by simp)
  have hdd : DictI prog w h' d kvs := Sh.here.1
  have hcp := Sh.here.2.1
  have hcl := Sh.here.2.2
  have hBG : Base mg mb fa h' := BG.up Sh.keep
  have hph : IntsL h' pr ps := hp.up Sh.keep
  walk_at "mm"
  refine e_bi hBG (Le.refl _) Boot.sum ?_
  refine args_cons ?_ (by kernel_rfl)
  refine e_comp (cl := [("prices", L + 1), ("lasts", L + 2)]) ?_
  refine r_ldC hcl ?_
  have hdS := ne_sys hsys
  obtain ⟨ep, hda⟩ := hdd.dictAt
  refine wpAny_pyIter_dict (s := ⟨h', gn, dr, _, os⟩) hdS hda ?_
  have hitn : ∀ b o, h'.get? b = some o → b ∉ [h'.objs.size] := fun b o e q => by
    rw [List.mem_singleton.mp q] at e; exact absurd (Heap.lt_size e) (Nat.lt_irrefl _)
  have hK : Le h' (hideAll (h'.push { cls := .type "dict_keyiterator", data := .fields #[.ref d, .int 0 0, .int kvs.length 0, .int ep 0] }) [h'.objs.size]) := fun b o e => hideAll_get _ (Heap.get?_push_of_some _ e) (hitn b o e)
  have hit1 : h'.objs.size < (h'.push { cls := .type "dict_keyiterator", data := .fields #[.ref d, .int 0 0, .int kvs.length 0, .int ep 0] }).objs.size := by rw [Heap.size_push]; exact Nat.lt_succ_self _
  have hit0 : (h'.push { cls := .type "dict_keyiterator", data := .fields #[.ref d, .int 0 0, .int kvs.length 0, .int ep 0] }).IsKeyIter h'.objs.size d 0 kvs.length ep := ⟨_, Heap.get?_push_size _ rfl, rfl, rfl⟩
  have hdne : d ≠ h'.objs.size := Nat.ne_of_lt (dictI_lt hdd)
  have hLe₂ := Le.push h' { cls := .type "dict_keyiterator", data := .fields #[.ref d, .int 0 0, .int kvs.length 0, .int ep 0] }
  dsimp only
  generalize h'.push { cls := .type "dict_keyiterator", data := .fields #[.ref d, .int 0 0, .int kvs.length 0, .int ep 0] } = h₂ at hK hit1 hit0 hLe₂ ⊢
  generalize hitE : h'.objs.size = it at hK hit1 hit0 hdne hitn ⊢
  have hll : (lastsOf s i n).length ≤ 2 := by unfold lastsOf; split <;> simp
  have hlk : ∀ p ∈ lastsOf s i n, ∃ j : Nat, j < 6 ∧ p.1 = j := by
    unfold lastsOf
    intro p hp
    split at hp
    · simp at hp
      rcases hp with rfl | rfl
      · exact ⟨s, hs, rfl⟩
      · exact ⟨(s + 1) % 6, hj2, rfl⟩
    · simp at hp
      subst hp; exact ⟨s, hs, rfl⟩
  refine comp_turns (fun _ => true) (fun j v y _ => ∃ p t, (lastsOf s i n)[j]? = some p ∧ y = .int (p.2 * ps.getD p.1.toNat 0) t) (by rw [hiv.length]; lia) hit1 hit0 (Wk.keys (hh' _) (hK.dictAt hda) hdne) (fun _ _ _ _ _ x _ => x) (fun _ _ _ _ _ _ _ _ _ _ q => no_tests (q _)) ?_ ?_
  · rintro j v ys h₃ tk₃ Q' E' hj ⟨p, tp', hp', rfl⟩ _ S₃ q'
    obtain ⟨x, tx, hx1, hx2⟩ := hiv.at (k := p.1) (v := p.2) hp'
    obtain ⟨jj, hjj, ejj⟩ := hlk _ (List.mem_of_getElem? hx2)
    dsimp only at ejj
    have k₃ : Le h' h₃ := hK.trans S₃.keep
    have hva : valueAt kvs p.1 = some (.int x tx) := hx1 ▸ valueAt_get (dictI_nodup hdd) hp'
    walk_at "mm"
    refine r_ldC (hcl.keeps k₃) ?_
    walk_at "mm"
    refine r_getD (hdd.keep k₃) hva fun _ => ?_
    walk_at "mm"
    refine r_ldC (hcp.keeps k₃) ?_
    walk_at "mm"
    have hgj := hget jj hjj
    rw [← ejj] at hgj
    have hbj := hbnd jj hjj
    refine r_itemI (hph.up k₃) (by lia) hgj (by lia) fun _ => ?_
    refine r_mulR (by lia) (by lia) fun ty _ => ?_
    refine q' _ _ _ ⟨(p.1, x), ty, hx2, ?_⟩ (Le.refl _)
    rw [ejj]; simp
  intro h₅ tk₅ ys hb₅ hl₅ hM
  have k₅ : Le h' h₅ := fun b o e => hb₅ b o (fun q => hitn b o e (by simp [q])) (hLe₂ b o e)
  obtain ⟨hyl, hyv⟩ := hM.all
  have hints : IntsAre ys ((lastsOf s i n).map fun p => p.2 * ps.getD p.1.toNat 0) := by
    refine intsAre_of (by rw [hyl, hiv.length]; simp) fun k y e => ?_
    obtain ⟨v, _, p, t, e1, e2⟩ := hyv k y e
    exact ⟨t, by rw [e2]; simp [List.getD, e1]⟩
  walk_at "mm"
  refine r_sum (hh' _) (plain_isList hl₅) hints fun h₆ tk₆ t₆ k₆ => ?_
  have S₅ := S₀.grow (k₅.trans k₆)
  refine r_st S₅ fun hm tkm Sm hsm => ?_
  walk_at "mm"
  have km : ∀ b o, b ≠ L → h'.get? b = some o → hm.get? b = some o := fun b o hb e => (hsm.2 b hb).trans ((k₅.trans k₆) b o e)
  have hLn : L < h'.objs.size := Sh.lt
  have hcl' : hm.IsCell (L + 2) (some (.ref d)) := cell_dep hcl fun o e => km _ o (ne_add _ _ (by decide)) e
  have hdm : DictI prog w hm d kvs := hdd.at fun o e => km _ o (Nat.ne_of_gt hdL) e
  have hBm : Base mg mb fa hm := BG.up (hG1.trans Sm.keep)
  refine e_bi hBm (Le.refl _) boot_len ?_
  walk_at "mm"
  refine r_ldC hcl' ?_
  walk_at "mm"
  refine r_lenD hdS hdm (by rw [hiv.length]; lia) fun _ _ => ?_
  walk_at "mm"
  have hpb1 : -(2 ^ 64) < priceOf ps s i n ∧ priceOf ps s i n < 2 ^ 64 := by
    unfold priceOf
    have h1 : 0 ≤ ((n : Int) - i) * ps.getD s 0 := Int.mul_nonneg (by lia) b1.1
    have h2 : ((n : Int) - i) * ps.getD s 0 ≤ 12 * 1000 := Int.mul_le_mul (by lia) (by lia) b1.1 (by decide)
    have h3 : 0 ≤ (i : Int) * ps.getD ((s + 1) % 6) 0 := Int.mul_nonneg (by lia) b2.1
    have h4 : (i : Int) * ps.getD ((s + 1) % 6) 0 ≤ 12 * 1000 := Int.mul_le_mul (by lia) (by lia) b2.1 (by decide)
    lia
  refine r_mulR hpb1.1 hpb1.2 fun _ _ => ?_
  walk_at "mm"
  refine r_ldC hcl' ?_
  walk_at "mm"
  refine r_tuple (by rw [sizeLine_eq]; simp) fun h₇ a₇ ha₇ ht₇ k₇ => ?_
  walk_at "mm"
  refine r_tuple (by rw [sizeLine_eq]; simp) fun h₈ a₈ ha₈ ht₈ k₈ => ?_
  rw [one_all (by lia) hn] at ht₈
  have hLm : L ≤ hm.objs.size := Nat.le_of_lt Sm.lt
  refine q h₈ _ a₈ (.ref a₇) _ _ (hL ▸ Nat.le_trans (Nat.le_of_lt (Sm.grow k₇).lt) ha₈) hpos ht₈ ?_ (((hG1.trans Sm.keep).trans k₇).trans k₈)
  have hc : ((kvs.length : Nat) : Int) = (toldSta ps s i n).cc := by rw [hiv.length]; rfl
  rw [hc] at ht₇
  exact ⟨a₇, d, _, _, _, _, kvs, rfl, hL ▸ Nat.le_trans hLm ha₇, hL ▸ Nat.le_of_lt hdL, k₈.tuple ht₇, (hdm.keep k₇).keep k₈, hiv, hdS⟩
end
section
variable {prog : Program} {w : World} {A : Around} {E : Value → Shared → Prop} {Q : Value → Shared → Prop} {h : Heap} {gn : Array GenState} {dr : Drawn} {tk : Nat} {os : OsState} {env : Env}
theorem e_slice {M : Model} {lower upper step : Option PySem.Expr} {p : Pos} {s : Shared}
    (q : wpAny M A (evalPart lower env) (fun l s₁ => wpAny M A (evalPart upper env) (fun u s₂ => wpAny M A (evalPart step env) (fun st s₃ =>
      ∀ h' a, h'.IsSliceOf a l u st → Le s₃.heap h' → Q (.ref a) ⟨h', s₃.gens, s₃.drawn, s₃.toks, s₃.os⟩) E s₂) E s₁) E s) : wpAny M A (eval (.Slice lower upper step p) env) Q E s :=
  wpAny_Slice (wpAny_mono q (fun l s₁ q => wpAny_mono q (fun u s₂ q => wpAny_mono q (fun st s₃ q => q _ _ ⟨_, Heap.get?_push_size _ rfl, rfl, rfl⟩ (Le.push _ _)) fun _ _ x => x) fun _ _ x => x) fun _ _ x => x)
theorem pick_mem {items : Array Value} {lo hi st : Option Int} {v : Value} (h : v ∈ slicePick items lo hi st) : v ∈ items := by
  unfold slicePick at h
  rw [List.mem_toArray, List.mem_filterMap] at h
  obtain ⟨i, _, e⟩ := h
  exact Array.mem_of_getElem? e
theorem r_slice {value slice : PySem.Expr} {l sl : Addr} {items : Array Value} {vl vu vs : Value} {lo hi st : Option Int} (hl : h.IsList l items)
    (hs : h.IsSliceOf sl vl vu vs) (pl : IsPart vl lo) (pu : IsPart vu hi) (ps : IsPart vs st) (h0 : st ≠ some 0) (hz : items.size ≤ 2 ^ 20)
    (q : ∀ h' a, h.objs.size ≤ a → h'.PlainList a (slicePick items lo hi st) → Le h h' → Q (.ref a) ⟨h', gn, dr, tk, os⟩)
    (hsub : subscripted slice false (.ref l) (.ref sl) = operate [.ref l, .ref sl] (getItem (.ref l) (.ref sl)) := by kernel_rfl) :
    wpAny (model prog w) A (subscriptTail value slice (.ref l) (.ref sl)) Q E ⟨h, gn, dr, tk, os⟩ := by
  refine tail_any (s := ⟨h, gn, dr, tk, os⟩) (Heap.IsList.typeIs (s := ⟨h, gn, dr, tk, os⟩) hl) slot_list_getitem.lookup (wpAny_getItem_list_slice (s := ⟨h, gn, dr, tk, os⟩) hl hs pl pu ps h0 (q _ _ (Nat.le_refl _) ⟨_, Heap.get?_push_size _ rfl⟩ (Le.push _ _)) ?_) hsub
  rw [sizeLine_eq]; lia
end
section
variable {prog : Program} {w : World} {A : Around} {E : Value → Shared → Prop} {Q : Value → Shared → Prop} {h : Heap} {gn : Array GenState} {dr : Drawn} {tk : Nat} {os : OsState} {env : Env}
theorem r_boolC {M : Model} {b : Bool} {kd : Nat} {pos : Pos} {s : Shared} (q : Q (.bool b) s) : wpAny M A (eval (.Constant (.bool b) kd pos) env) Q E s := fun _ _ _ => q
/-- an item of a list of ints, from the end too -/
theorem r_itemZ {value slice : PySem.Expr} {l : Addr} {ns : List Int} {k x : Int} {u : Tok}
    (hl : IntsL h l ns) (h0 : -(ns.length : Int) ≤ k) (h1 : k < ns.length) (hx : ns[(if k < 0 then k + ns.length else k).toNat]? = some x) (hhi : ns.length < 2 ^ 60) (q : ∀ t, Q (.int x t) ⟨h, gn, dr, tk, os⟩)
    (hs : subscripted slice false (.ref l) (.int k u) = operate [.ref l, .int k u] (getItem (.ref l) (.int k u)) := by kernel_rfl) :
    wpAny (model prog w) A (subscriptTail value slice (.ref l) (.int k u)) Q E ⟨h, gn, dr, tk, os⟩ := by
  by_cases hk : k < 0
  · obtain ⟨items, h3, h4, h5⟩ := hl.get
    rw [if_pos hk] at hx
    obtain ⟨t, ht⟩ := h5 _ _ hx
    exact tail_any (s := ⟨h, gn, dr, tk, os⟩) (Heap.IsList.typeIs (s := ⟨h, gn, dr, tk, os⟩) h3) slot_list_getitem.lookup (wpAny_getItem_list_neg (s := ⟨h, gn, dr, tk, os⟩) h3 hk (by lia) (by lia) (by rw [h4]; exact ht) (q t)) hs
  · rw [if_neg hk] at hx
    exact r_itemI hl (by lia) hx hhi q hs
theorem r_setI {l : Addr} {ns : List Int} {k x : Int} {t u : Tok} {Q : Unit → Shared → Prop} (hl : IntsL h l ns) (h0 : 0 ≤ k) (hn : k < ns.length) (hhi : ns.length < 2 ^ 60)
    (q : ∀ h', IntsL h' l (ns.set k.toNat x) → Heap.SameBut l h h' → Q () ⟨h', gn, dr, tk, os⟩) : wpAny (model prog w) A (setItem (.ref l) (.int k t) (.int x u)) Q E ⟨h, gn, dr, tk, os⟩ := by
  obtain ⟨vs, hp, hi⟩ := hl
  have hlen := hi.length
  refine r_setItem hp h0 (by lia) (by simp; lia) fun h' hp' hs' => q h' ⟨vs.set k.toNat (.int x u), by simpa using hp', ?_⟩ hs'
  refine intsAre_of (by simpa using hlen) fun j v e => ?_
  rw [List.getElem?_set] at e
  split at e
  · rename_i hj
    subst hj
    split at e
    · cases e; exact ⟨u, by simp [List.getD, List.getElem?_set_self (show k.toNat < ns.length by lia)]⟩
    · cases e
  · rename_i hj
    obtain ⟨t, ht⟩ := intsAre_at hi e
    exact ⟨t, by rw [ht]; simp [List.getD, List.getElem?_set_ne hj]⟩
end
def Good6 (ps : List Int) : Prop := ps.length = 6 ∧ ∀ p ∈ ps, 1 ≤ p ∧ p ≤ 12
def conv (ps : List Int) (k : Nat) : Prop := ps.getD k 0 < ps.getD ((k + 5) % 6) 0 + ps.getD ((k + 1) % 6) 0
theorem Good6.at {ps : List Int} (g : Good6 ps) {j : Nat} (hj : j < 6) : ps[j]? = some (ps.getD j 0) ∧ 1 ≤ ps.getD j 0 ∧ ps.getD j 0 ≤ 12 := by
  have hl : j < ps.length := by rw [g.1]; exact hj
  have e : ps[j]? = some (ps.getD j 0) := by rw [List.getElem?_eq_getElem hl]; simp [List.getD, List.getElem?_eq_getElem hl]
  exact ⟨e, g.2 _ (List.mem_of_getElem? e)⟩
theorem sum_set : ∀ (ps : List Int) (k : Nat) (x : Int), k < ps.length → (ps.set k x).sum = ps.sum - ps.getD k 0 + x
  | p :: r, 0, x, _ => by simp; lia
  | p :: r, k + 1, x, h => by
    have := sum_set r k x (by simpa using h)
    simp at this ⊢
    lia
theorem sum_nonneg : ∀ (ps : List Int), (∀ p ∈ ps, 1 ≤ p ∧ p ≤ 12) → 0 ≤ ps.sum
  | [], _ => by simp
  | p :: r, h => by
    have := sum_nonneg r fun p hp => h p (.tail _ hp)
    have := h p (.head _)
    simp; lia
theorem not_in2 {p a b : Nat} (h : a < p) (h' : b < p) : p + 1 ∉ [a, b] := by simp; lia
theorem le_succ' {a b : Nat} (h : a < b) : a ≤ b + 1 := by lia
/-- the prices after settling -/
structure Settled (ps : List Int) : Prop where
  len : ps.length = 6
  bnd : ∀ p ∈ ps, 1 ≤ p ∧ p ≤ 12
  conv : ∀ k, k < 6 → ps.getD k 0 < ps.getD ((k + 5) % 6) 0 + ps.getD ((k + 1) % 6) 0
section
variable {prog : Program} {w : World} {A : Around} {E : Value → Shared → Prop} {mg mb : Str → Option Value} {fa : Nat → Addr} {g : Heap} {Q : Value → Shared → Prop} {h₀ : Heap} {gn : Array GenState} {dr : Drawn} {tk₀ : Nat} {os : OsState}
set_option maxHeartbeats 2000000 in
theorem prices_spec {sc : Addr} {vs : List Value} {ns : List Int}
    (B : Base mg mb fa g) (k : Le g h₀) (hsc : h₀.IsList sc vs.toArray) (hi : IntsAre vs ns) (hlen : vs.length ≤ 2 ^ 20)
    (hh : A.handled = none) (hd : A.depth + 2 < recursionLimit)
    (q : ∀ h' tk pr ps, h₀.objs.size ≤ pr → Settled ps → IntsL h' pr ps → Le h₀ h' → Q (.ref pr) ⟨h', gn, dr, tk, os⟩) :
    wpAny (model prog w) A (call (.ref (fa 13)) [.ref sc]) Q E ⟨h₀, gn, dr, tk₀, os⟩ := by
  refine call_fnC 13 (binds := [("script", .ref sc)]) B k (by lia) rfl (fun h₁ cd tk₁ hns hk₁ hce => ?_)
  have hc1 : h₁.IsCell (h₀.objs.size + 1) (some (.ref sc)) := hce "script" (h₀.objs.size + 1) (by kernel_rfl)
  have hc2 : h₁.IsCell (h₀.objs.size + 2) none := hce "seeds" (h₀.objs.size + 2) (by kernel_rfl)
  have none_at : ∀ a, h₀.objs.size ≤ a → h₀.get? a = none := fun a ha => by
    cases e : h₀.get? a with
    | none => rfl
    | some o => exact absurd (Heap.lt_size e) (Nat.not_lt.mpr ha)
  have S : St h₀ h₀.objs.size [h₀.objs.size + 1, h₀.objs.size + 2] (fun h => h.IsCell (h₀.objs.size + 1) (some (.ref sc)) ∧ h.IsCell (h₀.objs.size + 2) none) h₁ [] :=
    { loc := ⟨_, hns, fun _ _ e => by cases e⟩, keep := hk₁, offL := none_at _ (Nat.le_refl _)
      offD := fun d hd => by
        simp at hd
        rcases hd with rfl | rfl
        · exact ⟨none_at _ (Nat.le_add_right _ _), ne_add _ _ (by decide)⟩
        · exact ⟨none_at _ (Nat.le_add_right _ _), ne_add _ _ (by decide)⟩
      dep := fun h h' x k => ⟨cell_dep x.1 (k _ (by simp)), cell_dep x.2 (k _ (by simp))⟩
      here := ⟨hc1, hc2⟩ }
  have BG : Base mg mb fa h₀ := B.up k
  have hh' : ∀ env, (A.deeper env).handled = none := fun _ => hh
  clear hce hns hc1 hc2
  generalize hL : h₀.objs.size = L at S ⊢
  walk_at "mw"
  refine r_tuple (by rw [sizeLine_eq]; simp) fun h₂ a₂ ha₂ ht₂ k₂ => ?_
  have S₂ := S.grow k₂
  have n12 : L + 1 ≠ L + 2 := by lia
  refine r_stC S₂.here.2 fun h₃ hc₃ hs₃ => ?_
  have S₃ := S₂.same (P' := fun h => h.IsCell (L + 1) (some (.ref sc)) ∧ h.IsCell (L + 2) (some (.ref a₂))) (by simp : L + 2 ∈ [L + 1, L + 2]) hs₃ ⟨cell_dep S₂.here.1 fun o e => (hs₃.2 _ n12).trans e, hc₃⟩ (fun h h' x k => ⟨cell_dep x.1 (k _ (by simp)), cell_dep x.2 (k _ (by simp))⟩)
  have ha2 : a₂ ≠ L + 2 := by
    intro e
    obtain ⟨o, ho, hd⟩ := S₂.here.2
    obtain ⟨o', ho', hc', n, hd'⟩ := ht₂
    rw [e, ho] at ho'
    cases ho'
    rw [hd] at hd'
    cases hd'
  have ht₃ : h₃.IsTuple a₂ _ := let ⟨o, ho, r⟩ := ht₂; ⟨o, (hs₃.2 a₂ ha2).trans ho, r⟩
  obtain ⟨its, hits, hget6⟩ : ∃ its, h₃.IsTuple a₂ its ∧ ∀ j : Nat, j < 6 → ∃ sd ts, its[j]? = some (.int sd ts) := ⟨_, ht₃, fun j hj => by
    rcases (by lia : j = 0 ∨ j = 1 ∨ j = 2 ∨ j = 3 ∨ j = 4 ∨ j = 5) with rfl | rfl | rfl | rfl | rfl | rfl <;> exact ⟨_, _, rfl⟩⟩
  walk_at "m1"
  refine e_compA (cl := [("seeds", L + 2), ("script", L + 1)]) ?_
  refine e_ty BG S₃.keep boot_range ?_
  walk_at "mw"
  refine r_range1 fun h₄ tk₄ r t₀ t₁ hr k₄ => ?_
  have S₄ := S₃.grow k₄
  refine r_iterRange hr (by decide) (by decide) (by decide) (by decide) ?_
  rw [show ((6 : Int) - 0).toNat = 6 by decide]
  have hK : Le h₄ (hideAll (h₄.push (iterObj 0 ((6 : Nat) : Int) 1)) [h₄.objs.size]) := fun b o e => hideAll_get _ (Heap.get?_push_of_some _ e) (by
    intro q; rw [List.mem_singleton.mp q] at e; exact absurd (Heap.lt_size e) (Nat.lt_irrefl _))
  have hit1 : h₄.objs.size < (h₄.push (iterObj 0 ((6 : Nat) : Int) 1)).objs.size := by rw [Heap.size_push]; exact Nat.lt_succ_self _
  have hit0 : IsRangeIter (h₄.push (iterObj 0 ((6 : Nat) : Int) 1)) h₄.objs.size 0 ((6 : Nat) : Int) 1 := Heap.get?_push_size _ rfl
  have hlow : ∀ b o, h₄.get? b = some o → b ≠ h₄.objs.size := fun b o e => Nat.ne_of_lt (Heap.lt_size e)
  have hLe₂ := Le.push h₄ (iterObj 0 ((6 : Nat) : Int) 1)
  generalize h₄.push (iterObj 0 ((6 : Nat) : Int) 1) = h₅ at hK hit1 hit0 hLe₂ ⊢
  generalize h₄.objs.size = it at hK hit1 hit0 hlow ⊢
  refine comp_turnsA (Pv := fun i v => ∃ t, v = .int ((0 : Int) + i) t) (OI := fun i h => IsRangeIter h it (0 + i) (((6 : Nat) : Int) - i) 1) (n := 6) (fun _ => true) (fun j v y _ => ∃ p t, (1 ≤ p ∧ p ≤ 12) ∧ y = .int p t) (by decide) hit1 (by simpa using hit0) (Wk.range (hh' _) 0 6) (fun _ _ _ _ _ x _ => x) (fun _ _ _ _ _ _ _ _ _ _ q => no_tests (q _)) ?_ ?_
  · rintro j v ys h₆ tk₆ Q' E' hj ⟨tv, rfl⟩ _ S₆ q'
    have k₆ : Le h₃ h₆ := (k₄.trans hK).trans S₆.keep
    walk_at "mm"
    refine e_bi (BG.up (S₃.keep.trans k₆)) (Le.refl _) boot_sum ?_
    walk_at "mm"
    refine r_ldC (S₃.here.1.keeps k₆) ?_
    refine e_slice (wpAny_evalPart_some ?_)
    walk_at "mm"
    refine wpAny_evalPart_none (wpAny_evalPart_some ?_)
    walk_at "mm"
    intro h₈ a₈ hs₈ k₈
    dsimp only
    have hz : vs.toArray.size ≤ 2 ^ 20 := by simpa using hlen
    refine r_slice (k₈.list ((S₃.keep.trans k₆).list hsc)) hs₈ (.int _ _) .none (.int _ _) (by decide) hz fun h₉ a₉ ha₉ hl₉ k₉ => ?_
    walk_at "mm"
    have hin : ∀ v ∈ (slicePick vs.toArray (some (0 + (j : Int))) none (some 6)).toList, ∃ n t, v = Value.int n t := fun v hv => by
      have hm := pick_mem (Array.mem_toList_iff.mp hv)
      exact hi.all v (by simpa using hm)
    refine r_sum (hh' _) (vs := (slicePick vs.toArray (some (0 + (j : Int))) none (some 6)).toList) (by simpa using plain_isList hl₉) (intsAre_map _ hin) fun h_a tk_a t_a k_a => ?_
    have kk : Le h₆ h_a := (k₈.trans k₉).trans k_a
    refine Subscript_ ?_
    refine r_ldC (S₃.here.2.keeps (k₆.trans kk)) ?_
    have S_a := S₆.grow kk
    walk_at "mm"
    obtain ⟨sd, ts, hsd⟩ := hget6 j hj
    refine r_itemT ((k₆.trans kk).tuple hits) (by lia) (by lia) (v := .int sd ts) (by rw [show ((0 : Int) + (j : Int)).toNat = j by lia]; exact hsd) ?_
    walk_at "mm"
    refine r_mod (by decide) fun _ _ => ?_
    walk_at "mm"
    refine q' _ _ _ ⟨_, _, ?_, rfl⟩ kk
    have h1 := Int.fmod_nonneg_of_pos (((slicePick vs.toArray (some (0 + (j : Int))) none (some 6)).toList.map numOf).sum + sd) (show (0 : Int) < 12 by decide)
    have h2 := Int.fmod_lt_of_pos (((slicePick vs.toArray (some (0 + (j : Int))) none (some 6)).toList.map numOf).sum + sd) (show (0 : Int) < 12 by decide)
    lia
  intro h₇ tk₇ ys hb₇ hl₇ hM
  obtain ⟨hyl, hyv⟩ := hM.all
  obtain ⟨ps₀, hps₀, hpb₀⟩ : ∃ ps : List Int, IntsAre ys ps ∧ ∀ p ∈ ps, 1 ≤ p ∧ p ≤ 12 := by
    refine ⟨ys.map numOf, intsAre_map _ fun v hv => ?_, fun p hp => ?_⟩
    · obtain ⟨k, hk, e⟩ := List.mem_iff_getElem.mp hv
      obtain ⟨_, _, p, t, _, e2⟩ := hyv k v (by rw [List.getElem?_eq_getElem hk, e])
      exact ⟨p, t, e2⟩
    · obtain ⟨v, hv, rfl⟩ := List.mem_map.mp hp
      obtain ⟨k, hk, e⟩ := List.mem_iff_getElem.mp hv
      obtain ⟨_, _, p, t, hp, e2⟩ := hyv k v (by rw [List.getElem?_eq_getElem hk, e])
      rw [e2]; exact hp
  have hlen₀ : ps₀.length = 6 := by rw [← hps₀.length]; exact hyl
  have k₇ : Le h₄ h₇ := fun b o e => hb₇ b o (hlow b o e) (hLe₂ b o e)
  have S₇ := S₄.grow k₇
  have hL5 : L < h₅.objs.size := by
    have := S₄.lt
    obtain ⟨o, es, ep, ho, _⟩ := (S₄.loc).choose_spec.1
    exact Heap.lt_size (hLe₂ _ _ ho)
  have hc5 : ∀ c v, h₄.IsCell c v → c < h₅.objs.size := fun c v ⟨o, ho, _⟩ => Heap.lt_size (hLe₂ _ _ ho)
  have hc51 := hc5 _ _ S₄.here.1
  have hc52 := hc5 _ _ S₄.here.2
  have h05 : L ≤ h₅.objs.size := Nat.le_of_lt hL5
  generalize h₅.objs.size = pr at hl₇ hL5 hc51 hc52 h05 ⊢
  refine r_st S₇ fun h₈ tk₈ S₈ hs₈ => ⟨h₈, tk₈, rfl, fun o e => (hs₈.2 _ (Nat.ne_of_gt (Nat.lt_succ_of_lt hL5))).trans e, fun h₉ hs₉ => ?_⟩
  have S₉ := S₈.off hs₉ (Nat.ne_of_gt (Nat.lt_succ_of_lt hL5)) (not_in2 hc51 hc52) (none_at _ (hL ▸ le_succ' hL5))
  have hl₉ : h₉.PlainList pr ys.toArray := by
    obtain ⟨nn, e⟩ := hl₇
    exact ⟨nn, (hs₉.2 pr (Nat.ne_of_lt (Nat.lt_succ_self _))).trans ((hs₈.2 pr (Nat.ne_of_gt hL5)).trans e)⟩
  obtain ⟨G, hG1, _, Sa⟩ := S₉.re [pr] (fun h => IntsL h pr ps₀) ⟨ys, hl₉, hps₀⟩ (fun h h' x k => let ⟨vs, ⟨n, e⟩, r⟩ := x; ⟨vs, ⟨n, k pr (.head _) _ e⟩, r⟩) (by simp; exact ⟨Nat.ne_of_gt hL5, none_at _ (hL ▸ h05)⟩)
  have kG : Le h₀ G := hG1
  have dep : ∀ (ps : List Int) (h h' : Heap), IntsL h pr ps → (∀ d ∈ [pr], ∀ o, h.get? d = some o → h'.get? d = some o) → IntsL h' pr ps := fun ps h h' x k => let ⟨vs, ⟨n, e⟩, r⟩ := x; ⟨vs, ⟨n, k pr (.head _) _ e⟩, r⟩
  have BGG : Base mg mb fa G := BG.up kG
  dsimp only
  walk_at "mm"
  refine r_boolC ?_
  refine r_st Sa fun h_b tk_b Sb _ => ?_
  walk_at "m1"
  refine wpAny_While ?_
  let I : Nat → Shared → Prop := fun m s' => ∃ ps b h tk, s' = ⟨h, gn, dr, tk, os⟩ ∧ St G L [pr] (fun h => IntsL h pr ps) h [("prices", .ref pr), ("settled", .bool b)] ∧ Good6 ps ∧ (b = true → ∀ k, k < 6 → conv ps k) ∧ m = 2 * ps.sum.toNat + (if b then 0 else 1)
  refine codeAny_whileLoop I (fun m s' hI => ?_) _ ⟨ps₀, false, h_b, _, rfl, Sb.less ⟨rfl, rfl, trivial⟩, ⟨hlen₀, hpb₀⟩, (fun e => by cases e), rfl⟩
  obtain ⟨ps, b, h, tk, rfl, Sc, hg, hcv, rfl⟩ := hI
  walk_at "mw"
  refine isTrue_plain ?_ (by kernel_rfl)
  walk_at "mw"
  cases b with
  | true =>
    refine (show (if false = true then _ else _) from i_ff ?_)
    walk_at "mm"
    refine q h _ pr ps (hL ▸ h05) ⟨hg.1, hg.2, hcv rfl⟩ Sc.here (kG.trans Sc.keep)
  | false =>
    refine (show (if true = true then _ else _) from i_tt ?_)
    walk_at "mm"
    refine r_boolC ?_
    refine r_st Sc fun h_d tk_d Sd _ => ?_
    walk_at "m1"
    refine wpAny_For ?_ (by intro _; rfl)
    refine e_ty BGG Sd.keep boot_range ?_
    walk_at "mm"
    refine r_range1 fun h_e tk_e r t₀ t₁ hr k_e => ?_
    have Se := Sd.grow k_e
    refine r_iterRange hr (by decide) (by decide) (by decide) (by decide) ?_
    rw [show ((6 : Int) - 0).toNat = 6 by decide]
    have Sf := Se.fresh (P₁ := fun h => IsRangeIter h h_e.objs.size 0 ((6 : Nat) : Int) 1) (iterObj 0 ((6 : Nat) : Int) 1) rfl (fun _ e => e) rfl iter_dep
    have hne : h_e.objs.size ∉ [pr] := by
      obtain ⟨_, ⟨_, e⟩, _⟩ := Se.here
      exact fun x => absurd (Heap.lt_size e) (by rw [← List.mem_singleton.mp x]; exact Nat.lt_irrefl _)
    refine for_rng (D := [pr]) (σ := List Int × Bool) (P := fun _ c h => IntsL h pr c.1) (ls := fun _ c => [("prices", .ref pr), ("settled", .bool c.2)])
      (F := fun i c => Good6 c.1 ∧ ((c.2 = true ∧ c.1 = ps ∧ ∀ j, j < i → conv ps j) ∨ (c.2 = false ∧ c.1.sum < ps.sum))) (ps, true) (hh' _) hne (Sf.less ⟨rfl, rfl, trivial⟩) ⟨hg, .inl ⟨rfl, rfl, fun j hj => by lia⟩⟩ (fun _ c h h' x k => dep c.1 h h' x k) ?_ ?_
    · rintro i ⟨cs, cb⟩ h tk t' hin ⟨hF, hF2⟩ S
      rw [show (0 : Int) + (i : Int) * 1 = i by lia] at S ⊢
      dsimp only at S hF hF2
      have hpos := hF.1
      obtain ⟨e0, p0, p0'⟩ := hF.at (show i < 6 by lia)
      obtain ⟨e1, p1, p1'⟩ := hF.at (show (i + 5) % 6 < 6 by lia)
      obtain ⟨e2, p2, p2'⟩ := hF.at (show (i + 1) % 6 < 6 by lia)
      walk_at "mm"
      refine r_itemZ S.here.2 (by lia) (by lia) (x := cs.getD ((i + 5) % 6) 0) (by rw [← e1]; congr 1; split <;> lia) (by lia) fun _ => ?_
      walk_at "mm"
      refine r_mod (by decide) fun _ _ => ?_
      rw [show Int.fmod ((i : Int) + 1) 6 = (((i + 1) % 6 : Nat) : Int) by rw [Int.fmod_eq_emod_of_nonneg _ (by decide)]; lia]
      walk_at "mm"
      refine r_itemI S.here.2 (by lia) (x := cs.getD ((i + 1) % 6) 0) (by rw [← e2]; congr 1) (by lia) fun _ => ?_
      walk_at "mm"
      have Sm := ‹St _ _ _ _ _ (("most", _) :: _)›
      refine r_itemI Sm.here.2 (by lia) (x := cs.getD i 0) (by rw [← e0]; congr 1) (by lia) fun _ => ?_
      walk_at "mm"
      refine i_by (fun hlt => ?_) (fun hge => ?_)
      · walk_at "mm"
        have hpne : pr ≠ h_e.objs.size := fun e => hne (by rw [e]; exact .head _)
        refine r_setI Sm.here.2 (by lia) (by lia) (by lia) fun h_g hI_g hs_g => ?_
        rw [show ((i : Int)).toNat = i by lia] at hI_g
        have Sg := Sm.same (P' := fun h => IsRangeIter h h_e.objs.size ((i : Int) + 1) (((6 : Nat) : Int) - i - 1) 1 ∧ IntsL h pr (cs.set i (cs.getD ((i + 5) % 6) 0 + cs.getD ((i + 1) % 6) 0 - 1))) (.tail _ (.head _)) hs_g ⟨(hs_g.2 _ (Ne.symm hpne)).trans Sm.here.1, hI_g⟩
          (fun h h' x k => ⟨k _ (.head _) _ x.1, dep _ h h' x.2 fun d hd => k d (.tail _ hd)⟩)
        walk_at "mm"
        refine r_boolC ?_
        refine r_st Sg fun h_i tk_i Si _ => ?_
        walk_at "mm"
        refine ⟨.inl rfl, h_i, _, (cs.set i (cs.getD ((i + 5) % 6) 0 + cs.getD ((i + 1) % 6) 0 - 1), false), rfl, ⟨⟨by simpa using hF.1, fun p hp => ?_⟩, .inr ⟨rfl, ?_⟩⟩, Si.less ⟨rfl, rfl, trivial⟩⟩
        · rcases List.mem_or_eq_of_mem_set hp with h | rfl
          · exact hF.2 p h
          · lia
        · show (cs.set i _).sum < ps.sum
          rw [sum_set cs i _ (by lia)]
          rcases hF2 with ⟨_, rfl, _⟩ | ⟨_, hl⟩ <;> lia
      · walk_at "mm"
        refine ⟨.inl rfl, _, _, (cs, cb), rfl, ⟨hF, ?_⟩, Sm.less ⟨rfl, rfl, trivial⟩⟩
        rcases hF2 with ⟨hb, he, hc⟩ | ⟨hb, hl⟩
        · refine .inl ⟨hb, he, fun j hj => ?_⟩
          by_cases hji : j = i
          · subst hji
            subst he
            unfold conv
            lia
          · exact hc j (by lia)
        · exact .inr ⟨hb, hl⟩
    · rintro ⟨cs, cb⟩ h tk ⟨hF, hF2⟩ S
      dsimp only at S hF hF2 ⊢
      rcases hF2 with ⟨rfl, rfl, hc⟩ | ⟨rfl, hlt⟩
      · refine wpAny_execs_nil ⟨_, ?_, cs, true, h, tk, rfl, S, hF, fun _ => hc, rfl⟩
        simp
      · refine wpAny_execs_nil ⟨_, ?_, cs, false, h, tk, rfl, S, hF, (fun e => by cases e), rfl⟩
        have h1 := sum_nonneg cs hF.2
        simp; lia
end
/-- what of the heap's list is plain: the order of rows -/
def R4.le (a b : R4) : Prop := ¬ R4.lt b a
theorem R4.le_trans {a b c : R4} (h : R4.le a b) (k : R4.le b c) : R4.le a c := by
  unfold R4.le R4.lt at *; lia
theorem R4.le_of_lt {a b : R4} (h : R4.lt a b) : R4.le a b := by
  unfold R4.le R4.lt at *; lia
theorem R4.le_refl (a : R4) : R4.le a a := by unfold R4.le R4.lt; lia
theorem cons_swap {α : Type} (a b : α) : ∀ (r : List α) (j : Nat), j < r.length → (a :: r.set j b).Perm (b :: r.set j a)
  | y :: r, 0, _ => by simpa using List.Perm.swap b a r
  | y :: r, j + 1, h => by
    have ih := cons_swap a b r j (by simpa using h)
    simp only [List.set_cons_succ]
    exact ((List.Perm.swap y a _).trans (ih.cons y)).trans (List.Perm.swap b y _)
theorem set_swap {α : Type} (a b : α) : ∀ (xs : List α) (i j : Nat), i < xs.length → j < xs.length → i ≠ j → ((xs.set i a).set j b).Perm ((xs.set i b).set j a)
  | y :: r, 0, 0, _, _, h => absurd rfl h
  | y :: r, 0, j + 1, _, h, _ => by simpa using cons_swap a b r j (by simpa using h)
  | y :: r, i + 1, 0, h, _, _ => by simpa using cons_swap b a r i (by simpa using h)
  | y :: r, i + 1, j + 1, h, h', hn => by simpa using (set_swap a b r i j (by simpa using h) (by simpa using h') (by lia))
theorem move_perm {α : Type} {xs : List α} {i j : Nat} {p x : α} (hi : i < xs.length) (hj : xs[j]? = some p) (hn : i ≠ j) : ((xs.set i p).set j x).Perm (xs.set i x) := by
  have hjl : j < xs.length := by
    by_cases h : j < xs.length
    · exact h
    · rw [List.getElem?_eq_none (by lia)] at hj; cases hj
  have e : (xs.set i x).set j p = xs.set i x := by
    apply List.ext_getElem?
    intro m
    rw [List.getElem?_set]
    split
    · rename_i hm
      subst hm
      rw [List.length_set, if_pos hjl, List.getElem?_set_ne hn, hj]
    · rfl
  exact (set_swap p x xs i j hi hjl hn).trans (by rw [e])
theorem sdown_perm (start : Nat) (x : Row) (pos : Nat) (xs : List Row) (hp : pos < xs.length) : (sdown start x pos xs).Perm (xs.set pos x) := by
  rw [sdown]
  split
  · split
    · rename_i p hpar
      split
      · have := sdown_perm start x ((pos - 1) / 2) (xs.set pos p) (by rw [List.length_set]; lia)
        exact this.trans (move_perm hp hpar (by lia))
      · exact .refl _
    · exact .refl _
  · exact .refl _
termination_by pos
theorem sup_perm (pos : Nat) (x : Row) (xs : List Row) (hp : pos < xs.length) : ((sup pos xs).2.set (sup pos xs).1 x).Perm (xs.set pos x) := by
  rw [sup]
  split
  · rename_i hc
    have hk := kid_cases pos xs
    have := sup_perm (kid pos xs) x (xs.set pos (xs[kid pos xs]'(kid_lt hc))) (by rw [List.length_set]; exact kid_lt hc)
    exact this.trans (move_perm hp (List.getElem?_eq_getElem (kid_lt hc)) (by lia))
  · exact .refl _
termination_by xs.length - pos
decreasing_by
  have := kid_cases pos xs
  simp only [List.length_set]
  lia
theorem siftup_perm {pos : Nat} {x : Row} {xs : List Row} (hx : xs[pos]? = some x) : (siftup pos x xs).Perm xs := by
  have hp : pos < xs.length := by
    by_cases h : pos < xs.length
    · exact h
    · rw [List.getElem?_eq_none (by lia)] at hx; cases hx
  have hs := sup_lt pos xs hp
  unfold siftup
  refine (sdown_perm _ _ _ _ (by rw [List.length_set]; exact hs.1)).trans ?_
  rw [List.set_set]
  refine (sup_perm pos x xs hp).trans ?_
  have e : xs.set pos x = xs := by
    apply List.ext_getElem?
    intro m
    rw [List.getElem?_set]
    split
    · rename_i hm; subst hm; exact hx.symm
    · rfl
  rw [e]
theorem hfy_perm : ∀ (k : Nat) (xs : List Row), (hfy k xs).Perm xs
  | 0, xs => .refl _
  | k + 1, xs => by
    rw [hfy]
    refine (hfy_perm k _).trans ?_
    split
    · rename_i x h; exact siftup_perm h
    · exact .refl _
theorem hpush_perm (xs : List Row) (x : Row) : (hpush xs x).Perm (x :: xs) := by
  unfold hpush
  refine (sdown_perm 0 x xs.length (xs ++ [x]) (by simp)).trans ?_
  rw [show (xs ++ [x]).set xs.length x = xs ++ [x] by simp]
  exact List.perm_append_comm (l₁ := xs) (l₂ := [x])
/-- below (or at) s in the heap -/
inductive Desc (s : Nat) : Nat → Prop
  | refl : Desc s s
  | left {p : Nat} : Desc s p → Desc s (2 * p + 1)
  | right {p : Nat} : Desc s p → Desc s (2 * p + 2)
theorem Desc.up {s p : Nat} (h : Desc s p) : p = s ∨ (s < p ∧ Desc s ((p - 1) / 2) ∧ s ≤ (p - 1) / 2) := by
  have ge : ∀ {p : Nat}, Desc s p → s ≤ p := by
    intro p h
    induction h with
    | refl => exact Nat.le_refl _
    | left _ ih => lia
    | right _ ih => lia
  cases h with
  | refl => exact .inl rfl
  | left h => rename_i q; have := ge h; exact .inr ⟨by lia, by rw [show (2 * q + 1 - 1) / 2 = q by lia]; exact h, by lia⟩
  | right h => rename_i q; have := ge h; exact .inr ⟨by lia, by rw [show (2 * q + 2 - 1) / 2 = q by lia]; exact h, by lia⟩
/-- parents from lo on lie under their children -/
def Ord (lo : Nat) (xs : List Row) : Prop := ∀ (c : Nat) (a b : Row), 0 < c → lo ≤ (c - 1) / 2 → xs[(c - 1) / 2]? = some a → xs[c]? = some b → R4.le a.2 b.2
theorem get_set {α : Type} {xs : List α} {i j : Nat} {x y : α} (h : (xs.set i x)[j]? = some y) : (j = i ∧ y = x) ∨ (j ≠ i ∧ xs[j]? = some y) := by
  rw [List.getElem?_set] at h
  split at h
  · rename_i e
    split at h
    · cases h; exact .inl ⟨e.symm, rfl⟩
    · cases h
  · rename_i e; exact .inr ⟨fun q => e q.symm, h⟩
theorem some_of_lt {α : Type} {xs : List α} {j : Nat} (h : j < xs.length) : ∃ a, xs[j]? = some a := ⟨_, List.getElem?_eq_getElem h⟩
theorem lt_of_some {α : Type} {xs : List α} {j : Nat} {a : α} (h : xs[j]? = some a) : j < xs.length := by
  by_cases q : j < xs.length
  · exact q
  · rw [List.getElem?_eq_none (by lia)] at h; cases h
theorem sdown_ord (lo : Nat) (x : Row) (pos : Nat) (xs : List Row) (hp : pos < xs.length) (hD : Desc lo pos)
    (h1 : ∀ (c : Nat) (a b : Row), 0 < c → lo ≤ (c - 1) / 2 → c ≠ pos → (c - 1) / 2 ≠ pos → xs[(c - 1) / 2]? = some a → xs[c]? = some b → R4.le a.2 b.2)
    (h2 : ∀ (c : Nat) (b : Row), 0 < c → (c - 1) / 2 = pos → xs[c]? = some b → R4.le x.2 b.2)
    (h3 : ∀ (c : Nat) (a b : Row), 0 < c → (c - 1) / 2 = pos → lo < pos → xs[(pos - 1) / 2]? = some a → xs[c]? = some b → R4.le a.2 b.2) : Ord lo (sdown lo x pos xs) := by
  have fin : (∀ a, 0 < pos → lo ≤ (pos - 1) / 2 → xs[(pos - 1) / 2]? = some a → R4.le a.2 x.2) → Ord lo (xs.set pos x) := by
    intro h4 c a b hc hlo ha hb
    rcases get_set ha with ⟨e1, rfl⟩ | ⟨e1, ha'⟩
    · rcases get_set hb with ⟨e2, rfl⟩ | ⟨e2, hb'⟩
      · lia
      · exact h2 c b hc e1 hb'
    · rcases get_set hb with ⟨e2, rfl⟩ | ⟨e2, hb'⟩
      · subst e2; exact h4 a hc hlo ha'
      · exact h1 c a b hc hlo e2 e1 ha' hb'
  rcases hD.up with rfl | ⟨hlt, hD', hge⟩
  · rw [sdown, dif_neg (by lia)]
    exact fin fun a h0 hlo => by lia
  · obtain ⟨p, hpp⟩ := some_of_lt (xs := xs) (j := (pos - 1) / 2) (by lia)
    rw [sdown, dif_pos hlt]
    simp only [hpp]
    split
    · rename_i hx
      have hx : R4.lt x.2 p.2 := of_decide_eq_true hx
      have hpar : ∀ a, lo < (pos - 1) / 2 → xs[((pos - 1) / 2 - 1) / 2]? = some a → R4.le a.2 p.2 := fun a hl ha => by
        rcases hD'.up with e | ⟨_, _, hge'⟩
        · lia
        · exact h1 _ a p (by lia) hge' (by lia) (by lia) ha hpp
      refine sdown_ord lo x ((pos - 1) / 2) (xs.set pos p) (by rw [List.length_set]; lia) hD' ?_ ?_ ?_
      · intro c a b hc hlo hn hn' ha hb
        have hcp : c ≠ pos := fun e => hn' (by rw [e])
        rcases get_set hb with ⟨e2, rfl⟩ | ⟨e2, hb'⟩
        · exact absurd e2 hcp
        rcases get_set ha with ⟨e1, rfl⟩ | ⟨e1, ha'⟩
        · exact h3 c a b hc e1 hlt hpp hb'
        · exact h1 c a b hc hlo hcp e1 ha' hb'
      · intro c b hc hcp hb
        rcases get_set hb with ⟨e2, rfl⟩ | ⟨e2, hb'⟩
        · exact R4.le_of_lt hx
        · exact R4.le_trans (R4.le_of_lt hx) (h1 c p b hc (by lia) e2 (by lia) (by rw [hcp]; exact hpp) hb')
      · intro c a b hc hcp hl ha hb
        rcases get_set ha with ⟨e1, _⟩ | ⟨e1, ha'⟩
        · lia
        rcases get_set hb with ⟨e2, rfl⟩ | ⟨e2, hb'⟩
        · exact hpar a hl ha'
        · exact R4.le_trans (hpar a hl ha') (h1 c p b hc (by lia) e2 (by lia) (by rw [hcp]; exact hpp) hb')
    · rename_i hx
      have hx : ¬ R4.lt x.2 p.2 := fun e => hx (decide_eq_true e)
      exact fin fun a h0 hlo ha => by rw [hpp] at ha; cases ha; exact hx
termination_by pos
decreasing_by lia
theorem kid_le {pos : Nat} {xs : List Row} {m a : Row} (hm : xs[kid pos xs]? = some m) {c : Nat} (hc : 0 < c) (hcp : (c - 1) / 2 = pos) (ha : xs[c]? = some a) : R4.le m.2 a.2 := by
  have hc2 : c = 2 * pos + 1 ∨ c = 2 * pos + 2 := by lia
  unfold kid at hm
  split at hm
  · rename_i x y hx hy
    split at hm
    · rename_i hl
      have hl : R4.lt x.2 y.2 := of_decide_eq_true hl
      rcases hc2 with rfl | rfl
      · rw [ha] at hm; cases hm; exact R4.le_refl _
      · rw [hx] at hm; cases hm; rw [hy] at ha; cases ha; exact R4.le_of_lt hl
    · rename_i hl
      have hl : ¬ R4.lt x.2 y.2 := fun e => hl (decide_eq_true e)
      rcases hc2 with rfl | rfl
      · rw [hx] at ha; cases ha; rw [hy] at hm; cases hm; exact hl
      · rw [ha] at hm; cases hm; exact R4.le_refl _
  · rename_i hno
    rcases hc2 with rfl | rfl
    · rw [ha] at hm; cases hm; exact R4.le_refl _
    · exact absurd ha (hno m a hm)
theorem kid_desc {lo pos : Nat} (xs : List Row) (h : Desc lo pos) : Desc lo (kid pos xs) := by
  rcases kid_cases pos xs with e | e <;> rw [e]
  · exact .left h
  · exact .right h
theorem sup_ord (lo pos : Nat) (xs : List Row) (hp : pos < xs.length) (hD : Desc lo pos)
    (h1 : ∀ (c : Nat) (a b : Row), 0 < c → lo ≤ (c - 1) / 2 → c ≠ pos → (c - 1) / 2 ≠ pos → xs[(c - 1) / 2]? = some a → xs[c]? = some b → R4.le a.2 b.2)
    (h3 : ∀ (c : Nat) (a b : Row), 0 < c → (c - 1) / 2 = pos → lo < pos → xs[(pos - 1) / 2]? = some a → xs[c]? = some b → R4.le a.2 b.2) :
    Desc lo (sup pos xs).1 ∧ (∀ (c : Nat) (a b : Row), 0 < c → lo ≤ (c - 1) / 2 → c ≠ (sup pos xs).1 → (c - 1) / 2 ≠ (sup pos xs).1 → (sup pos xs).2[(c - 1) / 2]? = some a → (sup pos xs).2[c]? = some b → R4.le a.2 b.2)
      ∧ xs.length ≤ 2 * (sup pos xs).1 + 1 := by
  rw [sup]
  split
  · rename_i hc
    have hk := kid_cases pos xs
    have hkl := kid_lt hc
    have hm := List.getElem?_eq_getElem hkl
    generalize xs[kid pos xs]'hkl = m at hm ⊢
    have hkl' := fun (c : Nat) (a : Row) => kid_le (c := c) (a := a) hm
    have hkd := kid_desc xs hD
    have hlo : lo ≤ pos := by rcases hD.up with e | e <;> lia
    have := sup_ord lo (kid pos xs) (xs.set pos m) (by rw [List.length_set]; exact hkl) hkd ?_ ?_
    · rw [List.length_set] at this; exact this
    · intro c a b hc0 hl hn hn' ha hb
      rcases get_set ha with ⟨e1, rfl⟩ | ⟨e1, ha'⟩
      · rcases get_set hb with ⟨e2, _⟩ | ⟨e2, hb'⟩
        · lia
        · exact hkl' c b hc0 e1 hb'
      · rcases get_set hb with ⟨e2, rfl⟩ | ⟨e2, hb'⟩
        · subst e2
          exact h3 (kid c xs) a b (by lia) (by lia) (by lia) ha' hm
        · exact h1 c a b hc0 hl e2 e1 ha' hb'
    · intro c a b hc0 hcp hl ha hb
      rw [show (kid pos xs - 1) / 2 = pos by lia] at ha
      rcases get_set ha with ⟨_, rfl⟩ | ⟨e1, _⟩
      · rcases get_set hb with ⟨e2, _⟩ | ⟨e2, hb'⟩
        · lia
        · exact h1 c a b hc0 (by lia) e2 (by lia) (by rw [hcp]; exact hm) hb'
      · exact absurd rfl e1
  · exact ⟨hD, h1, by lia⟩
termination_by xs.length - pos
decreasing_by
  simp only [List.length_set]
  lia
theorem siftup_ord {lo : Nat} {x : Row} {xs : List Row} (hx : xs[lo]? = some x) (h : Ord (lo + 1) xs) : Ord lo (siftup lo x xs) := by
  have hp := lt_of_some hx
  obtain ⟨s1, s2, s3⟩ := sup_ord lo lo xs hp .refl (fun c a b h0 hl _ hn ha hb => h c a b h0 (by lia) ha hb) (fun _ _ _ _ _ hl => by lia)
  have hs := sup_lt lo xs hp
  unfold siftup
  refine sdown_ord lo x _ _ (by rw [List.length_set]; exact hs.1) s1 ?_ ?_ ?_
  · intro c a b h0 hl hn hn' ha hb
    rcases get_set ha with ⟨e1, _⟩ | ⟨_, ha'⟩
    · exact absurd e1 hn'
    rcases get_set hb with ⟨e2, _⟩ | ⟨_, hb'⟩
    · exact absurd e2 hn
    exact s2 c a b h0 hl hn hn' ha' hb'
  · intro c b h0 hc hb
    have := lt_of_some hb
    rw [List.length_set] at this
    lia
  · intro c a b h0 hc _ _ hb
    have := lt_of_some hb
    rw [List.length_set] at this
    lia
theorem hfy_ord : ∀ (k : Nat) (xs : List Row), k ≤ xs.length → Ord k xs → Ord 0 (hfy k xs)
  | 0, xs, _, h => h
  | k + 1, xs, hk, h => by
    obtain ⟨x, hx⟩ := some_of_lt (xs := xs) (j := k) (by lia)
    rw [hfy]
    simp only [hx]
    exact hfy_ord k _ (by rw [(siftup_perm hx).length_eq]; lia) (siftup_ord hx h)
theorem heapify_ord (xs : List Row) : Ord 0 (hfy (xs.length / 2) xs) := hfy_ord _ _ (by lia) fun c a b h0 hl _ hb => by
  have := lt_of_some hb; lia
theorem hpush_ord {xs : List Row} {x : Row} (h : Ord 0 xs) : Ord 0 (hpush xs x) := by
  have hd : ∀ n, Desc 0 n := fun n => by
    induction n using Nat.strongRecOn with
    | _ n ih =>
      rcases (by lia : n = 0 ∨ n = 2 * ((n - 1) / 2) + 1 ∨ n = 2 * ((n - 1) / 2) + 2) with rfl | e | e
      · exact .refl
      · rw [e]; exact .left (ih _ (by lia))
      · rw [e]; exact .right (ih _ (by lia))
  refine sdown_ord 0 x xs.length _ (by simp) (hd _) ?_ ?_ ?_
  · intro c a b h0 _ hn _ ha hb
    have := lt_of_some hb
    simp at this
    rw [List.getElem?_append_left (by lia)] at ha hb
    exact h c a b h0 (Nat.zero_le _) ha hb
  · intro c b h0 hc hb
    have := lt_of_some hb
    simp at this; lia
  · intro c a b h0 hc _ _ hb
    have := lt_of_some hb
    simp at this; lia
theorem ord_head {xs : List Row} {x : Row} (h : Ord 0 xs) (hx : xs[0]? = some x) : ∀ (c : Nat) (b : Row), xs[c]? = some b → R4.le x.2 b.2 := by
  intro c
  induction c using Nat.strongRecOn with
  | _ c ih =>
    intro b hb
    by_cases h0 : c = 0
    · subst h0; rw [hx] at hb; cases hb; exact R4.le_refl _
    · obtain ⟨a, ha⟩ := some_of_lt (xs := xs) (j := (c - 1) / 2) (by have := lt_of_some hb; lia)
      exact R4.le_trans (ih _ (by lia) a ha) (h c a b (by lia) (Nat.zero_le _) ha hb)
/-- heappop: the least row, and the rest a heap again -/
theorem hpop_ok {xs : List Row} (h : Ord 0 xs) (hne : xs ≠ []) : ∃ x ys, hpop xs = some (x, ys) ∧ xs.Perm (x :: ys) ∧ Ord 0 ys ∧ (∀ y ∈ ys, R4.le x.2 y.2) ∧ xs[0]? = some x := by
  obtain ⟨pre, z, rfl⟩ : ∃ pre z, xs = pre ++ [z] := ⟨xs.dropLast, xs.getLast hne, (List.dropLast_concat_getLast hne).symm⟩
  cases pre with
  | nil => exact ⟨z, [], hpop_one z, .refl _, (fun c a b _ _ ha => by simp at ha), (by simp), rfl⟩
  | cons x r =>
    have hp := siftup_perm (pos := 0) (x := z) (xs := z :: r) rfl
    have hperm : ((x :: r) ++ [z]).Perm (x :: siftup 0 z (z :: r)) := by
      refine List.Perm.trans ?_ (hp.symm.cons x)
      exact (List.perm_append_comm (l₁ := r) (l₂ := [z])).cons x
    refine ⟨x, _, hpop_more x z r, hperm, siftup_ord rfl ?_, ?_, rfl⟩
    · intro c a b h0 hl ha hb
      have hcl := lt_of_some hb
      simp at hcl
      refine h c a b h0 (Nat.zero_le _) ?_ ?_
      · rw [List.getElem?_append_left (by simp; lia)]
        obtain ⟨m, hm⟩ : ∃ m, (c - 1) / 2 = m + 1 := ⟨(c - 1) / 2 - 1, by lia⟩
        rw [hm] at ha ⊢
        simpa using ha
      · rw [List.getElem?_append_left (by simp; lia)]
        obtain ⟨m, rfl⟩ : ∃ m, c = m + 1 := ⟨c - 1, by lia⟩
        simpa using hb
    · intro y hy
      have hy' : y ∈ (x :: r) ++ [z] := hperm.symm.subset (List.mem_cons_of_mem _ hy)
      obtain ⟨c, hc, e⟩ := List.mem_iff_getElem.mp hy'
      exact ord_head h (x := x) rfl c y (by rw [List.getElem?_eq_getElem hc, e])
/-- a place of the hexagon: (n-i) of lamp s and i of the next lamp; zero is ⟨0,0,0⟩ -/
structure Nd where
  s : Nat
  i : Nat
  n : Nat
  deriving DecidableEq, Repr, Inhabited
abbrev zero : Nd := ⟨0, 0, 0⟩
def Nd.ok (v : Nd) : Prop := v = zero ∨ (v.s < 6 ∧ v.i < v.n)
def Nd.T (v : Nd) : Nat := tintOf v.s v.i v.n
def Nd.C (ps : List Int) (v : Nd) : Int := priceOf ps v.s v.i v.n
def Nd.ways (v : Nd) : Int := chz v.n v.i
/-- a lamp more -/
def Nd.add (v : Nd) (k : Nat) : Nd :=
  if v.n = 0 then ⟨k, 0, 1⟩ else
  match (k + 6 - v.s) % 6 with
  | 0 => ⟨v.s, v.i, v.n + 1⟩
  | 1 => ⟨v.s, v.i + 1, v.n + 1⟩
  | 2 => if v.i + 1 < v.n then ⟨v.s, v.i + 1, v.n⟩ else ⟨(v.s + 1) % 6, 0, v.n⟩
  | 3 => if v.i + 1 < v.n then ⟨v.s, v.i, v.n - 1⟩ else if v.i = 0 then zero else ⟨(v.s + 1) % 6, 0, v.n - 1⟩
  | 4 => if 0 < v.i then ⟨v.s, v.i - 1, v.n - 1⟩ else ⟨(v.s + 5) % 6, v.n - 1, v.n⟩
  | _ => if 0 < v.i then ⟨v.s, v.i - 1, v.n⟩ else ⟨(v.s + 5) % 6, v.n, v.n + 1⟩
/-- k is a lamp that may come last -/
abbrev Nd.last (w : Nd) (k : Nat) : Prop := 0 < w.n ∧ (k = w.s ∨ (k = (w.s + 1) % 6 ∧ 0 < w.i))
theorem Nd.ok.pos {v : Nd} (h : v.ok) (hn : v.n ≠ 0) : v.s < 6 ∧ v.i < v.n := by
  rcases h with rfl | h
  · exact absurd rfl hn
  · exact h
theorem Nd.add_ok {v : Nd} {k : Nat} (h : v.ok) (hk : k < 6) : (v.add k).ok := by
  unfold Nd.add
  split
  · exact .inr ⟨hk, by simp⟩
  · rename_i hn
    obtain ⟨h1, h2⟩ := h.pos hn
    split
    · exact .inr ⟨h1, by simp; lia⟩
    · exact .inr ⟨h1, by simp; lia⟩
    · split
      · exact .inr ⟨h1, by simp; lia⟩
      · exact .inr ⟨by simp; lia, by simp; lia⟩
    · split
      · exact .inr ⟨h1, by simp; lia⟩
      · split
        · exact .inl rfl
        · exact .inr ⟨by simp; lia, by simp; lia⟩
    · split
      · exact .inr ⟨h1, by simp; lia⟩
      · exact .inr ⟨by simp; lia, by simp; lia⟩
    · split
      · exact .inr ⟨h1, by simp; lia⟩
      · exact .inr ⟨by simp; lia, by simp⟩
theorem Nd.add_n {v : Nd} {k : Nat} : (v.add k).n ≤ v.n + 1 := by
  unfold Nd.add
  (repeat' split) <;> simp <;> lia
theorem mod_back {k s d : Nat} (hk : k < 6) (hs : s < 6) (h : (k + 6 - s) % 6 = d) : k = (s + d) % 6 := by lia
section
variable {ps : List Int}
theorem conv_at (S : Settled ps) {a b c : Nat} (hb : b < 6) (ha : a = (b + 5) % 6) (hc : c = (b + 1) % 6) : ps.getD b 0 < ps.getD a 0 + ps.getD c 0 := by
  subst ha hc; exact S.conv b hb
theorem Settled.pos (S : Settled ps) {k : Nat} (hk : k < 6) : 1 ≤ ps.getD k 0 ∧ ps.getD k 0 ≤ 12 := (Good6.at ⟨S.len, S.bnd⟩ hk).2
theorem Nd.add_C (S : Settled ps) {v : Nd} {k : Nat} (h : v.ok) (hk : k < 6) :
    ((v.add k).last k ∧ (v.add k).C ps = v.C ps + ps.getD k 0) ∨ (¬ (v.add k).last k ∧ (v.add k).C ps < v.C ps + ps.getD k 0) := by
  unfold Nd.add Nd.C priceOf
  split
  · rename_i hn
    have : v = zero := by rcases h with h | h; exact h; lia
    subst this
    refine .inl ⟨⟨by simp, .inl rfl⟩, ?_⟩
    simp
  · rename_i hn
    obtain ⟨h1, h2⟩ := h.pos hn
    obtain ⟨s, i, n⟩ := v
    simp only at h1 h2 hn ⊢
    have p0 := S.pos h1
    have p1 := S.pos (show (s + 1) % 6 < 6 by lia)
    have p2 := S.pos (show (s + 2) % 6 < 6 by lia)
    have p3 := S.pos (show (s + 3) % 6 < 6 by lia)
    have p4 := S.pos (show (s + 4) % 6 < 6 by lia)
    have p5 := S.pos (show (s + 5) % 6 < 6 by lia)
    have c1 := conv_at S (a := s) (b := (s + 1) % 6) (c := (s + 2) % 6) (by lia) (by lia) (by lia)
    have c0 := conv_at S (a := (s + 5) % 6) (b := s) (c := (s + 1) % 6) (by lia) (by lia) (by lia)
    have c5 := conv_at S (a := (s + 4) % 6) (b := (s + 5) % 6) (c := s) (by lia) (by lia) (by lia)
    have e1 : ((s + 1) % 6 + 1) % 6 = (s + 2) % 6 := by lia
    have e5 : ((s + 5) % 6 + 1) % 6 = s := by lia
    split <;> (rename_i hd; try have hk' := mod_back hk h1 hd)
    · rw [show k = s by lia]
      refine .inl ⟨⟨by simp, .inl rfl⟩, ?_⟩
      simp only [Int.natCast_add, Int.add_mul, Int.sub_mul, Int.natCast_one, Int.one_mul]; lia
    · subst hk'
      refine .inl ⟨⟨by simp, .inr ⟨rfl, by simp⟩⟩, ?_⟩
      simp only [Int.natCast_add, Int.add_mul, Int.sub_mul, Int.natCast_one, Int.one_mul]; lia
    · subst hk'
      refine .inr ⟨?_, ?_⟩
      · unfold Nd.last; split <;> (simp only; lia)
      · split
        · simp only [Int.natCast_add, Int.add_mul, Int.sub_mul, Int.natCast_one, Int.one_mul]; lia
        · rw [show n = i + 1 by lia]
          simp only [Int.natCast_add, Int.add_mul, Int.sub_mul, Int.natCast_one, Int.one_mul, e1, Int.natCast_zero, Int.zero_mul]; lia
    · subst hk'
      obtain ⟨m, rfl⟩ : ∃ m, n = m + 1 := ⟨n - 1, by lia⟩
      refine .inr ⟨?_, ?_⟩
      · unfold Nd.last; split
        · simp only; lia
        · split <;> (simp only; lia)
      · split
        · simp only [Nat.add_sub_cancel]
          simp only [Int.natCast_add, Int.add_mul, Int.sub_mul, Int.natCast_one, Int.one_mul, e1, e5, Int.natCast_zero, Int.zero_mul]; lia
        · split
          · rename_i hi; subst hi
            rw [show m = 0 by lia]
            simp only [Int.natCast_add, Int.add_mul, Int.sub_mul, Int.natCast_one, Int.one_mul, e1, e5, Int.natCast_zero, Int.zero_mul]; lia
          · rw [show m = i by lia]
            simp only [Nat.add_sub_cancel]
            simp only [Int.natCast_add, Int.add_mul, Int.sub_mul, Int.natCast_one, Int.one_mul, e1, e5, Int.natCast_zero, Int.zero_mul]; lia
    · subst hk'
      obtain ⟨m, rfl⟩ : ∃ m, n = m + 1 := ⟨n - 1, by lia⟩
      refine .inr ⟨?_, ?_⟩
      · unfold Nd.last; split <;> (simp only; lia)
      · split
        · obtain ⟨j, rfl⟩ : ∃ j, i = j + 1 := ⟨i - 1, by lia⟩
          simp only [Nat.add_sub_cancel]
          simp only [Int.natCast_add, Int.add_mul, Int.sub_mul, Int.natCast_one, Int.one_mul, e1, e5, Int.natCast_zero, Int.zero_mul]; lia
        · rw [show i = 0 by lia]
          simp only [Nat.add_sub_cancel]
          simp only [Int.natCast_add, Int.add_mul, Int.sub_mul, Int.natCast_one, Int.one_mul, e1, e5, Int.natCast_zero, Int.zero_mul]; lia
    · rename_i n0 n1 n2 n3
      have n0 : ¬ _ := n0
      have n1 : ¬ _ := n1
      have n2 : ¬ _ := n2
      have n3 : ¬ _ := n3
      have hd : ¬ _ := hd
      have hk' : k = (s + 5) % 6 := by lia
      subst hk'
      split
      · refine .inr ⟨?_, ?_⟩
        · unfold Nd.last; simp only; lia
        · obtain ⟨j, rfl⟩ : ∃ j, i = j + 1 := ⟨i - 1, by lia⟩
          simp only [Nat.add_sub_cancel]
          simp only [Int.natCast_add, Int.add_mul, Int.sub_mul, Int.natCast_one, Int.one_mul, e1, e5, Int.natCast_zero, Int.zero_mul]; lia
      · rw [show i = 0 by lia]
        refine .inl ⟨⟨by simp, .inl rfl⟩, ?_⟩
        simp only [Int.natCast_add, Int.add_mul, Int.sub_mul, Int.natCast_one, Int.one_mul, e1, e5, Int.natCast_zero, Int.zero_mul]; lia
end
/-- the place before, by the lamp that comes last -/
def Nd.pred (w : Nd) (k : Nat) : Nd :=
  if k = w.s then (if w.i + 1 < w.n then ⟨w.s, w.i, w.n - 1⟩ else if w.i = 0 then zero else ⟨(w.s + 1) % 6, 0, w.n - 1⟩)
  else ⟨w.s, w.i - 1, w.n - 1⟩
def lampOf (k : Nat) : Nat := [256, 272, 16, 17, 1, 257].getD k 0
/-- the tint that the code reaches -/
def stepT (t k : Nat) : Nat :=
  if 0 < (t + lampOf k) / 256 ∧ 0 < (t + lampOf k) / 16 % 16 ∧ 0 < (t + lampOf k) % 16 then t + lampOf k - 273 else t + lampOf k
def places (m : Nat) : List Nd := zero :: (List.range (m + 1)).flatMap fun n => (List.range n).flatMap fun i => (List.range 6).map fun s => ⟨s, i, n⟩
theorem mem_places {m : Nat} {v : Nd} (h : v.ok) (hn : v.n ≤ m) : v ∈ places m := by
  unfold places
  rcases h with rfl | ⟨h1, h2⟩
  · exact .head _
  · refine .tail _ (List.mem_flatMap.mpr ⟨v.n, List.mem_range.mpr (by lia), List.mem_flatMap.mpr ⟨v.i, List.mem_range.mpr h2, List.mem_map.mpr ⟨v.s, List.mem_range.mpr h1, rfl⟩⟩⟩)
def dec (t : Nat) : Nd :=
  let r := t / 256; let g := t / 16 % 16; let b := t % 16
  if b = 0 then (if g < r then ⟨0, g, r⟩ else if 0 < r then ⟨1, g - r, g⟩ else if 0 < g then ⟨2, 0, g⟩ else zero)
  else if r = 0 then (if b < g then ⟨2, b, g⟩ else if 0 < g then ⟨3, b - g, b⟩ else ⟨4, 0, b⟩)
  else (if r < b then ⟨4, r, b⟩ else ⟨5, r - b, r⟩)
def okP (v : Nd) : Bool := dec v.T == v && (List.range 6).all fun k => (v.add k).T == stepT v.T k && (v.add k).add ((k + 3) % 6) == v && decide (v.T < 4096)
def okPs (m : Nat) : Bool := (places m).all okP
set_option maxRecDepth 100000 in
theorem okPs_13 : okPs 13 = true := by decide +kernel
theorem ok_place {v : Nd} (h : v.ok) (hn : v.n ≤ 13) : dec v.T = v ∧ ∀ k, k < 6 → (v.add k).T = stepT v.T k ∧ (v.add k).add ((k + 3) % 6) = v := by
  have h1 := List.all_eq_true.mp okPs_13 v (mem_places h hn)
  unfold okP at h1
  rw [Bool.and_eq_true] at h1
  refine ⟨eq_of_beq h1.1, fun k hk => ?_⟩
  have h2 := List.all_eq_true.mp h1.2 k (List.mem_range.mpr hk)
  rw [Bool.and_eq_true, Bool.and_eq_true] at h2
  exact ⟨eq_of_beq h2.1.1, eq_of_beq h2.1.2⟩
theorem T_inj {v w : Nd} (hv : v.ok) (hw : w.ok) (hn : v.n ≤ 13) (hm : w.n ≤ 13) (e : v.T = w.T) : v = w := by
  rw [← (ok_place hv hn).1, ← (ok_place hw hm).1, e]
theorem add_inj {v w : Nd} {k : Nat} (hv : v.ok) (hw : w.ok) (hn : v.n ≤ 13) (hm : w.n ≤ 13) (hk : k < 6) (e : v.add k = w.add k) : v = w := by
  rw [← ((ok_place hv hn).2 k hk).2, ← ((ok_place hw hm).2 k hk).2, e]
theorem Nd.last_lt {w : Nd} {k : Nat} (h : w.ok) (hl : w.last k) : k < 6 := by
  obtain ⟨h1, h2⟩ := h.pos (by have := hl.1; lia)
  rcases hl.2 with e | ⟨e, _⟩ <;> lia
theorem Nd.pred_ok {w : Nd} {k : Nat} (h : w.ok) (hl : w.last k) : (w.pred k).ok ∧ (w.pred k).add k = w ∧ (w.pred k).n + 1 = w.n := by
  obtain ⟨h0, hl⟩ := hl
  obtain ⟨h1, h2⟩ := h.pos (by lia)
  obtain ⟨s, i, n⟩ := w
  simp only at h0 h1 h2 hl
  obtain ⟨m, rfl⟩ : ∃ m, n = m + 1 := ⟨n - 1, by lia⟩
  unfold Nd.pred
  simp only
  by_cases hk : k = s
  · rw [if_pos hk]
    subst hk
    split
    · refine ⟨.inr ⟨h1, by simp; lia⟩, ?_, by simp⟩
      unfold Nd.add
      rw [if_neg (by simp; lia)]
      simp only [show (k + 6 - k) % 6 = 0 by lia]
      simp
    · split
      · rename_i hi
        subst hi
        rw [show m = 0 by lia]
        exact ⟨.inl rfl, rfl, rfl⟩
      · refine ⟨.inr ⟨by simp; lia, by simp; lia⟩, ?_, by simp⟩
        unfold Nd.add
        rw [if_neg (by simp; lia)]
        simp only [show (k + 6 - (k + 1) % 6) % 6 = 5 by lia]
        simp
        lia
  · rw [if_neg hk]
    obtain ⟨hk', hi⟩ : k = (s + 1) % 6 ∧ 0 < i := by lia
    refine ⟨.inr ⟨h1, by simp; lia⟩, ?_, by simp⟩
    unfold Nd.add
    rw [if_neg (by simp; lia)]
    simp only [show (k + 6 - s) % 6 = 1 by lia]
    simp
    lia
theorem Nd.pred_C {ps : List Int} (S : Settled ps) {w : Nd} {k : Nat} (h : w.ok) (hl : w.last k) : (w.pred k).C ps + ps.getD k 0 = w.C ps := by
  obtain ⟨h1, h2, _⟩ := Nd.pred_ok h hl
  have := Nd.add_C S h1 (Nd.last_lt h hl)
  rw [h2] at this
  rcases this with ⟨_, e⟩ | ⟨e, _⟩
  · exact e.symm
  · exact absurd hl e
def Nd.lasts (w : Nd) : List Nat := w.s :: (if 0 < w.i then [(w.s + 1) % 6] else [])
theorem Nd.mem_lasts {w : Nd} {k : Nat} (h0 : 0 < w.n) : k ∈ w.lasts ↔ w.last k := by
  unfold Nd.lasts Nd.last
  split <;> simp <;> lia
def okV (v : Nd) : Bool := decide (0 < v.ways) && decide (v.ways < 2 ^ 60) && (v.n == 0 || (v.ways == (v.lasts.map fun k => (v.pred k).ways).sum && lastsOf v.s v.i v.n == v.lasts.map fun (k : Nat) => ((k : Int), (v.pred k).ways)))
set_option maxRecDepth 100000 in
theorem okV_13 : (places 13).all okV = true := by decide +kernel
theorem ok_ways {v : Nd} (h : v.ok) (hn : v.n ≤ 13) : 0 < v.ways ∧ v.ways < 2 ^ 60 ∧ (v.n ≠ 0 → v.ways = (v.lasts.map fun k => (v.pred k).ways).sum ∧ lastsOf v.s v.i v.n = v.lasts.map fun (k : Nat) => ((k : Int), (v.pred k).ways)) := by
  have h1 := List.all_eq_true.mp okV_13 v (mem_places h hn)
  unfold okV at h1
  rw [Bool.and_eq_true, Bool.and_eq_true, Bool.or_eq_true] at h1
  refine ⟨of_decide_eq_true h1.1.1, of_decide_eq_true h1.1.2, fun hn => ?_⟩
  rcases h1.2 with e | e
  · exact absurd (eq_of_beq e) hn
  · rw [Bool.and_eq_true] at e
    exact ⟨eq_of_beq e.1, eq_of_beq e.2⟩
theorem Nd.lasts_nodup {w : Nd} (h : w.ok) (h0 : 0 < w.n) : w.lasts.Nodup := by
  obtain ⟨h1, h2⟩ := h.pos (by lia)
  unfold Nd.lasts
  split <;> simp <;> lia
/-- the row of a place, from the lamps that came last, in the order in which they came -/
def staOf (ps : List Int) (w : Nd) (ks : List Nat) : Sta where
  cc := ks.length
  nc := (ks.map fun k => (w.pred k).ways).sum
  tt := (ks.map fun k => (w.pred k).ways * ps.getD k 0).sum
  ct := (ks.map fun k => (w.pred k).ways * w.C ps).sum
  cs := ks.map fun (k : Nat) => ((k : Int), (w.pred k).ways)
theorem sum_perm {a b : List Int} (h : a.Perm b) : a.sum = b.sum := by
  induction h with
  | nil => rfl
  | cons x _ ih => simp [ih]
  | swap x y l => simp; lia
  | trans _ _ ih1 ih2 => rw [ih1, ih2]
theorem sum_mul (c : Int) : ∀ (l : List Int), (l.map (· * c)).sum = l.sum * c
  | [] => by simp
  | x :: r => by simp [sum_mul c r, Int.add_mul]
theorem staOf_told {ps : List Int} {w : Nd} {ks : List Nat} (h : w.ok) (h0 : 0 < w.n) (hn : w.n ≤ 13) (hp : ks.Perm w.lasts) :
    (staOf ps w ks).cc = (toldSta ps w.s w.i w.n).cc ∧ (staOf ps w ks).nc = (toldSta ps w.s w.i w.n).nc ∧ (staOf ps w ks).tt = (toldSta ps w.s w.i w.n).tt ∧ (staOf ps w ks).ct = (toldSta ps w.s w.i w.n).ct ∧
      (staOf ps w ks).cs.Perm (toldSta ps w.s w.i w.n).cs ∧ (staOf ps w ks).nc = w.ways := by
  obtain ⟨_, _, h3⟩ := ok_ways h hn
  obtain ⟨h3, h4⟩ := h3 (by lia)
  have hnc : (staOf ps w ks).nc = w.ways := by rw [h3]; exact sum_perm (hp.map _)
  refine ⟨?_, hnc, ?_, ?_, ?_, hnc⟩
  · unfold staOf toldSta
    simp only [h4, List.length_map]
    rw [hp.length_eq]
  · unfold staOf toldSta
    simp only [h4, List.map_map]
    refine (sum_perm (hp.map _)).trans ?_
    rfl
  · unfold staOf toldSta
    simp only
    rw [show chz (w.n : Int) w.i = w.ways from rfl, ← hnc]
    have := sum_mul (w.C ps) (ks.map fun k => (w.pred k).ways)
    rw [List.map_map] at this
    exact this
  · unfold staOf toldSta
    simp only [h4]
    exact hp.map _
/-- the row that v sends by lamp k -/
def En (ps : List Int) (v : Nd) (k : Nat) : R4 := ⟨v.C ps + ps.getD k 0, ((v.add k).T : Nat), (k : Nat), v.ways⟩
def le2 (ps : List Int) (v w : Nd) : Prop := v.C ps < w.C ps ∨ (v.C ps = w.C ps ∧ v.T ≤ w.T)
structure Inv (ps : List Int) (vs : List Nd) (ms : List R4) : Prop where
  ok : ∀ v ∈ vs, v.ok ∧ 0 < v.n ∧ v.n ≤ vs.length
  nodup : vs.Nodup
  sorted : vs.Pairwise (le2 ps)
  out : ∀ u : Nd, u.ok → u ∉ zero :: vs → ∀ v ∈ vs, le2 ps v u
  c1 : ∀ r ∈ ms, ∃ v k, v ∈ zero :: vs ∧ k < 6 ∧ r = En ps v k
  c2 : ∀ v ∈ zero :: vs, ∀ k, k < 6 → v.add k ∉ zero :: vs → En ps v k ∈ ms
  c3 : ms.Nodup
section
variable {ps : List Int} {vs : List Nd} {ms : List R4}
theorem Inv.okz (I : Inv ps vs ms) {v : Nd} (h : v ∈ zero :: vs) : v.ok ∧ v.n ≤ vs.length := by
  rcases List.mem_cons.mp h with rfl | h
  · exact ⟨.inl rfl, Nat.zero_le _⟩
  · exact ⟨(I.ok v h).1, (I.ok v h).2.2⟩
theorem n_pos {u : Nd} (h : u.ok) (hz : u ≠ zero) : 0 < u.n := by
  rcases h with e | e
  · exact absurd e hz
  · lia
theorem last_s {u : Nd} (h : 0 < u.n) : u.last u.s := ⟨h, .inl rfl⟩
theorem Inv.least (I : Inv ps vs ms) (S : Settled ps) : ∀ (m : Nat) (u : Nd), u.n = m → u.ok → u ∉ zero :: vs → ∃ r ∈ ms, r.p < u.C ps ∨ (r.p = u.C ps ∧ r.t = (u.T : Nat)) := by
  intro m
  induction m using Nat.strongRecOn with
  | _ m ih =>
    intro u hm hu hn
    have h0 := n_pos hu (fun e => hn (by rw [e]; exact .head _))
    have hl := last_s h0
    obtain ⟨p1, p2, p3⟩ := Nd.pred_ok hu hl
    have pc := Nd.pred_C S hu hl
    have hk := Nd.last_lt hu hl
    by_cases hv : u.pred u.s ∈ zero :: vs
    · refine ⟨_, I.c2 _ hv u.s hk (by rw [p2]; exact hn), .inr ⟨pc, ?_⟩⟩
      show (((u.pred u.s).add u.s).T : Int) = u.T
      rw [p2]
    · obtain ⟨r, hr, h⟩ := ih _ (by lia) (u.pred u.s) rfl p1 hv
      have := (S.pos hk).1
      exact ⟨r, hr, .inl (by rcases h with h | h <;> lia)⟩
/-- there is always a place outside -/
theorem Inv.ne (I : Inv ps vs ms) (S : Settled ps) : ms ≠ [] := by
  have hu : (⟨0, 0, vs.length + 1⟩ : Nd) ∉ zero :: vs := fun h => by
    have := (I.okz h).2
    simp at this
    lia
  obtain ⟨r, hr, _⟩ := I.least S _ _ rfl (.inr ⟨by simp, by simp⟩) hu
  exact List.ne_nil_of_mem hr
theorem Inv.key (I : Inv ps vs ms) (hl : vs.length ≤ 12) {v : Nd} {k : Nat} (hv : v ∈ zero :: vs) (hk : k < 6) : (v.add k).T ∈ (zero :: vs).map Nd.T ↔ v.add k ∈ zero :: vs := by
  refine ⟨fun h => ?_, fun h => List.mem_map_of_mem h⟩
  obtain ⟨w, hw, e⟩ := List.mem_map.mp h
  have h1 := I.okz hv
  have h2 := I.okz hw
  have := Nd.add_n (v := v) (k := k)
  rw [← T_inj h2.1 (Nd.add_ok h1.1 hk) (by lia) (by lia) e]
  exact hw
theorem Inv.perm (I : Inv ps vs ms) {ms' : List R4} (h : ms.Perm ms') : Inv ps vs ms' :=
  { I with c1 := fun r hr => I.c1 r (h.symm.subset hr), c2 := fun v hv k hk hn => h.subset (I.c2 v hv k hk hn), c3 := h.nodup_iff.mp I.c3 }
/-- a row of a place that has joined is thrown away -/
theorem Inv.skip {x : R4} (I : Inv ps vs (x :: ms)) (hx : ∃ v ∈ zero :: vs, x.t = (v.T : Nat)) (hl : vs.length ≤ 12) : Inv ps vs ms :=
  { I with
    c1 := fun r hr => I.c1 r (.tail _ hr)
    c2 := fun v hv k hk hn => by
      rcases List.mem_cons.mp (I.c2 v hv k hk hn) with e | h
      · obtain ⟨u, hu, e2⟩ := hx
        rw [← e] at e2
        exact absurd ((I.key hl hv hk).mp (List.mem_map.mpr ⟨u, hu, (Int.ofNat.inj e2).symm⟩)) hn
      · exact h
    c3 := (List.nodup_cons.mp I.c3).2 }
end
theorem R4.le_two {a b : R4} (h : R4.le a b) : a.p < b.p ∨ (a.p = b.p ∧ a.t ≤ b.t) := by
  unfold R4.le R4.lt at h; lia
section
variable {ps : List Int} {vs : List Nd} {ms : List R4}
/-- w joins: the least place outside -/
structure Joins (ps : List Int) (vs : List Nd) (w : Nd) : Prop where
  ok : w.ok
  pos : 0 < w.n
  bnd : w.n ≤ vs.length + 1
  new : w ∉ zero :: vs
  least : ∀ u : Nd, u.ok → u ∉ zero :: vs → le2 ps w u
/-- the rows of w are being taken: ks came -/
structure Mid (ps : List Int) (vs : List Nd) (w : Nd) (ks : List Nat) (ms : List R4) : Prop where
  lst : ∀ k ∈ ks, w.last k
  nod : ks.Nodup
  c1 : ∀ r ∈ ms, ∃ v k, v ∈ zero :: vs ∧ k < 6 ∧ r = En ps v k
  c2 : ∀ v ∈ zero :: vs, ∀ k, k < 6 → v.add k ∉ zero :: vs → (v.add k = w ∧ k ∈ ks) ∨ En ps v k ∈ ms
  c3 : ms.Nodup
  off : ∀ k ∈ ks, En ps (w.pred k) k ∉ ms
  low : ∀ r ∈ ms, w.C ps < r.p ∨ (w.C ps = r.p ∧ (w.T : Int) ≤ r.t)
theorem Inv.join {x : R4} (I : Inv ps vs (x :: ms)) (S : Settled ps) (hl : vs.length ≤ 11) (hmin : ∀ y ∈ ms, R4.le x y) {v : Nd} {k : Nat} (hv : v ∈ zero :: vs) (hk : k < 6) (hx : x = En ps v k)
    (hn : v.add k ∉ zero :: vs) : Joins ps vs (v.add k) ∧ Mid ps vs (v.add k) [k] ms ∧ (v.add k).last k ∧ v = (v.add k).pred k ∧ x.p = (v.add k).C ps := by
  have hvo := I.okz hv
  have hwo := Nd.add_ok hvo.1 hk
  have hz : v.add k ≠ zero := fun e => hn (by rw [e]; exact .head _)
  have hmin' : ∀ y ∈ x :: ms, x.p < y.p ∨ (x.p = y.p ∧ x.t ≤ y.t) := fun y hy => by
    rcases List.mem_cons.mp hy with rfl | hy
    · exact .inr ⟨rfl, Int.le_refl _⟩
    · exact R4.le_two (hmin y hy)
  have hxp : x.p = v.C ps + ps.getD k 0 := by rw [hx]; rfl
  have hxt : x.t = ((v.add k).T : Nat) := by rw [hx]; rfl
  have key : ∀ u : Nd, u.ok → u ∉ zero :: vs → x.p < u.C ps ∨ (x.p = u.C ps ∧ x.t ≤ (u.T : Nat)) := fun u hu hun => by
    obtain ⟨r, hr, h⟩ := I.least S _ u rfl hu hun
    rcases hmin' r hr with a | a <;> rcases h with b | b <;> lia
  have hC := Nd.add_C S hvo.1 hk
  have hw := key _ hwo hn
  have hlast : (v.add k).last k ∧ (v.add k).C ps = v.C ps + ps.getD k 0 := by
    rcases hC with h | h
    · exact h
    · lia
  have hxC : x.p = (v.add k).C ps := by lia
  have hnn := Nd.add_n (v := v) (k := k)
  obtain ⟨p1, p2, p3⟩ := Nd.pred_ok hwo hlast.1
  have hpred : v = (v.add k).pred k := add_inj hvo.1 p1 (by lia) (by lia) hk p2.symm
  refine ⟨⟨hwo, n_pos hwo hz, by lia, hn, fun u hu hun => ?_⟩, ?_, hlast.1, hpred, hxC⟩
  · rcases key u hu hun with h | h
    · exact .inl (by lia)
    · exact .inr ⟨by lia, by rw [hxt] at h; exact Int.ofNat_le.mp h.2⟩
  · have hnd := List.nodup_cons.mp I.c3
    refine ⟨fun j hj => ?_, by simp, fun r hr => I.c1 r (.tail _ hr), fun u hu j hj hnj => ?_, hnd.2, fun j hj => ?_, fun r hr => ?_⟩
    · rw [List.mem_singleton.mp hj]; exact hlast.1
    · rcases List.mem_cons.mp (I.c2 u hu j hj hnj) with e | h
      · rw [hx] at e
        have e2 : (j : Int) = k := congrArg R4.l e
        have e2 : j = k := by lia
        subst e2
        have e3 : ((u.add j).T : Int) = (v.add j).T := congrArg R4.t e
        have := I.okz hu
        have h4 := Nd.add_n (v := u) (k := j)
        exact .inl ⟨T_inj (Nd.add_ok this.1 hk) hwo (by lia) (by lia) (by lia), .head _⟩
      · exact .inr h
    · rw [List.mem_singleton.mp hj, ← hpred, ← hx]; exact hnd.1
    · rcases hmin' r (.tail _ hr) with h | h
      · exact .inl (by lia)
      · exact .inr ⟨by lia, by lia⟩
theorem Mid.perm {w : Nd} {ks : List Nat} (M : Mid ps vs w ks ms) {ms' : List R4} (h : ms.Perm ms') : Mid ps vs w ks ms' :=
  { M with c1 := fun r hr => M.c1 r (h.symm.subset hr), c2 := fun v hv k hk hn => (M.c2 v hv k hk hn).imp id fun x => h.subset x, c3 := h.nodup_iff.mp M.c3
           off := fun k hk x => M.off k hk (h.symm.subset x), low := fun r hr => M.low r (h.symm.subset hr) }
end
section
variable {ps : List Int} {vs : List Nd} {ms : List R4} {w : Nd} {ks : List Nat}
def okz (vs : List Nd) : Prop := ∀ v ∈ zero :: vs, v.ok ∧ v.n ≤ vs.length
/-- one more row of w -/
theorem Mid.take {x : R4} (M : Mid ps vs w ks (x :: ms)) (J : Joins ps vs w) (S : Settled ps) (hl : vs.length ≤ 11) (hz : okz vs) (hp : x.p = w.C ps) (ht : x.t = (w.T : Nat)) :
    ∃ k, k < 6 ∧ x.l = (k : Nat) ∧ x.w = (w.pred k).ways ∧ k ∉ ks ∧ Mid ps vs w (ks ++ [k]) ms := by
  obtain ⟨v, k, hv, hk, rfl⟩ := M.c1 x (.head _)
  have hvo := hz v hv
  have hn := Nd.add_n (v := v) (k := k)
  have hwn := J.bnd
  have e : v.add k = w := T_inj (Nd.add_ok hvo.1 hk) J.ok (by lia) (by lia) (by have : ((v.add k).T : Int) = w.T := ht; lia)
  have hlast : w.last k := by
    have := Nd.add_C S hvo.1 hk
    have hp' : v.C ps + ps.getD k 0 = w.C ps := hp
    rw [e] at this
    rcases this with h | h
    · exact h.1
    · lia
  obtain ⟨p1, p2, p3⟩ := Nd.pred_ok J.ok hlast
  have hpred : v = w.pred k := add_inj hvo.1 p1 (by lia) (by lia) hk (by rw [p2, e])
  have hnk : k ∉ ks := fun h => M.off k h (by rw [← hpred]; exact .head _)
  have hnd := List.nodup_cons.mp M.c3
  refine ⟨k, hk, rfl, by rw [← hpred]; rfl, hnk, fun j hj => ?_, ?_, fun r hr => M.c1 r (.tail _ hr), fun u hu j hj hnj => ?_, hnd.2, fun j hj => ?_, fun r hr => M.low r (.tail _ hr)⟩
  · rcases List.mem_append.mp hj with h | h
    · exact M.lst j h
    · rw [List.mem_singleton.mp h]; exact hlast
  · rw [List.nodup_append]
    exact ⟨M.nod, by simp, fun a ha b hb => by rw [List.mem_singleton.mp hb]; exact fun e => hnk (e ▸ ha)⟩
  · rcases M.c2 u hu j hj hnj with ⟨a, b⟩ | h
    · exact .inl ⟨a, List.mem_append_left _ b⟩
    · rcases List.mem_cons.mp h with e' | h
      · have e2 : (j : Int) = k := congrArg R4.l e'
        have e2 : j = k := by lia
        subst e2
        have e3 : ((u.add j).T : Int) = (v.add j).T := congrArg R4.t e'
        have := hz u hu
        have h4 := Nd.add_n (v := u) (k := j)
        refine .inl ⟨?_, List.mem_append_right _ (.head _)⟩
        rw [← e]
        exact T_inj (Nd.add_ok this.1 hk) (Nd.add_ok hvo.1 hk) (by lia) (by lia) (by lia)
      · exact .inr h
  · rcases List.mem_append.mp hj with h | h
    · exact fun x => M.off j h (.tail _ x)
    · rw [List.mem_singleton.mp h, ← hpred]; exact hnd.1
/-- no row of w is left: all the last lamps came -/
theorem Mid.full (M : Mid ps vs w ks ms) (J : Joins ps vs w) (S : Settled ps) (hno : ∀ r ∈ ms, ¬ (r.p = w.C ps ∧ r.t = (w.T : Nat))) : ks.Perm w.lasts := by
  refine (List.perm_ext_iff_of_nodup M.nod (Nd.lasts_nodup J.ok J.pos)).mpr fun k => ⟨fun h => (Nd.mem_lasts J.pos).mpr (M.lst k h), fun h => ?_⟩
  have hlast := (Nd.mem_lasts J.pos).mp h
  obtain ⟨p1, p2, p3⟩ := Nd.pred_ok J.ok hlast
  have hk := Nd.last_lt J.ok hlast
  have hC := Nd.pred_C S J.ok hlast
  have hpos := (S.pos hk).1
  have hin : w.pred k ∈ zero :: vs := by
    by_cases h : w.pred k ∈ zero :: vs
    · exact h
    · rcases J.least _ p1 h with h | h <;> lia
  rcases M.c2 _ hin k hk (by rw [p2]; exact J.new) with ⟨_, h⟩ | h
  · exact h
  · refine absurd ⟨hC, ?_⟩ (hno _ h)
    show (((w.pred k).add k).T : Int) = w.T
    rw [p2]
/-- w has joined; the lamps below j are sent -/
structure Psh (ps : List Int) (vs : List Nd) (w : Nd) (j : Nat) (ms : List R4) : Prop where
  c1 : ∀ r ∈ ms, ∃ v k, v ∈ zero :: (vs ++ [w]) ∧ k < 6 ∧ r = En ps v k
  c2 : ∀ v ∈ zero :: vs, ∀ k, k < 6 → v.add k ∉ zero :: (vs ++ [w]) → En ps v k ∈ ms
  c2w : ∀ k, k < j → w.add k ∉ zero :: (vs ++ [w]) → En ps w k ∈ ms
  c3 : ms.Nodup
  off : ∀ k, j ≤ k → k < 6 → En ps w k ∉ ms
theorem mem_app {v : Nd} : v ∈ zero :: (vs ++ [w]) ↔ v ∈ zero :: vs ∨ v = w := by
  simp only [List.mem_cons, List.mem_append, List.not_mem_nil, or_false]
  exact ⟨fun h => by rcases h with h | h | h <;> simp [h], fun h => by rcases h with (h | h) | h <;> simp [h]⟩
theorem Mid.start (M : Mid ps vs w ks ms) (J : Joins ps vs w) (hl : vs.length ≤ 11) (hz : okz vs) : Psh ps vs w 0 ms := by
  refine ⟨fun r hr => let ⟨v, k, a, b⟩ := M.c1 r hr; ⟨v, k, mem_app.mpr (.inl a), b⟩, fun v hv k hk hn => ?_, fun k hk => by lia, M.c3, fun k _ hk hm => ?_⟩
  · have hn1 : v.add k ∉ zero :: vs := fun h => hn (mem_app.mpr (.inl h))
    rcases M.c2 v hv k hk hn1 with ⟨e, _⟩ | h
    · exact absurd (mem_app.mpr (.inr e)) hn
    · exact h
  · obtain ⟨v, k', hv, hk', e⟩ := M.c1 _ hm
    have e2 : (k : Int) = k' := congrArg R4.l e
    have e2 : k = k' := by lia
    subst e2
    have e3 : ((w.add k).T : Int) = (v.add k).T := congrArg R4.t e
    have hvo := hz v hv
    have h4 := Nd.add_n (v := v) (k := k)
    have h5 := Nd.add_n (v := w) (k := k)
    have h6 := J.bnd
    have e4 := T_inj (Nd.add_ok J.ok hk) (Nd.add_ok hvo.1 hk) (by lia) (by lia) (by lia)
    have e5 := add_inj J.ok hvo.1 (by lia) (by lia) hk e4
    exact J.new (e5 ▸ hv)
theorem Psh.perm {j : Nat} (M : Psh ps vs w j ms) {ms' : List R4} (h : ms.Perm ms') : Psh ps vs w j ms' :=
  { c1 := fun r hr => M.c1 r (h.symm.subset hr), c2 := fun v hv k hk hn => h.subset (M.c2 v hv k hk hn), c2w := fun k hk hn => h.subset (M.c2w k hk hn), c3 := h.nodup_iff.mp M.c3
    off := fun k a b x => M.off k a b (h.symm.subset x) }
theorem Psh.push {j : Nat} (M : Psh ps vs w j ms) (hj : j < 6) : Psh ps vs w (j + 1) (En ps w j :: ms) where
  c1 := fun r hr => by
    rcases List.mem_cons.mp hr with rfl | hr
    · exact ⟨w, j, mem_app.mpr (.inr rfl), hj, rfl⟩
    · exact M.c1 r hr
  c2 := fun v hv k hk hn => .tail _ (M.c2 v hv k hk hn)
  c2w := fun k hk hn => by
    by_cases e : k = j
    · subst e; exact .head _
    · exact .tail _ (M.c2w k (by lia) hn)
  c3 := List.nodup_cons.mpr ⟨M.off j (Nat.le_refl _) hj, M.c3⟩
  off := fun k hjk hk h => by
    rcases List.mem_cons.mp h with e | h
    · have e2 : (k : Int) = j := congrArg R4.l e
      lia
    · exact M.off k (by lia) hk h
theorem Psh.leave {j : Nat} (M : Psh ps vs w j ms) (hin : w.add j ∈ zero :: (vs ++ [w])) : Psh ps vs w (j + 1) ms :=
  { M with
    c2w := fun k hk hn => by
      by_cases e : k = j
      · subst e; exact absurd hin hn
      · exact M.c2w k (by lia) hn
    off := fun k hjk hk => M.off k (by lia) hk }
theorem Psh.done {ms₀ : List R4} (M : Psh ps vs w 6 ms) (J : Joins ps vs w) (I : Inv ps vs ms₀) : Inv ps (vs ++ [w]) ms where
  ok := fun v hv => by
    rw [List.length_append]
    rcases List.mem_append.mp hv with h | h
    · have := I.ok v h; exact ⟨this.1, this.2.1, by simp; lia⟩
    · rw [List.mem_singleton.mp h]; exact ⟨J.ok, J.pos, J.bnd⟩
  nodup := by
    rw [List.nodup_append]
    exact ⟨I.nodup, by simp, fun a ha b hb => by rw [List.mem_singleton.mp hb]; exact fun e => J.new (e ▸ .tail _ ha)⟩
  sorted := by
    rw [List.pairwise_append]
    exact ⟨I.sorted, by simp, fun a ha b hb => by rw [List.mem_singleton.mp hb]; exact I.out w J.ok J.new a ha⟩
  out := fun u hu hn v hv => by
    have hn' : u ∉ zero :: vs := fun h => hn (mem_app.mpr (.inl h))
    rcases List.mem_append.mp hv with h | h
    · exact I.out u hu hn' v h
    · rw [List.mem_singleton.mp h]; exact J.least u hu hn'
  c1 := M.c1
  c2 := fun v hv k hk hn => by
    rcases mem_app.mp hv with h | rfl
    · exact M.c2 v h k hk hn
    · exact M.c2w k hk hn
  c3 := M.c3
end
def firstRows (ps : List Int) : List R4 := (List.range 6).map fun k => En ps zero k
theorem inv_start (ps : List Int) : Inv ps [] (firstRows ps) where
  ok := fun v hv => by cases hv
  nodup := .nil
  sorted := .nil
  out := fun _ _ _ v hv => by cases hv
  c1 := fun r hr => by
    obtain ⟨k, hk, rfl⟩ := List.mem_map.mp hr
    exact ⟨zero, k, .head _, List.mem_range.mp hk, rfl⟩
  c2 := fun v hv k hk _ => by
    rw [List.mem_singleton.mp hv]
    exact List.mem_map.mpr ⟨k, List.mem_range.mpr hk, rfl⟩
  c3 := by
    unfold firstRows
    rw [List.nodup_iff_pairwise_ne, List.pairwise_map]
    refine List.Pairwise.imp ?_ (List.nodup_iff_pairwise_ne.mp List.nodup_range)
    intro a b h e
    have : (a : Int) = b := congrArg R4.l e
    exact h (by lia)
theorem En_zero (ps : List Int) {k : Nat} (hk : k < 6) : En ps zero k = ⟨ps.getD k 0, (lampOf k : Nat), (k : Nat), 1⟩ := by
  unfold En
  rcases (by lia : k = 0 ∨ k = 1 ∨ k = 2 ∨ k = 3 ∨ k = 4 ∨ k = 5) with rfl | rfl | rfl | rfl | rfl | rfl <;> simp [Nd.C, priceOf, Nd.add, Nd.T, tintOf, rgbOf, lampOf, Nd.ways, chz]
/-- the places that _law_all goes through -/
def allOf (ps : List Int) (most : Int) : List Nd :=
  (List.range 6).flatMap fun k => (List.range (most / ps.getD k 0).toNat).flatMap fun (a : Nat) =>
    (List.range ((most - ((a : Int) + 1) * ps.getD k 0) / ps.getD ((k + 1) % 6) 0 + 1).toNat).map fun b => ⟨k, b, a + 1 + b⟩
theorem C_ab (ps : List Int) (k a b : Nat) : (⟨k, b, a + 1 + b⟩ : Nd).C ps = ((a : Int) + 1) * ps.getD k 0 + b * ps.getD ((k + 1) % 6) 0 := by
  unfold Nd.C priceOf
  simp only
  rw [show (((a + 1 + b : Nat) : Int) - (b : Int)) = (a : Int) + 1 by lia]
theorem T_ab {k a b : Nat} (hk : k < 6) : (⟨k, b, a + 1 + b⟩ : Nd).T = (a + 1) * lampOf k + b * lampOf ((k + 1) % 6) := by
  rcases (by lia : k = 0 ∨ k = 1 ∨ k = 2 ∨ k = 3 ∨ k = 4 ∨ k = 5) with rfl | rfl | rfl | rfl | rfl | rfl <;> simp [Nd.T, tintOf, rgbOf, lampOf] <;> lia
theorem div_le {m p x : Int} (hp : 0 < p) : x ≤ m / p ↔ x * p ≤ m := Int.le_ediv_iff_mul_le hp
theorem mem_all {ps : List Int} (S : Settled ps) {most : Int} {v : Nd} : v ∈ allOf ps most ↔ (v.ok ∧ v ≠ zero ∧ v.C ps ≤ most) := by
  unfold allOf
  simp only [List.mem_flatMap, List.mem_map, List.mem_range]
  constructor
  · rintro ⟨k, hk, a, ha, b, hb, rfl⟩
    have p0 := (S.pos hk).1
    have p1 := (S.pos (show (k + 1) % 6 < 6 by lia)).1
    refine ⟨.inr ⟨hk, by show b < a + 1 + b; lia⟩, (fun e => by have := congrArg Nd.n e; simp at this), ?_⟩
    rw [C_ab]
    have h2 := (div_le (m := most - ((a : Int) + 1) * ps.getD k 0) (x := b) (show 0 < ps.getD ((k + 1) % 6) 0 by lia)).mp (by lia)
    lia
  · rintro ⟨hv, hz, hC⟩
    obtain ⟨h1, h2⟩ := hv.pos (by have := n_pos hv hz; lia)
    obtain ⟨k, b, n⟩ := v
    simp only at h1 h2
    obtain ⟨a, rfl⟩ : ∃ a, n = a + 1 + b := ⟨n - 1 - b, by lia⟩
    rw [C_ab] at hC
    have p0 := (S.pos h1).1
    have p1 := (S.pos (show (k + 1) % 6 < 6 by lia)).1
    have hnn : 0 ≤ (b : Int) * ps.getD ((k + 1) % 6) 0 := Int.mul_nonneg (by lia) (by lia)
    have q1 := (div_le (m := most) (x := (a : Int) + 1) (show 0 < ps.getD k 0 by lia)).mpr (by lia)
    have q2 := (div_le (m := most - ((a : Int) + 1) * ps.getD k 0) (x := b) (show 0 < ps.getD ((k + 1) % 6) 0 by lia)).mpr (by lia)
    exact ⟨k, h1, a, by lia, b, by lia, rfl⟩
theorem flat_nodup {α β : Type} {f : α → List β} : ∀ (l : List α), l.Nodup → (∀ a ∈ l, (f a).Nodup) → (∀ a b x, x ∈ f a → x ∈ f b → a = b) → (l.flatMap f).Nodup
  | [], _, _, _ => by simp
  | a :: r, hn, hf, hd => by
    rw [List.nodup_cons] at hn
    rw [List.flatMap_cons, List.nodup_append]
    refine ⟨hf a (.head _), flat_nodup r hn.2 (fun b hb => hf b (.tail _ hb)) hd, fun x hx y hy e => ?_⟩
    subst e
    obtain ⟨b, hb, hxb⟩ := List.mem_flatMap.mp hy
    exact hn.1 (hd a b x hx hxb ▸ hb)
theorem all_nodup (ps : List Int) (most : Int) : (allOf ps most).Nodup := by
  unfold allOf
  refine flat_nodup _ List.nodup_range (fun k _ => flat_nodup _ List.nodup_range (fun a _ => ?_) fun a b x hx hy => ?_) fun a b x hx hy => ?_
  · rw [List.nodup_iff_pairwise_ne, List.pairwise_map]
    exact List.Pairwise.imp (fun {x y} h e => h (by have := congrArg Nd.i e; exact this)) (List.nodup_iff_pairwise_ne.mp List.nodup_range)
  · obtain ⟨i, _, rfl⟩ := List.mem_map.mp hx
    obtain ⟨j, _, e⟩ := List.mem_map.mp hy
    have e1 := congrArg Nd.i e
    have e2 := congrArg Nd.n e
    simp only at e1 e2
    lia
  · obtain ⟨_, _, hx⟩ := List.mem_flatMap.mp hx
    obtain ⟨_, _, hy⟩ := List.mem_flatMap.mp hy
    obtain ⟨i, _, rfl⟩ := List.mem_map.mp hx
    obtain ⟨j, _, e⟩ := List.mem_map.mp hy
    exact (congrArg Nd.s e).symm
def key2 (ps : List Int) (v : Nd) : Int × Int := (v.C ps, (v.T : Nat))
abbrev leP (a b : Int × Int) : Prop := a.1 < b.1 ∨ (a.1 = b.1 ∧ a.2 ≤ b.2)
theorem leP.anti {a b : Int × Int} (h : leP a b) (k : leP b a) : a = b := by
  unfold leP at *
  exact Prod.ext (by lia) (by lia)
theorem sorted_eq : ∀ {A B : List (Int × Int)}, A.Perm B → A.Pairwise leP → B.Pairwise leP → A = B
  | [], B, h, _, _ => h.nil_eq
  | a :: A, [], h, _, _ => absurd h.length_eq (by simp)
  | a :: A, b :: B, h, ha, hb => by
    rw [List.pairwise_cons] at ha hb
    have e : a = b := by
      have h1 : a ∈ b :: B := h.subset (.head _)
      have h2 : b ∈ a :: A := h.symm.subset (.head _)
      rcases List.mem_cons.mp h1 with e | h1
      · exact e
      rcases List.mem_cons.mp h2 with e | h2
      · exact e.symm
      exact leP.anti (ha.1 b h2) (hb.1 a h1)
    subst e
    rw [sorted_eq h.cons_inv ha.2 hb.2]
theorem exists_sorted (l : List (Int × Int)) : ∃ m : List (Int × Int), m.Perm l ∧ m.Pairwise leP := by
  refine ⟨l.mergeSort fun a b => decide (leP a b), List.mergeSort_perm _ _, ?_⟩
  have := List.pairwise_mergeSort (le := fun a b => decide (leP a b)) (fun a b c h1 h2 => by simp only [decide_eq_true_eq] at *; unfold leP at *; lia) (fun a b => by simp only [Bool.or_eq_true, decide_eq_true_eq]; unfold leP; lia) l
  exact this.imp fun h => by simpa using h
theorem take_all {ps : List Int} {vs : List Nd} {ms : List R4} (I : Inv ps vs ms) (S : Settled ps) {w : Nd} (hw : vs.getLast? = some w) {L : List (Int × Int)}
    (hp : L.Perm ((allOf ps (w.C ps)).map (key2 ps))) (hs : L.Pairwise leP) : L.take vs.length = vs.map (key2 ps) := by
  have hwin : w ∈ vs := List.mem_of_getLast? hw
  have hmost : ∀ v ∈ vs, v.C ps ≤ w.C ps := fun v hv => by
    obtain ⟨pre, rfl⟩ : ∃ pre, vs = pre ++ [w] := by
      obtain ⟨hne, e⟩ := List.getLast?_eq_some_iff.mp hw |>.elim fun pre e => (⟨pre, e⟩ : ∃ pre, vs = pre ++ [w])
      exact ⟨hne, e⟩
    rcases List.mem_append.mp hv with h | h
    · have := (List.pairwise_append.mp I.sorted).2.2 v h w (.head _)
      unfold le2 at this; lia
    · rw [List.mem_singleton.mp h]; exact Int.le_refl _
  obtain ⟨R, hR, hRs⟩ := exists_sorted (((allOf ps (w.C ps)).filter fun v => decide (v ∉ vs)).map (key2 ps))
  have hperm : (vs ++ (allOf ps (w.C ps)).filter fun v => decide (v ∉ vs)).Perm (allOf ps (w.C ps)) := by
    refine (List.perm_ext_iff_of_nodup ?_ (all_nodup _ _)).mpr fun v => ?_
    · rw [List.nodup_append]
      refine ⟨I.nodup, (all_nodup _ _).filter _, fun a ha b hb e => ?_⟩
      have := (List.mem_filter.mp hb).2
      simp only [decide_eq_true_eq] at this
      exact this (e ▸ ha)
    · rw [List.mem_append, List.mem_filter]
      constructor
      · rintro (h | h)
        · have := I.ok v h
          exact (mem_all S).mpr ⟨this.1, fun e => by rw [e] at this; simp at this, hmost v h⟩
        · exact h.1
      · intro h
        by_cases hv : v ∈ vs
        · exact .inl hv
        · exact .inr ⟨h, by simpa using hv⟩
  have e : L = vs.map (key2 ps) ++ R := by
    refine sorted_eq (hp.trans ?_) hs ?_
    · refine (hperm.symm.map _).trans ?_
      rw [List.map_append]
      exact hR.symm.append_left _
    · rw [List.pairwise_append]
      refine ⟨?_, hRs, fun a ha b hb => ?_⟩
      · rw [List.pairwise_map]
        exact I.sorted.imp fun {a b} h => by unfold leP key2; unfold le2 at h; simp only; lia
      · obtain ⟨v, hv, rfl⟩ := List.mem_map.mp ha
        obtain ⟨u, hu, rfl⟩ := List.mem_map.mp (hR.subset hb)
        obtain ⟨hu1, hu2⟩ := List.mem_filter.mp hu
        obtain ⟨o1, o2, _⟩ := (mem_all S).mp hu1
        have := I.out u o1 (by simp only [decide_eq_true_eq] at hu2; simp [hu2, o2]) v hv
        unfold leP key2; unfold le2 at this; simp only; lia
  rw [e, List.take_left' (by simp)]
theorem len_sub {α : Type} [DecidableEq α] : ∀ {l m : List α}, l.Nodup → (∀ x ∈ l, x ∈ m) → l.length ≤ m.length
  | [], _, _, _ => Nat.zero_le _
  | a :: l, m, hn, hs => by
    rw [List.nodup_cons] at hn
    have := len_sub (l := l) (m := m.erase a) hn.2 fun x hx => (List.mem_erase_of_ne (show x ≠ a from fun e => hn.1 (e ▸ hx))).mpr (hs x (.tail _ hx))
    have h2 := List.length_erase_of_mem (hs a (.head _))
    have h3 := List.length_pos_of_mem (hs a (.head _))
    simp only [List.length_cons]
    lia
theorem all_small {ps : List Int} {vs : List Nd} {ms : List R4} (I : Inv ps vs ms) (S : Settled ps) (hl : vs.length ≤ 12) {w : Nd} (hw : w ∈ vs) : (allOf ps (w.C ps)).length ≤ 42 := by
  have := len_sub (m := vs ++ ((vs.map fun v => ⟨v.s, v.i, v.n + 1⟩) ++ ((vs.map fun v => ⟨(v.s + 5) % 6, v.n, v.n + 1⟩) ++ (List.range 6).map fun k => ⟨k, 0, 1⟩))) (all_nodup ps (w.C ps)) fun u hu => ?_
  · simp only [List.length_append, List.length_map, List.length_range] at this
    lia
  · obtain ⟨o1, o2, o3⟩ := (mem_all S).mp hu
    by_cases hv : u ∈ vs
    · exact List.mem_append_left _ hv
    refine List.mem_append_right _ ?_
    have h0 := n_pos o1 o2
    obtain ⟨h1, h2⟩ := o1.pos (by lia)
    have hlast := last_s h0
    obtain ⟨p1, p2, p3⟩ := Nd.pred_ok o1 hlast
    have pc := Nd.pred_C S o1 hlast
    have pp := (S.pos h1).1
    have hin : u.pred u.s ∈ zero :: vs := by
      by_cases h : u.pred u.s ∈ zero :: vs
      · exact h
      · have := I.out _ p1 h w hw
        unfold le2 at this
        lia
    by_cases c1 : u.i + 1 < u.n
    · have e : u.pred u.s = ⟨u.s, u.i, u.n - 1⟩ := by unfold Nd.pred; rw [if_pos rfl, if_pos c1]
      rw [e] at hin
      rcases List.mem_cons.mp hin with q | q
      · have := congrArg Nd.n q; simp at this; lia
      · refine List.mem_append_left _ (List.mem_map.mpr ⟨_, q, ?_⟩)
        obtain ⟨s, i, n⟩ := u
        simp only at h0 ⊢
        rw [show n - 1 + 1 = n by lia]
    · by_cases c2 : u.i = 0
      · refine List.mem_append_right _ (List.mem_append_right _ (List.mem_map.mpr ⟨u.s, List.mem_range.mpr h1, ?_⟩))
        obtain ⟨s, i, n⟩ := u
        simp only at h0 c1 c2 ⊢
        rw [c2, show n = 1 by lia]
      · have e : u.pred u.s = ⟨(u.s + 1) % 6, 0, u.n - 1⟩ := by unfold Nd.pred; rw [if_pos rfl, if_neg c1, if_neg c2]
        rw [e] at hin
        rcases List.mem_cons.mp hin with q | q
        · have := congrArg Nd.n q; simp at this; lia
        · refine List.mem_append_right _ (List.mem_append_left _ (List.mem_map.mpr ⟨_, q, ?_⟩))
          obtain ⟨s, i, n⟩ := u
          simp only at h0 h1 h2 c1 c2 ⊢
          rw [show ((s + 1) % 6 + 5) % 6 = s by lia, show n - 1 + 1 = n by lia, show n - 1 = i by lia]
section
variable {prog : Program} {w : World} {A : Around} {E : Value → Shared → Prop} {h : Heap} {gn : Array GenState} {dr : Drawn} {tk : Nat} {os : OsState} {env : Env} {L : Addr} {D : List Addr} {R : Result → Shared → Prop}
/-- a for over a range's iterator, what is known for good growing from turn to turn -/
theorem for_rngG {σ : Type} (G : σ → Heap) (P : Nat → σ → Heap → Prop) (ls : Nat → σ → List (Str × Value)) (F : Nat → σ → Prop) (c₀ : σ) {x : Str} {px : Pos} {body : List Stmt} {it : Addr} {a st : Int} {n : Nat}
    (hh : A.handled = none) (hitD : it ∉ D) (S : St (G c₀) L (it :: D) (fun h => IsRangeIter h it a n st ∧ P 0 c₀ h) h (ls 0 c₀)) (hF : F 0 c₀)
    (dep : ∀ i c h h', P i c h → (∀ d ∈ D, ∀ o, h.get? d = some o → h'.get? d = some o) → P i c h')
    (turn : ∀ i c h tk t, i < n → F i c → St (G c) L (it :: D) (fun h => IsRangeIter h it (a + (i : Int) * st + st) ((n : Int) - i - 1) st ∧ P i c h) h ((x, .int (a + (i : Int) * st) t) :: ls i c) →
      wpAny (model prog w) A (execs body env) (fun f s₃ => (f = .next ∨ f = .cont) ∧ ∃ h' tk' c', s₃ = ⟨h', gn, dr, tk', os⟩ ∧ F (i + 1) c' ∧
        St (G c') L (it :: D) (fun h => IsRangeIter h it (a + (i : Int) * st + st) ((n : Int) - i - 1) st ∧ P (i + 1) c' h) h' (ls (i + 1) c')) (notedBy (model prog w) A env fun e s' => R (.error e) s') ⟨h, gn, dr, tk, os⟩)
    (done : ∀ c h tk, F n c → St (G c) L D (P n c) h (ls n c) → R (.ok .next) ⟨h, gn, dr, tk, os⟩)
    (hL : env.locals = L := by rfl) (hk : env.scope.kind = .function := by kernel_rfl) (hl : env.kindOf x = some .local := by kernel_rfl) :
    codeAny (model prog w) A (.forLoop (.Name x px) (.ref it) body [] env) R ⟨h, gn, dr, tk, os⟩ := by
  refine codeAny_forLoop (fun m s => ∃ i c h tk, m = n - i ∧ i ≤ n ∧ s = ⟨h, gn, dr, tk, os⟩ ∧ F i c ∧ St (G c) L (it :: D) (fun h => IsRangeIter h it (a + (i : Int) * st) ((n : Int) - i) st ∧ P i c h) h (ls i c)) ?_ n
    ⟨0, c₀, h, tk, rfl, Nat.zero_le _, rfl, hF, by simpa using S⟩
  rintro m s ⟨i, c, h, tk, rfl, hi, rfl, hFi, S⟩
  by_cases hin : i < n
  · refine wpAny_pyNext_range_item (s := ⟨h, gn, dr, tk, os⟩) S.here.1 (by lia) fun h₁ hit₁ hs₁ => ?_
    have S₁ : St (G c) L (it :: D) (fun h => IsRangeIter h it (a + (i : Int) * st + st) ((n : Int) - i - 1) st ∧ P i c h) h₁ (ls i c) := by
      refine S.same (.head _) hs₁ ⟨hit₁, dep i c _ _ S.here.2 fun d hd o e => (hs₁.2 d (fun q => hitD (q ▸ hd))).trans e⟩ fun h h' x k => ⟨k it (.head _) _ x.1, dep i c h h' x.2 fun d hd => k d (.tail _ hd)⟩
    refine wpAny_assign_Name ?_
    refine r_st S₁ (fun h₂ tk₂ S₂ _ => ?_) hL hk hl
    refine wpAny_mono (turn i c h₂ tk₂ _ hin hFi S₂) ?_ fun _ _ x => x
    rintro f s₃ ⟨hf, h', tk', c', rfl, hF', S'⟩
    have : ∃ m, m < n - i ∧ ∃ i c h tk, m = n - i ∧ i ≤ n ∧ (⟨h', gn, dr, tk', os⟩ : Shared) = ⟨h, gn, dr, tk, os⟩ ∧ F i c ∧ St (G c) L (it :: D) (fun h => IsRangeIter h it (a + (i : Int) * st) ((n : Int) - i) st ∧ P i c h) h (ls i c) := by
      refine ⟨n - (i + 1), by lia, i + 1, c', h', tk', rfl, hin, rfl, hF', ?_⟩
      rw [show a + ((i + 1 : Nat) : Int) * st = a + (i : Int) * st + st by rw [Int.natCast_add, Int.add_mul]; simp; lia, show (n : Int) - ((i + 1 : Nat) : Int) = (n : Int) - i - 1 by lia]
      exact S'
    rcases hf with rfl | rfl <;> exact this
  · have : i = n := by lia
    subst this
    refine wpAny_pyNext_range_end (s := ⟨h, gn, dr, tk, os⟩) hh S.here.1 (by lia) fun h₁ hs₁ => ?_
    refine wpAny_execs_nil (done c h₁ tk hFi ?_)
    have hne : ∀ b o, b ≠ it → h.get? b = some o → h₁.get? b = some o := fun b o hb e => hs₁ b o hb e
    exact {
      loc := by
        obtain ⟨m, ⟨o, es, ep, ho, r⟩, h2⟩ := S.loc
        exact ⟨m, ⟨o, es, ep, hne L o (Ne.symm (S.offD it (.head _)).2) ho, r⟩, h2⟩
      keep := fun b o e => hne b o (fun q => by subst q; rw [(S.offD b (.head _)).1] at e; cases e) (S.keep b o e)
      offL := S.offL
      offD := fun d hd => S.offD d (.tail _ hd)
      dep := dep i c
      here := dep i c _ _ S.here.2 fun d hd o e => hne d o (fun q => hitD (q ▸ hd)) e }
end
section
variable {prog : Program} {w : World} {A : Around} {E : Value → Shared → Prop} {Q : Value → Shared → Prop} {h : Heap} {gn : Array GenState} {dr : Drawn} {tk : Nat} {os : OsState} {env : Env}
/-- a tuple's end part -/
theorem r_sliceT {value slice : PySem.Expr} {l sl : Addr} {items : Array Value} {a : Nat} {u : Tok} (hl : h.IsTuple l items) (hs : h.IsSliceOf sl (.int a u) .none .none) (h1 : 1 ≤ a) (ha : a ≤ items.size) (hz : items.size ≤ 2 ^ 20)
    (q : ∀ h' b, h.objs.size ≤ b → h'.IsTuple b (items.toList.drop a).toArray → Le h h' → Q (.ref b) ⟨h', gn, dr, tk, os⟩)
    (hsub : subscripted slice false (.ref l) (.ref sl) = operate [.ref sl, .ref l] (getItem (.ref l) (.ref sl)) := by kernel_rfl) :
    wpAny (model prog w) A (subscriptTail value slice (.ref l) (.ref sl)) Q E ⟨h, gn, dr, tk, os⟩ := by
  refine tail_any (s := ⟨h, gn, dr, tk, os⟩) (T := "tuple") (let ⟨o, ho, hc, _⟩ := hl; ⟨o, ho, hc⟩) PyProof.Rows.slot_tuple_getitem.lookup (getItem_tuple_from (s := ⟨h, gn, dr, tk, os⟩) hl hs h1 ha (q _ _ (Nat.le_refl _) ⟨_, Heap.get?_push_size _ rfl, rfl, _, rfl⟩ (Le.push _ _)) ?_) hsub
  rw [sizeLine_eq]; lia
/-- a list against the empty list -/
theorem r_neNil {l b : Addr} {items : Array Value} (hl : h.IsList l items) (hb : h.IsList b #[]) (hu : A.units < cLine) (q : Q (.bool (!items.isEmpty)) ⟨h, gn, dr, tk, os⟩) :
    wpAny (model prog w) A (compareOp .NotEq (.ref l) (.ref b)) Q E ⟨h, gn, dr, tk, os⟩ := by
  by_cases hz : items.size = 0
  · refine (SeqAt.RcNeAt.lists (s := ⟨h, gn, dr, tk, os⟩) (e := fun _ => true) hl hb (by simpa using hz) hu (fun j h1 _ => by lia)) prog w E Q ?_
    rw [hz]
    have : items.isEmpty = true := by simpa using hz
    rw [this] at q
    simpa using q
  · refine (SeqAt.RcNeAt.lists_lengths (s := ⟨h, gn, dr, tk, os⟩) hl hb (by simpa using hz) hu) prog w E Q ?_
    have : items.isEmpty = false := by simpa using hz
    rw [this] at q
    exact q
theorem r_newNil {pos : Pos} (q : ∀ h' b, h.objs.size ≤ b → h'.IsList b #[] → Le h h' → Q (.ref b) ⟨h', gn, dr, tk, os⟩) :
    wpAny (model prog w) A (eval (.List [] pos) env) Q E ⟨h, gn, dr, tk, os⟩ := by
  refine wpAny_List (s := ⟨h, gn, dr, tk, os⟩) ?_
  walk_at "m1"
  exact ⟨Nat.zero_le _, q _ _ (Nat.le_refl _) ⟨_, Heap.get?_push_size _ rfl, rfl, _, rfl⟩ (Le.push _ _)⟩
end
theorem valueAt_some {kvs : List (Int × Value)} {k : Int} (h : k ∈ kvs.map (·.1)) : ∃ v, valueAt kvs k = some v := by
  obtain ⟨p, hp, rfl⟩ := List.mem_map.mp h
  unfold valueAt
  cases e : kvs.find? fun q => decide (q.1 = p.1) with
  | none =>
    have := List.find?_eq_none.mp e p hp
    simp at this
  | some q => exact ⟨q.2, rfl⟩
theorem key_mem {l : List Nd} (hl : ∀ v ∈ l, v.ok ∧ v.n ≤ 13) {u : Nd} (hu : u.ok) (hn : u.n ≤ 13) : u.T ∈ l.map Nd.T ↔ u ∈ l := by
  refine ⟨fun h => ?_, fun h => List.mem_map_of_mem h⟩
  obtain ⟨v, hv, e⟩ := List.mem_map.mp h
  rw [← T_inj (hl v hv).1 hu (hl v hv).2 hn e]; exact hv
theorem key_int {l : List Nd} {t : Nat} : (t : Int) ∈ l.map (fun v => ((v.T : Nat) : Int)) ↔ t ∈ l.map Nd.T := by
  constructor
  · intro h
    obtain ⟨v, hv, e⟩ := List.mem_map.mp h
    exact List.mem_map.mpr ⟨v, hv, Int.ofNat.inj e⟩
  · intro h
    obtain ⟨v, hv, e⟩ := List.mem_map.mp h
    exact List.mem_map.mpr ⟨v, hv, by rw [e]⟩
theorem staOf_one (ps : List Int) (w : Nd) (k : Nat) (a : Int) (ha : a = w.C ps) : (⟨1 + 0, (w.pred k).ways + 0, (w.pred k).ways * ps.getD k 0 + 0, (w.pred k).ways * a + 0, [] ++ [((k : Int), (w.pred k).ways)]⟩ : Sta) = staOf ps w [k] := by
  subst ha
  simp [staOf]
theorem staOf_snoc (ps : List Int) (w : Nd) (ks : List Nat) (k : Nat) : (⟨1 + (staOf ps w ks).cc, (w.pred k).ways + (staOf ps w ks).nc, (w.pred k).ways * ps.getD k 0 + (staOf ps w ks).tt, (w.pred k).ways * w.C ps + (staOf ps w ks).ct,
    (staOf ps w ks).cs ++ [((k : Int), (w.pred k).ways)]⟩ : Sta) = staOf ps w (ks ++ [k]) := by
  unfold staOf
  simp only [Sta.mk.injEq, List.map_append, List.sum_append, List.length_append, List.map_cons, List.map_nil, List.sum_cons, List.sum_nil, List.length_cons, List.length_nil]
  refine ⟨by lia, by lia, by lia, by lia, trivial⟩
section
variable {M : Model} {A : Around} {E : Value → Shared → Prop} {env : Env} {g h : Heap} {gn : Array GenState} {dr : Drawn} {tk : Nat} {os : OsState} {Q : Value → Shared → Prop} {mg mb : Str → Option Value} {fa : Nat → Addr}
theorem e_fn0 {x : Str} {np pos : Pos} (i : Nat) (B : Base mg mb fa g) (k : Le g h)
    (q : wpAny M A (call (.ref (fa i)) []) Q E ⟨h, gn, dr, tk, os⟩)
    (hi : i ∈ fnIdx := by decide) (hx : x = (fn i).name := by kernel_rfl)
    (hg : env.globals = mainGlobals := by rfl) (hk : env.scope.kind = .function := by kernel_rfl) (hl : env.kindOf x = some .globalImplicit := by kernel_rfl) (hd : (x == ("__debug__" : Str)) = false := by kernel_rfl) :
    wpAny M A (eval (.Call (.Name x np) [] [] pos) env) Q E ⟨h, gn, dr, tk, os⟩ := by
  obtain ⟨o, pm, cd, doc, ho, hdat, _⟩ := (B.fn i hi).2
  exact wpAny_Call_NameR (r_fn i B k (callWith_def_kw hdat (PySem.evalArgs_none ⟨k _ _ ho, q⟩)) hi hx hg hk hl hd)
end
section
variable {prog : Program} {w : World} {A : Around} {E : Value → Shared → Prop} {mg mb : Str → Option Value} {fa : Nat → Addr} {g : Heap} {Q : Value → Shared → Prop} {h₀ : Heap} {gn : Array GenState} {dr : Drawn} {tk₀ : Nat} {os : OsState}
/-- the book: zero and the places that joined -/
def BookIs (prog : Program) (w : World) (N : Nat) (h : Heap) (ps : List Int) (vs : List Nd) (kvs : List (Int × Value)) : Prop :=
  kvs.map (·.1) = ((zero :: vs).map fun v => ((v.T : Nat) : Int)) ∧
    ∀ (i : Nat) (k : Int) (v : Value) (n : Nd), kvs[i + 1]? = some (k, v) → vs[i]? = some n → ∃ ks : List Nat, ks.Perm n.lasts ∧ StaAt prog w N h v (staOf ps n ks)
/-- what holds between the turns of the outer loop -/
structure WL (prog : Program) (w : World) (N : Nat) (ps : List Int) (wish : Nat) (G : Heap) (vs : List Nd) (xs : List Row) (kvs : List (Int × Value)) : Prop where
  tup : ∀ p ∈ xs, T4 G p.1 p.2
  ord : Ord 0 xs
  inv : Inv ps vs (xs.map (·.2))
  book : BookIs prog w N G ps vs kvs
  len : xs.length ≤ 6 * (vs.length + 1)
  le : vs.length ≤ wish
theorem WL.size {N : Nat} {ps : List Int} {wish : Nat} {G : Heap} {vs : List Nd} {xs : List Row} {kvs : List (Int × Value)} (W : WL prog w N ps wish G vs xs kvs) : kvs.length = vs.length + 1 := by
  have := congrArg List.length W.book.1
  simpa using this
theorem StaAt.base {n N : Nat} {h h' G : Heap} {L : Addr} {D : List Addr} {v : Value} {x : Sta} (s : StaAt prog w N h v x) (hs : Heap.SameBut L h h') (hg : ∀ b o, b ≠ L → b ∉ D → h'.get? b = some o → G.get? b = some o) (hL : L < N) (hD : ∀ d ∈ D, d < N) (hn : n ≤ N) : StaAt prog w n G v x :=
  (s.on fun b o hb e => hg b o (Nat.ne_of_gt (Nat.lt_of_lt_of_le hL hb)) (fun q => absurd (hD b q) (Nat.not_lt.mpr hb)) ((hs.2 b (Nat.ne_of_gt (Nat.lt_of_lt_of_le hL hb))).trans e)).low hn
theorem BookIs.up {N : Nat} {G h : Heap} {ps : List Int} {vs : List Nd} {kvs : List (Int × Value)} (x : BookIs prog w N G ps vs kvs) (k : Le G h) : BookIs prog w N h ps vs kvs :=
  ⟨x.1, fun i k' v n e1 e2 => let ⟨ks, h1, h2⟩ := x.2 i k' v n e1 e2; ⟨ks, h1, h2.up k⟩⟩
theorem BookIs.snoc {N : Nat} {G : Heap} {ps : List Int} {vs : List Nd} {kvs : List (Int × Value)} {n : Nd} {ks : List Nat} {ev : Value} (x : BookIs prog w N G ps vs kvs) (hks : ks.Perm n.lasts) (hev : StaAt prog w N G ev (staOf ps n ks)) :
    BookIs prog w N G ps (vs ++ [n]) (kvs ++ [(((n.T : Nat) : Int), ev)]) := by
  have hl : kvs.length = vs.length + 1 := by simpa using congrArg List.length x.1
  refine ⟨?_, fun i k v m e1 e2 => ?_⟩
  · rw [List.map_append, x.1, ← List.cons_append, List.map_append]
    rfl
  · rcases Nat.lt_trichotomy i vs.length with hi | hi | hi
    · rw [List.getElem?_append_left (by lia)] at e1 e2
      exact x.2 i k v m e1 e2
    · rw [List.getElem?_append_right (by lia), show i + 1 - kvs.length = 0 by lia] at e1
      rw [List.getElem?_append_right (by lia), show i - vs.length = 0 by lia] at e2
      cases e1; cases e2
      exact ⟨ks, hks, hev⟩
    · rw [List.getElem?_eq_none (by simp; lia)] at e2
      cases e2
theorem depW {bk hp : Addr} (kvs : List (Int × Value)) (xs : List Row) (h h' : Heap) (x : DictI prog w h bk kvs ∧ h.PlainList hp (vals xs)) (k : ∀ d ∈ [bk, hp], ∀ o, h.get? d = some o → h'.get? d = some o) : DictI prog w h' bk kvs ∧ h'.PlainList hp (vals xs) :=
  ⟨x.1.at (k bk (.head _)), list_dep _ _ x.2 fun d hd => k d (.tail _ hd)⟩
set_option maxHeartbeats 2000000 in
theorem walk_spec {pr : Addr} {ps : List Int} {wish : Nat} {tw : Tok}
    (B : Base mg mb fa g) (k : Le g h₀) (hpr : IntsL h₀ pr ps) (S₀ : Settled ps) (hw1 : 1 ≤ wish) (hw2 : wish ≤ 12)
    (hh : A.handled = none) (hd : A.depth + 8 < recursionLimit) (hu : A.units + 512 < cLine)
    (q : ∀ h' tk bk vs ms kvs, h₀.objs.size ≤ bk → Inv ps vs ms → vs.length = wish → DictI prog w h' bk kvs → BookIs prog w h₀.objs.size h' ps vs kvs → Le h₀ h' → Q (.ref bk) ⟨h', gn, dr, tk, os⟩) :
    wpAny (model prog w) A (call (.ref (fa 16)) [.ref pr, .int wish tw]) Q E ⟨h₀, gn, dr, tk₀, os⟩ := by
  refine call_fnC 16 (binds := [("prices", .ref pr), ("wish", .int wish tw)]) B k (by lia) rfl (fun h₁ cd tk₁ hns hk₁ hce => ?_)
  have hc1 : h₁.IsCell (h₀.objs.size + 1) (some (.ref pr)) := hce "prices" (h₀.objs.size + 1) (by kernel_rfl)
  have hc2 : h₁.IsCell (h₀.objs.size + 2) none := hce "lamps" (h₀.objs.size + 2) (by kernel_rfl)
  have hloc : Loc h₁ h₀.objs.size [("wish", .int wish tw)] := ⟨_, hns, fun x v e => by
    have hx : x = "wish" ∧ v = .int wish tw := by
      rw [List.lookup_cons] at e
      cases h : x == "wish" with
      | true => rw [h] at e; cases e; exact ⟨eq_of_beq h, rfl⟩
      | false => rw [h] at e; cases e
    obtain ⟨rfl, rfl⟩ := hx
    kernel_rfl⟩
  have none_at : ∀ a, h₀.objs.size ≤ a → h₀.get? a = none := fun a ha => by
    cases e : h₀.get? a with
    | none => rfl
    | some o => exact absurd (Heap.lt_size e) (Nat.not_lt.mpr ha)
  have S : St h₀ h₀.objs.size [h₀.objs.size + 1, h₀.objs.size + 2] (fun h => h.IsCell (h₀.objs.size + 1) (some (.ref pr)) ∧ h.IsCell (h₀.objs.size + 2) none) h₁ [("wish", .int wish tw)] :=
    { loc := hloc, keep := hk₁, offL := none_at _ (Nat.le_refl _)
      offD := fun d hd => by
        simp at hd
        rcases hd with rfl | rfl
        · exact ⟨none_at _ (Nat.le_add_right _ _), ne_add _ _ (by decide)⟩
        · exact ⟨none_at _ (Nat.le_add_right _ _), ne_add _ _ (by decide)⟩
      dep := fun h h' x k => ⟨cell_dep x.1 (k _ (by simp)), cell_dep x.2 (k _ (by simp))⟩
      here := ⟨hc1, hc2⟩ }
  have BG : Base mg mb fa h₀ := B.up k
  have hh' : ∀ env, (A.deeper env).handled = none := fun _ => hh
  clear hce hns hloc hc1 hc2
  generalize hL : h₀.objs.size = L at S ⊢
  walk_at "mw"
  refine e_fn0 14 BG S.keep ?_
  refine lamps_spec BG S.keep (by show A.depth + 1 + 1 < _; lia) fun h₂ tk₂ la t0 t1 t2 t3 t4 t5 ha₂ ht₂ k₂ => ?_
  have S₂ := S.grow k₂
  have n12 : L + 1 ≠ L + 2 := by lia
  refine r_stC S₂.here.2 fun h₃ hc₃ hs₃ => ?_
  have S₃ := S₂.same (P' := fun h => h.IsCell (L + 1) (some (.ref pr)) ∧ h.IsCell (L + 2) (some (.ref la))) (by simp : L + 2 ∈ [L + 1, L + 2]) hs₃ ⟨cell_dep S₂.here.1 fun o e => (hs₃.2 _ n12).trans e, hc₃⟩ (fun h h' x k => ⟨cell_dep x.1 (k _ (by simp)), cell_dep x.2 (k _ (by simp))⟩)
  have ha2 : la ≠ L + 2 := by
    intro e
    obtain ⟨o, ho, hd⟩ := S₂.here.2
    obtain ⟨o', ho', hc', n, hd'⟩ := ht₂
    rw [e, ho] at ho'
    cases ho'
    rw [hd] at hd'
    cases hd'
  have ht₃ : h₃.IsTuple la _ := let ⟨o, ho, r⟩ := ht₂; ⟨o, (hs₃.2 la ha2).trans ho, r⟩
  obtain ⟨its, hits, hget6⟩ : ∃ its, h₃.IsTuple la its ∧ ∀ j : Nat, j < 6 → ∃ ts, its[j]? = some (.int (lampOf j : Nat) ts) := ⟨_, ht₃, fun j hj => by
    rcases (by lia : j = 0 ∨ j = 1 ∨ j = 2 ∨ j = 3 ∨ j = 4 ∨ j = 5) with rfl | rfl | rfl | rfl | rfl | rfl <;> exact ⟨_, rfl⟩⟩
  walk_at "m1"
  refine e_compA (cl := [("prices", L + 1), ("lamps", L + 2)]) ?_
  refine e_ty BG S₃.keep boot_range ?_
  walk_at "mw"
  refine r_range1 fun h₄ tk₄ r t₀ t₁ hr k₄ => ?_
  have S₄ := S₃.grow k₄
  refine r_iterRange hr (by decide) (by decide) (by decide) (by decide) ?_
  rw [show ((6 : Int) - 0).toNat = 6 by decide]
  have hK : Le h₄ (hideAll (h₄.push (iterObj 0 ((6 : Nat) : Int) 1)) [h₄.objs.size]) := fun b o e => hideAll_get _ (Heap.get?_push_of_some _ e) (by
    intro q; rw [List.mem_singleton.mp q] at e; exact absurd (Heap.lt_size e) (Nat.lt_irrefl _))
  have hit1 : h₄.objs.size < (h₄.push (iterObj 0 ((6 : Nat) : Int) 1)).objs.size := by rw [Heap.size_push]; exact Nat.lt_succ_self _
  have hit0 : IsRangeIter (h₄.push (iterObj 0 ((6 : Nat) : Int) 1)) h₄.objs.size 0 ((6 : Nat) : Int) 1 := Heap.get?_push_size _ rfl
  have hlow : ∀ b o, h₄.get? b = some o → b ≠ h₄.objs.size := fun b o e => Nat.ne_of_lt (Heap.lt_size e)
  have hLe₂ := Le.push h₄ (iterObj 0 ((6 : Nat) : Int) 1)
  generalize h₄.push (iterObj 0 ((6 : Nat) : Int) 1) = h₅ at hK hit1 hit0 hLe₂ ⊢
  generalize h₄.objs.size = it at hK hit1 hit0 hlow ⊢
  refine comp_turnsA (Pv := fun i v => ∃ t, v = .int ((0 : Int) + i) t) (OI := fun i h => IsRangeIter h it (0 + i) (((6 : Nat) : Int) - i) 1) (n := 6) (fun _ => true)
    (fun j v y h => ∃ a t1 t2 t3 t4, y = .ref a ∧ h₅.objs.size + 1 < a ∧ h.IsTuple a #[.int (ps.getD j 0) t1, .int (lampOf j : Nat) t2, .int (j : Nat) t3, .int 1 t4]) (by decide) hit1 (by simpa using hit0) (Wk.range (hh' _) 0 6) (fun _ _ _ _ _ x kk => ?_) (fun _ _ _ _ _ _ _ _ _ _ q => no_tests (q _)) ?_ ?_
  · obtain ⟨a, t1, t2, t3, t4, e, ha, o, ho, r⟩ := x
    exact ⟨a, t1, t2, t3, t4, e, ha, o, kk a o (fun q => by rw [q] at ha; exact absurd hit1 (Nat.not_lt.mpr (Nat.le_of_lt (Nat.lt_of_succ_lt ha)))) (Nat.ne_of_gt (Nat.lt_of_succ_lt ha)) (Nat.ne_of_gt ha) ho, r⟩
  · rintro j v ys h₆ tk₆ Q' E' hj ⟨tv, rfl⟩ _ S₆ q'
    have k₆ : Le h₃ h₆ := (k₄.trans hK).trans S₆.keep
    walk_at "mm"
    refine r_ldC (S₃.here.1.keeps k₆) ?_
    walk_at "mm"
    refine r_itemI (hpr.up (S₃.keep.trans k₆)) (by lia) (x := ps.getD j 0) (by rw [show ((0 : Int) + (j : Int)).toNat = j by lia]; exact (Good6.at ⟨S₀.len, S₀.bnd⟩ hj).1) (by rw [S₀.len]; decide) fun _ => ?_
    walk_at "mm"
    refine r_ldC (S₃.here.2.keeps k₆) ?_
    walk_at "mm"
    obtain ⟨ts, hsd⟩ := hget6 j hj
    refine r_itemT (k₆.tuple hits) (by lia) (by lia) (v := .int (lampOf j : Nat) ts) (by rw [show ((0 : Int) + (j : Int)).toNat = j by lia]; exact hsd) ?_
    walk_at "mm"
    refine r_tuple (by rw [sizeLine_eq]; simp) fun h₈ a₈ ha₈ ht₈ k₈ => ?_
    rw [Int.zero_add] at ht₈
    exact q' _ _ _ ⟨a₈, _, _, _, _, rfl, Nat.lt_of_lt_of_le S₆.lt ha₈, ht₈⟩ k₈
  intro h₇ tk₇ ys hb₇ hl₇ hM
  obtain ⟨hyl, hyv⟩ := hM.all
  obtain ⟨xs₀, hxs₀, hx6, hxv⟩ : ∃ xs : List Row, xs.map (·.1) = ys ∧ xs.map (·.2) = firstRows ps ∧ ∀ p ∈ xs, ∃ a, p.1 = .ref a ∧ h₅.objs.size + 1 < a ∧ T4 h₇ p.1 p.2 := by
    have hfl : (firstRows ps).length = 6 := by simp [firstRows]
    refine ⟨ys.zip (firstRows ps), ?_, ?_, fun p hp => ?_⟩
    · exact List.map_fst_zip (by lia)
    · exact List.map_snd_zip (by lia)
    · obtain ⟨k, hk, e⟩ := List.mem_iff_getElem.mp hp
      rw [List.getElem_zip] at e
      have hk6 : k < 6 := by rw [List.length_zip] at hk; lia
      obtain ⟨_, _, a, t1, t2, t3, t4, e2, ha, ht⟩ := hyv k (ys[k]'(by lia)) (List.getElem?_eq_getElem _)
      have e3 : (firstRows ps)[k]'(by lia) = En ps zero k := by simp [firstRows]
      rw [e3, En_zero ps hk6, e2] at e
      subst e
      exact ⟨a, rfl, ha, a, t1, t2, t3, t4, rfl, ht⟩
  have hxl : xs₀.length = 6 := by rw [← List.length_map (f := (·.1)), hxs₀]; exact hyl
  have k₇ : Le h₄ h₇ := fun b o e => hb₇ b o (hlow b o e) (hLe₂ b o e)
  have S₇ := S₄.grow k₇
  have hL5 : L < h₅.objs.size := by
    have := S₄.lt
    obtain ⟨o, es, ep, ho, _⟩ := (S₄.loc).choose_spec.1
    exact Heap.lt_size (hLe₂ _ _ ho)
  have hc5 : ∀ c v, h₄.IsCell c v → c < h₅.objs.size := fun c v ⟨o, ho, _⟩ => Heap.lt_size (hLe₂ _ _ ho)
  have hc51 := hc5 _ _ S₄.here.1
  have hc52 := hc5 _ _ S₄.here.2
  have hlaL : la ≠ L := by
    intro e
    obtain ⟨o, ho, _, n, hcl⟩ := k₄.tuple hits
    obtain ⟨m, ⟨o', es, ep, ho', hcl', _⟩, _⟩ := S₄.loc
    rw [e, ho'] at ho
    cases ho
    rw [hcl'] at hcl
    cases hcl
  have hla5 : la < h₅.objs.size := by obtain ⟨o, ho, _⟩ := k₄.tuple hits; exact Heap.lt_size (hLe₂ _ _ ho)
  have hits₇ : h₇.IsTuple la its := (k₄.trans k₇).tuple hits
  have h05 : L ≤ h₅.objs.size := Nat.le_of_lt hL5
  have hvals : ys.toArray = vals xs₀ := by rw [← hxs₀]; rfl
  rw [hvals] at hl₇
  clear hM hyv hyl hvals hxs₀ hb₇
  generalize h₅.objs.size = hp at hl₇ hL5 hc51 hc52 h05 hla5 hxv ⊢
  refine r_st S₇ fun h₈ tk₈ S₈ hs₈ => ⟨h₈, tk₈, rfl, fun o e => (hs₈.2 _ (Nat.ne_of_gt (Nat.lt_succ_of_lt hL5))).trans e, fun h₉ hs₉ => ?_⟩
  have S₉ := S₈.off hs₉ (Nat.ne_of_gt (Nat.lt_succ_of_lt hL5)) (not_in2 hc51 hc52) (none_at _ (hL ▸ le_succ' hL5))
  have h79 : ∀ b o, b ≠ L → b ≠ hp + 1 → h₇.get? b = some o → h₉.get? b = some o := fun b o n1 n2 e => (hs₉.2 b n2).trans ((hs₈.2 b n1).trans e)
  have hl₉ : h₉.PlainList hp (vals xs₀) := let ⟨nn, e⟩ := hl₇; ⟨nn, h79 _ _ (Nat.ne_of_gt hL5) (Nat.ne_of_lt (Nat.lt_succ_self _)) e⟩
  obtain ⟨G, hG1, hG2, Sa⟩ := S₉.re [hp] (fun h => h.PlainList hp (vals xs₀)) hl₉ list_dep (by simp; exact ⟨Nat.ne_of_gt hL5, none_at _ (hL ▸ h05)⟩)
  have kG : Le h₀ G := hG1
  have hG : ∀ b o, b ≠ L → b ≠ hp + 1 → b ≠ hp → h₇.get? b = some o → G.get? b = some o := fun b o n1 n2 n3 e => hG2 b o n1 (by simpa using n3) (h79 b o n1 n2 e)
  have BGG : Base mg mb fa G := BG.up kG
  have gc1 : G.IsCell (L + 1) (some (.ref pr)) := let ⟨o, ho, r⟩ := S₇.here.1; ⟨o, hG _ o (Nat.succ_ne_self L) (Nat.ne_of_lt (Nat.lt_succ_of_lt hc51)) (Nat.ne_of_lt hc51) ho, r⟩
  have gc2 : G.IsCell (L + 2) (some (.ref la)) := let ⟨o, ho, r⟩ := S₇.here.2; ⟨o, hG _ o (ne_add _ _ (by decide)) (Nat.ne_of_lt (Nat.lt_succ_of_lt hc52)) (Nat.ne_of_lt hc52) ho, r⟩
  dsimp only
  clear hG2 S₇ S₈ S₉ hs₈ hs₉ h79 hl₇ hc51 hc52 S₂ S₃ S₄ hc₃ hs₃ ht₂ ht₃ hK hit0 hit1 hlow hLe₂ hc5 hl₉
  have hT₀ : ∀ p ∈ xs₀, T4 G p.1 p.2 := fun p hp' => by
    obtain ⟨a, e, ha, b, t1, t2, t3, t4, e2, o, ho, r⟩ := hxv p hp'
    rw [e] at e2
    cases e2
    have hLa : L < a := Nat.lt_of_lt_of_le hL5 (Nat.le_of_lt (Nat.lt_of_succ_lt ha))
    exact ⟨a, t1, t2, t3, t4, e, o, hG a o (Nat.ne_of_gt hLa) (Nat.ne_of_gt ha) (Nat.ne_of_gt (Nat.lt_of_succ_lt ha)) ho, r⟩
  have gla : G.IsTuple la its := by
    obtain ⟨o, ho, r⟩ := hits₇
    exact ⟨o, hG la o (hlaL) (Nat.ne_of_lt (Nat.lt_succ_of_lt hla5)) (Nat.ne_of_lt hla5) ho, r⟩
  have gpr : IntsL G pr ps := hpr.up kG
  clear hG hxv hits₇ hits k₇ k₄ hr
  walk_at "mw"
  refine wpAny_Expr_any ?_ (by rfl) (by kernel_rfl)
  refine e_fn 5 BGG Sa.keep ?_
  walk_at "mw"
  refine ⟨Sa.keep, ?_⟩
  refine heapify_spec BGG Sa.keep (Sa.offD hp (.head _)).1 Sa.here hT₀ (by lia) (hh' _) (by show A.depth + 1 + 2 < _; lia) (by show A.units + 3 + 32 < _; lia) fun h₁₀ tk₁₀ hl₁₀ hb₁₀ => ?_
  have Sb := Sa.next hb₁₀ hl₁₀ list_dep
  have hperm₀ := hfy_perm (xs₀.length / 2) xs₀
  have hord₀ := heapify_ord xs₀
  generalize hfy (xs₀.length / 2) xs₀ = xs₁ at hl₁₀ Sb hperm₀ hord₀
  walk_at "mw"
  refine e_dict1 ?_
  have Sc := Sb.fresh (P₁ := fun h => DictI prog w h h₁₀.objs.size []) { cls := .type "dict", data := .dict #[] } rfl (fun h e => ⟨_, _, _, e, ⟨rfl, rfl, rfl⟩, rfl, by intro e he; simp at he, .nil, List.nodup_nil⟩) rfl (fun _ _ x k => x.at k)
  have hbkL : h₁₀.objs.size ≠ L := Nat.ne_of_gt Sb.lt
  have hbkh : h₁₀.objs.size ≠ hp := Nat.ne_of_gt (isList_lt (plain_isList Sb.here))
  have hbk0 : h₀.objs.size ≤ h₁₀.objs.size := Nat.le_of_lt (hL ▸ Sb.lt)
  have hsys := BGG.size_le Sb.keep
  generalize h₁₀.objs.size = bk at Sc hbkL hbkh hbk0 hsys ⊢
  generalize h₁₀.push _ = h₁₁ at Sc ⊢
  walk_at "mm"
  refine wpAny_Dict_empty (s := ⟨h₁₁, gn, dr, _, os⟩) ?_
  have Sd := Sc.push { cls := .type "dict", data := .dict #[] }
  dsimp only
  generalize h₁₁.push _ = h₁₂ at Sd ⊢
  walk_at "mm"
  refine r_tuple (by rw [sizeLine_eq]; simp) fun h₁₃ a₁₃ _ _ k₁₃ => ?_
  have Se := Sd.grow k₁₃
  refine ⟨0, _, h₁₃, _, rfl, rfl, Se.here.1, fun h₁₄ tk₁₄ hd₁₄ hs₁₄ => ?_⟩
  have Sf := Se.same (P' := fun h => DictI prog w h bk [(0, .ref a₁₃)] ∧ h.PlainList hp (vals xs₁)) (.head _) hs₁₄ ⟨hd₁₄, list_dep _ _ Se.here.2 fun d hd o e => (hs₁₄.2 d (by rw [List.mem_singleton.mp hd]; exact Ne.symm hbkh)).trans e⟩ (depW _ _)
  walk_at "mw"
  refine r_st Sf fun h₁₅ tk₁₅ Sg _ => ?_
  clear Sa Sb Sc Sd Se Sf
  have hbkS := ne_sys hsys
  have W₀ : WL prog w h₀.objs.size ps wish G [] xs₁ [(0, .ref a₁₃)] := by
    refine ⟨fun p hp' => hT₀ p (hperm₀.subset hp'), hord₀, ?_, ⟨rfl, fun i k v n e1 e2 => by simp at e2⟩, by rw [hperm₀.length_eq, hxl]; simp, Nat.zero_le _⟩
    exact (inv_start ps).perm (by rw [← hx6]; exact (hperm₀.map _).symm)
  clear hT₀ hx6 hxl hperm₀ hord₀
  walk_at "m1"
  refine wpAny_While ?_
  let I : Nat → Shared → Prop := fun m s' => ∃ G' vs xs kvs h tk, s' = ⟨h, gn, dr, tk, os⟩ ∧ Le G G' ∧ St G' L [bk, hp] (fun h => DictI prog w h bk kvs ∧ h.PlainList hp (vals xs)) h [("heap", .ref hp), ("wish", .int wish tw), ("book", .ref bk)] ∧
    WL prog w h₀.objs.size ps wish G' vs xs kvs ∧ m = 7 * (wish - vs.length) + xs.length
  refine codeAny_whileLoop I (fun m s' hI => ?_) _ ⟨G, [], xs₁, [(0, .ref a₁₃)], h₁₅, _, rfl, Le.refl _, Sg.less ⟨rfl, rfl, rfl, trivial⟩, W₀, rfl⟩
  obtain ⟨G', vs, xs, kvs, h, tk, rfl, kG', Sh, W, rfl⟩ := hI
  have BH : Base mg mb fa G' := BGG.up kG'
  walk_at "mw"
  refine e_bi BH Sh.keep boot_len ?_
  walk_at "mw"
  refine r_lenD hbkS Sh.here.1 (by rw [W.size]; have := W.le; lia) fun _ _ => ?_
  walk_at "mw"
  refine le_int ?_
  rw [W.size]
  walk_at "mw"
  refine i_by (fun hlt => ?_) (fun hge => ?_)
  rotate_left
  · walk_at "mm"
    refine q h _ bk vs (xs.map (·.2)) kvs hbk0 W.inv (by have := W.le; lia) Sh.here.1 (W.book.up Sh.keep) ((kG.trans kG').trans Sh.keep)
  have hvl : vs.length < wish := by lia
  refine abs_post fun T₁ E₁ hT₁ => ?_
  walk_at "m1"
  refine Assign_Tuple ?_ (by kernel_rfl) (by kernel_rfl)
  refine e_fn 4 BH Sh.keep ?_
  walk_at "mw"
  refine ⟨Sh.keep, ?_⟩
  obtain ⟨x, ys, hpop, hpp, hord, hmin, _⟩ := hpop_ok W.ord (fun e => W.inv.ne S₀ (by rw [e]; rfl))
  have hlen := W.len
  refine heappop_spec BH Sh.keep (Sh.offD hp (.tail _ (.head _))).1 Sh.here.2 W.tup (by lia) (by show A.depth + 1 + 2 < _; lia) (by show A.units + 3 + 32 < _; lia) hpop fun h₂ tk₂ hl₂ hb₂ => ?_
  have hbk1 : bk ∉ [hp] := fun e => hbkh (List.mem_singleton.mp e)
  have Sp := Sh.next (P' := fun h => DictI prog w h bk kvs ∧ h.PlainList hp (vals ys)) (fun b o hb e => hb₂ b o (fun q => hb (.tail _ q)) e) ⟨Sh.here.1.at fun o e => hb₂ bk o hbk1 e, hl₂⟩ (depW _ _)
  obtain ⟨xa, u1, u2, u3, u4, hxe, hxt⟩ := W.tup x (hpp.symm.subset (.head _))
  have hTy : ∀ p ∈ ys, T4 G' p.1 p.2 := fun p hp' => W.tup p (hpp.symm.subset (.tail _ hp'))
  have hIp : Inv ps vs (x.2 :: ys.map (·.2)) := W.inv.perm (hpp.map _)
  have hlp := hpp.length_eq
  have hWs := W.size
  rw [List.length_cons] at hlp
  rw [hxe]
  refine r_unpack (hh' _) (Sp.keep.tuple hxt) fun h₃ k₃ => ?_
  have Sq := Sp.grow k₃
  walk_at "mm"
  have Sr := (‹St _ _ _ _ _ _›).less (l := [("price", .int x.2.p u1), ("tint", .int x.2.t u2), ("lamp", .int x.2.l u3), ("ways", .int x.2.w u4), ("heap", .ref hp), ("wish", .int wish tw), ("book", .ref bk)]) ⟨rfl, rfl, rfl, rfl, rfl, rfl, rfl, trivial⟩
  refine r_inD hbkS Sr.here.1 fun tk₄ => ?_
  walk_at "mw"
  by_cases hin : x.2.t ∈ kvs.map (·.1)
  · obtain ⟨v, hv⟩ := valueAt_some hin
    rw [hv]
    refine i_tt ?_
    walk_at "mm"
    refine hT₁ _ _ ⟨_, ?_, G', vs, ys, kvs, _, _, rfl, kG', Sr.less ⟨rfl, rfl, rfl, trivial⟩, ⟨hTy, hord, ?_, W.book, by lia, W.le⟩, rfl⟩
    · lia
    · refine hIp.skip ?_ (by lia)
      rw [W.book.1] at hin
      obtain ⟨v, hv, e⟩ := List.mem_map.mp hin
      exact ⟨v, hv, e.symm⟩
  rw [valueAt_none hin]
  refine i_ff (X := _) ?_
  walk_at "mm"
  obtain ⟨v, k, hv, hk, hxE⟩ := hIp.c1 x.2 (.head _)
  have hnn : v.add k ∉ zero :: vs := fun h => hin (by rw [W.book.1, hxE]; exact List.mem_map.mpr ⟨v.add k, h, rfl⟩)
  obtain ⟨J, M, hlast, hpred, hxp⟩ := hIp.join S₀ (by lia) (fun y hy => by obtain ⟨p, hp', rfl⟩ := List.mem_map.mp hy; exact hmin p hp') hv hk hxE hnn
  have e2 : x.2.t = ((v.add k).T : Nat) := by rw [hxE]; rfl
  have e3 : x.2.l = (k : Nat) := by rw [hxE]; rfl
  have e4 : x.2.w = ((v.add k).pred k).ways := by rw [hxE, ← hpred]; rfl
  rw [hxp, e2, e3, e4] at Sr
  rw [e2] at hin
  generalize v.add k = wn at J M hlast hxp e2 e4 Sr hin hpred
  have hJb := J.bnd
  have wok : ∀ j, wn.last j → -(2 ^ 64) < (wn.pred j).ways ∧ (wn.pred j).ways < 2 ^ 64 := fun j hj => by
    obtain ⟨p1, _, p3⟩ := Nd.pred_ok J.ok hj
    obtain ⟨q1, q2, _⟩ := ok_ways p1 (by lia)
    lia
  have hz0 : okz vs := fun v hv => hIp.okz hv
  clear hxe hxt hxE hpp hpop hl₂ hb₂ hmin hv hIp Sh Sp Sq
  have hget : ∀ j : Nat, j < 6 → ps[((j : Nat) : Int).toNat]? = some (ps.getD j 0) := fun j hj => by rw [Int.toNat_natCast]; exact (Good6.at ⟨S₀.len, S₀.bnd⟩ hj).1
  rename_i hr tkr _ _
  have hdep1 : (A.deeper (envOfC (fn 16).name (fn 16).scope L (fa 16) cd)).depth = A.depth + 1 := rfl
  have hun1 : (A.deeper (envOfC (fn 16).name (fn 16).scope L (fa 16) cd)).units = A.units + 3 := rfl
  refine e_fn 9 BH Sr.keep ?_
  walk_at "mm"
  refine wpAny_Dict_empty (s := ⟨hr, gn, dr, _, os⟩) ?_
  have Sd := Sr.push { cls := .type "dict", data := .dict #[] }
  have hdd : DictI prog w (hr.push { cls := .type "dict", data := .dict #[] }) hr.objs.size [] := ⟨_, _, _, Heap.get?_push_size _ rfl, ⟨rfl, rfl, rfl⟩, rfl, by intro e he; simp at he, .nil, List.nodup_nil⟩
  have hdS : sysModules < hr.objs.size := BH.size_le Sr.keep
  dsimp only
  generalize hr.push _ = h₄ at Sd hdd ⊢
  generalize hr.objs.size = dd at hdd hdS ⊢
  walk_at "mm"
  refine r_tuple (by rw [sizeLine_eq]; simp) fun h₅ a₅ _ ht₅ k₅ => ?_
  have hx0 : StaAt prog w 0 h₅ (.ref a₅) ⟨0, 0, 0, 0, []⟩ := ⟨a₅, dd, _, _, _, _, [], rfl, Nat.zero_le _, Nat.zero_le _, ht₅, hdd.keep k₅, .nil, ne_sys hdS⟩
  have Se := Sd.grow k₅
  walk_at "mm"
  refine e_fn 15 BH Se.keep ?_
  walk_at "mm"
  refine r_ldC (gc1.keeps (kG'.trans Se.keep)) ?_
  walk_at "mm"
  refine ⟨Se.keep, ?_⟩
  obtain ⟨wk1, wk2⟩ := wok k hlast
  refine arrival_spec BH Se.keep (gpr.up (kG'.trans Se.keep)) (by rw [S₀.len]; decide) (by lia) (hget k hk) wk1 wk2 (by rw [hdep1]; lia) fun h₆ tk₆ v₆ hv₆ k₆ => ?_
  have Sf := Se.grow k₆
  walk_at "mm"
  refine ⟨Sf.keep, ?_⟩
  refine add_stats_spec BH Sf.keep (hx0.up k₆) hv₆ (by simp) (by simp) (hh' _) (by rw [hdep1]; lia) (by rw [hun1]; lia) fun h₇ tk₇ ev hev k₇ => ?_
  have Sg' := Sf.grow k₇
  rw [staOf_one ps wn k _ rfl] at hev
  refine r_st Sg' fun h₈ tk₈ Sh' hs₈ => ?_
  obtain ⟨G₂, hG₂1, hG₂2, Si⟩ := Sh'.re [bk, hp] _ Sh'.here (depW _ _) (fun d hd => ⟨(Sh'.offD d hd).2, (Sh'.offD d hd).1⟩)
  have hev₂ : StaAt prog w h₀.objs.size G₂ ev (staOf ps wn [k]) := hev.base hs₈ hG₂2 Sf.lt (by
    intro d hd
    simp at hd
    rcases hd with rfl | rfl
    · exact dictI_lt Sf.here.1
    · exact isList_lt (plain_isList Sf.here.2)) (Nat.le_of_lt (hL ▸ Sf.lt))
  clear Sd Se Sf Sg' Sh' hev hv₆ hx0 hdd ht₅ hG₂2
  walk_at "m1"
  refine wpAny_While ?_
  let LS : Value → List (Str × Value) := fun ev => [("entry", ev), ("price", .int (wn.C ps) u1), ("tint", .int wn.T u2), ("heap", .ref hp), ("wish", .int wish tw), ("book", .ref bk)]
  let I2 : Nat → Shared → Prop := fun m s' => ∃ G₂ ks zs h tk ev, s' = ⟨h, gn, dr, tk, os⟩ ∧ Le G' G₂ ∧ St G₂ L [bk, hp] (fun h => DictI prog w h bk kvs ∧ h.PlainList hp (vals zs)) h (LS ev) ∧ (∀ p ∈ zs, T4 G₂ p.1 p.2) ∧ Ord 0 zs ∧
    Mid ps vs wn ks (zs.map (·.2)) ∧ StaAt prog w h₀.objs.size G₂ ev (staOf ps wn ks) ∧ zs.length ≤ ys.length ∧ m = zs.length
  let J2 : Result → Shared → Prop := fun r s' => r = .ok .next ∧ ∃ G₂ ks zs h tk ev, s' = ⟨h, gn, dr, tk, os⟩ ∧ Le G' G₂ ∧ St G₂ L [bk, hp] (fun h => DictI prog w h bk kvs ∧ h.PlainList hp (vals zs)) h (LS ev) ∧ (∀ p ∈ zs, T4 G₂ p.1 p.2) ∧ Ord 0 zs ∧
    Mid ps vs wn ks (zs.map (·.2)) ∧ StaAt prog w h₀.objs.size G₂ ev (staOf ps wn ks) ∧ zs.length ≤ ys.length ∧ ks.Perm wn.lasts
  refine codeAny_mono (R := J2) ?_ ?_
  · refine codeAny_whileLoop I2 (fun m s' hI => ?_) _ ⟨G₂, [k], ys, h₈, tk₈, ev, rfl, hG₂1, Si.less ⟨rfl, rfl, rfl, rfl, rfl, rfl, trivial⟩, fun p hp' => (hTy p hp').up hG₂1, hord, M, hev₂, Nat.le_refl _, rfl⟩
    clear Si hG₂1 hev₂ hord hTy M
    obtain ⟨G₂, ks, zs, h, tk, ev, rfl, kG₂, Sh, hTz, hoz, M, hev, hzl, rfl⟩ := hI
    have B2 : Base mg mb fa G₂ := BH.up kG₂
    have fin : (∀ r ∈ zs.map (·.2), ¬ (r.p = wn.C ps ∧ r.t = ((wn.T : Nat) : Int))) → ∀ h' tk', Le h h' → J2 (.ok .next) ⟨h', gn, dr, tk', os⟩ := fun hno h' tk' kk =>
      ⟨rfl, G₂, ks, zs, h', tk', ev, rfl, kG₂, Sh.grow kk, hTz, hoz, M, hev, hzl, M.full J S₀ hno⟩
    dsimp only [LS] at Sh
    refine abs_post fun T₂ E₂ hT₂ => ?_
    walk_at "mw"
    refine r_newNil fun h₂ b₂ _ hb₂ k₂ => ?_
    have S₂ := Sh.grow k₂
    refine r_neNil (plain_isList S₂.here.2) hb₂ (by rw [hun1]; lia) ?_
    walk_at "mw"
    cases zs with
    | nil =>
      refine (show (if false = true then _ else _) from i_ff ?_)
      refine hT₂ _ _ ?_
      walk_at "mm"
      exact fin (by simp) _ _ k₂
    | cons y r =>
    refine (show (if true = true then _ else _) from i_tt ?_)
    obtain ⟨ya, y1, y2, y3, y4, hye, hyt⟩ := hTz y (.head _)
    walk_at "mw"
    refine r_item (plain_isList S₂.here.2) (by decide) (by decide) (v := y.1) (vals_get (by simp)) ?_
    rw [hye]
    walk_at "mw"
    refine r_itemT (S₂.keep.tuple hyt) (by decide) (by decide) (v := .int y.2.p y1) rfl ?_
    walk_at "mw"
    have hlow : ∀ q ∈ (y :: r).map (·.2), y.2.p < q.p ∨ (y.2.p = q.p ∧ y.2.t ≤ q.t) := by
      intro q hq
      obtain ⟨p, hp', rfl⟩ := List.mem_map.mp hq
      obtain ⟨c, hc, e⟩ := List.mem_iff_getElem.mp hp'
      exact R4.le_two (ord_head hoz (x := y) rfl c p (by rw [List.getElem?_eq_getElem hc, e]))
    have hyl := M.low y.2 (.head _)
    by_cases hp1 : y.2.p = wn.C ps
    rotate_left
    · rw [show (y.2.p == wn.C ps) = false by simpa using hp1]
      walk_at "mm"
      refine hT₂ _ _ ?_
      walk_at "mm"
      exact fin (fun q hq => by have := hlow q hq; lia) _ _ k₂
    rw [show (y.2.p == wn.C ps) = true by simpa using hp1]
    walk_at "mm"
    refine r_item (plain_isList S₂.here.2) (by decide) (by decide) (v := y.1) (vals_get (by simp)) ?_
    rw [hye]
    walk_at "mw"
    refine r_itemT (S₂.keep.tuple hyt) (by decide) (by decide) (v := .int y.2.t y2) rfl ?_
    walk_at "mw"
    by_cases hp2 : y.2.t = ((wn.T : Nat) : Int)
    rotate_left
    · rw [show (y.2.t == ((wn.T : Nat) : Int)) = false by simpa using hp2]
      walk_at "mm"
      refine hT₂ _ _ ?_
      walk_at "mm"
      exact fin (fun q hq => by have := hlow q hq; lia) _ _ k₂
    rw [show (y.2.t == ((wn.T : Nat) : Int)) = true by simpa using hp2]
    walk_at "mw"
    refine hT₂ _ _ ?_
    refine i_tt ?_
    refine abs_post fun T₃ E₃ hT₃ => ?_
    walk_at "mw"
    refine Assign_Tuple ?_ (by kernel_rfl) (by kernel_rfl)
    walk_at "m1"
    obtain ⟨y', zs', hpop, hpp, hord, _, hy0⟩ := hpop_ok hoz (by simp)
    have hyy : y' = y := by simpa using hy0.symm
    subst hyy
    have hlz := hpp.length_eq
    refine e_fn 4 B2 S₂.keep ?_
    walk_at "mw"
    refine ⟨S₂.keep, ?_⟩
    refine heappop_spec B2 S₂.keep (S₂.offD hp (.tail _ (.head _))).1 S₂.here.2 hTz (by lia) (by rw [hdep1]; lia) (by rw [hun1]; lia) hpop fun h₃ tk₃ hl₃ hb₃ => ?_
    have S₃ := S₂.next (P' := fun h => DictI prog w h bk kvs ∧ h.PlainList hp (vals zs')) (fun b o hb e => hb₃ b o (fun q => hb (.tail _ q)) e) ⟨S₂.here.1.at fun o e => hb₃ bk o hbk1 e, hl₃⟩ (depW _ _)
    rw [hye]
    refine e_slice (wpAny_evalPart_some ?_)
    walk_at "mm"
    refine wpAny_evalPart_none (wpAny_evalPart_none ?_)
    intro h₄ a₄ hs₄ k₄
    dsimp only
    refine r_sliceT (a := 2) (k₄.tuple (S₃.keep.tuple hyt)) hs₄ (by decide) (by simp) (by simp) fun h₅ a₅ _ ht₅ k₅ => ?_
    have S₅ := S₃.grow (k₄.trans k₅)
    obtain ⟨j, hj, hjl, hjw, hjn, M'⟩ := (M.perm (hpp.map (·.2))).take J S₀ (by lia) hz0 hp1 hp2
    refine r_unpack (hh' _) ht₅ fun h₆ k₆ => ?_
    have S₆ := S₅.grow k₆
    walk_at "mm"
    rw [hjl, hjw] at *
    have S₇ := (‹St _ _ _ _ _ _›).less (l := [("lamp", .int (j : Nat) y3), ("ways", .int (wn.pred j).ways y4), ("entry", ev), ("price", .int (wn.C ps) u1), ("tint", .int wn.T u2), ("heap", .ref hp), ("wish", .int wish tw), ("book", .ref bk)]) ⟨rfl, rfl, rfl, rfl, rfl, rfl, rfl, rfl, trivial⟩
    rename_i hq tkq _ _
    have hjl := M'.lst j (List.mem_append_right _ (.head _))
    obtain ⟨wj1, wj2⟩ := wok j hjl
    refine e_fn 9 B2 S₇.keep ?_
    walk_at "mm"
    refine e_fn 15 B2 S₇.keep ?_
    walk_at "mm"
    refine r_ldC (gc1.keeps ((kG'.trans kG₂).trans S₇.keep)) ?_
    walk_at "mm"
    refine ⟨S₇.keep, ?_⟩
    refine arrival_spec B2 S₇.keep (gpr.up ((kG'.trans kG₂).trans S₇.keep)) (by rw [S₀.len]; decide) (by lia) (hget j hj) wj1 wj2 (by rw [hdep1]; lia) fun h₈ tk₈ v₈ hv₈ k₈ => ?_
    have S₈ := S₇.grow k₈
    walk_at "mm"
    refine ⟨S₈.keep, ?_⟩
    have hks : ks.length ≤ 2 := by
      have := len_sub M.nod (fun x hx => (Nd.mem_lasts J.pos).mpr (M.lst x hx))
      unfold Nd.lasts at this
      split at this <;> simp at this <;> lia
    refine add_stats_spec B2 S₈.keep (hev.up S₈.keep) hv₈ (by
      intro c hc hc'
      simp only [List.map_cons, List.map_nil, List.mem_singleton] at hc
      subst hc
      unfold staOf at hc'
      simp only [List.map_map, List.mem_map, Function.comp] at hc'
      obtain ⟨i, hi, e⟩ := hc'
      have : i = j := by lia
      exact hjn (this ▸ hi)) (by
      unfold staOf
      simp only [List.length_map, List.length_cons, List.length_nil]
      lia) (hh' _) (by rw [hdep1]; lia) (by rw [hun1]; lia) fun h₉ tk₉ ev' hev' k₉ => ?_
    have S₉ := S₈.grow k₉
    dsimp only at hev'
    rw [staOf_snoc] at hev'
    refine r_st S₉ fun h_a tk_a S_a hs_a => ?_
    obtain ⟨G₃, hG₃1, hG₃2, S_b⟩ := S_a.re [bk, hp] _ S_a.here (depW _ _) (fun d hd => ⟨(S_a.offD d hd).2, (S_a.offD d hd).1⟩)
    have hev₃ : StaAt prog w h₀.objs.size G₃ ev' (staOf ps wn (ks ++ [j])) := hev'.base hs_a hG₃2 S₈.lt (by
      intro d hd
      simp at hd
      rcases hd with rfl | rfl
      · exact dictI_lt S₈.here.1
      · exact isList_lt (plain_isList S₈.here.2)) (Nat.le_of_lt (hL ▸ S₈.lt))
    walk_at "mm"
    refine hT₃ _ _ ⟨zs'.length, by rw [hlz]; exact Nat.lt_succ_self _, G₃, ks ++ [j], zs', h_a, _, ev', rfl, kG₂.trans hG₃1, S_b.less ⟨rfl, rfl, rfl, rfl, rfl, rfl, trivial⟩, fun p hp' => (hTz p (hpp.symm.subset (.tail _ hp'))).up hG₃1, hord, M', hev₃, ?_, rfl⟩
    simp at hlz hzl
    lia
  clear Si hG₂1 hev₂ hord hTy M I2
  rintro r s' ⟨rfl, G₂, ks, zs, h, tk, ev, rfl, kG₂, Sh, hTz, hoz, M, hev, hzl, hks⟩
  dsimp only [LS] at Sh ⊢
  have B2 : Base mg mb fa G₂ := BH.up kG₂
  walk_at "mw"
  refine r_setD Sh.here.1 (by lia) fun h₂ tk₂ hd₂ hs₂ => ?_
  rw [keys_app hin] at hd₂
  have S₂ := Sh.same (P' := fun h => DictI prog w h bk (kvs ++ [(((wn.T : Nat) : Int), ev)]) ∧ h.PlainList hp (vals zs)) (.head _) hs₂ ⟨hd₂, list_dep _ _ Sh.here.2 fun d hd o e => (hs₂.2 d (by rw [List.mem_singleton.mp hd]; exact Ne.symm hbkh)).trans e⟩ (depW _ _)
  have hbook := (W.book.up kG₂).snoc hks hev
  have hK2 : (kvs ++ [(((wn.T : Nat) : Int), ev)]).length = vs.length + 2 := by simp; lia
  generalize hkv : kvs ++ [(((wn.T : Nat) : Int), ev)] = kvs' at S₂ hbook hK2
  have hP0 := M.start J (by lia) hz0
  clear Sh hd₂ hs₂ M
  walk_at "m1"
  refine wpAny_For ?_ (by intro _; rfl)
  refine e_ty B2 S₂.keep boot_range ?_
  walk_at "mm"
  refine r_range1 fun h₃ tk₃ r t₀ t₁ hr k₃ => ?_
  have S₃ := S₂.grow k₃
  refine r_iterRange hr (by decide) (by decide) (by decide) (by decide) ?_
  rw [show ((6 : Int) - 0).toNat = 6 by decide]
  have hne : h₃.objs.size ∉ [bk, hp] := by
    intro q
    simp at q
    rcases q with q | q
    · exact absurd (dictI_lt S₃.here.1) (by rw [← q]; exact Nat.lt_irrefl _)
    · exact absurd (isList_lt (plain_isList S₃.here.2)) (by rw [← q]; exact Nat.lt_irrefl _)
  have S₄ := S₃.fresh (P₁ := fun h => IsRangeIter h h₃.objs.size 0 ((6 : Nat) : Int) 1) (iterObj 0 ((6 : Nat) : Int) 1) rfl (fun _ e => e) rfl iter_dep
  generalize h₃.objs.size = it at hne S₄ ⊢
  generalize h₃.push _ = h₄ at S₄ ⊢
  clear S₂ S₃ hr
  refine for_rngG (σ := Heap × List Row) (D := [bk, hp]) (G := fun c => c.1) (P := fun _ c h => DictI prog w h bk kvs' ∧ h.PlainList hp (vals c.2))
    (ls := fun _ _ => [("entry", ev), ("price", .int (wn.C ps) u1), ("tint", .int wn.T u2), ("heap", .ref hp), ("wish", .int wish tw), ("book", .ref bk)])
    (F := fun i c => Le G₂ c.1 ∧ (∀ p ∈ c.2, T4 c.1 p.1 p.2) ∧ Ord 0 c.2 ∧ Psh ps vs wn i (c.2.map (·.2)) ∧ c.2.length ≤ zs.length + i) (G₂, zs) (hh' _) hne (S₄.less ⟨rfl, rfl, rfl, rfl, rfl, rfl, trivial⟩) ⟨Le.refl _, hTz, hoz, hP0, by simp⟩ (fun _ c => depW _ _) ?_ ?_
  rotate_left
  · rintro ⟨G₅, qs⟩ h tk ⟨kG₅, hTq, hoq, Pq, hql⟩ S
    dsimp only at S hql hTq hoq Pq kG₅ ⊢
    walk_at "mm"
    refine hT₁ _ _ ⟨_, ?_, G₅, vs ++ [wn], qs, kvs', h, _, rfl, (kG'.trans kG₂).trans kG₅, S.less ⟨rfl, rfl, rfl, trivial⟩, ⟨hTq, hoq, Pq.done J W.inv, hbook.up kG₅, ?_, ?_⟩, rfl⟩
    · rw [List.length_append, List.length_singleton]; lia
    · rw [List.length_append, List.length_singleton]; lia
    · rw [List.length_append, List.length_singleton]; lia
  clear S₄ hTz hoz hP0
  rintro i ⟨G₅, qs⟩ h tk t hi ⟨kG₅, hTq, hoq, Pq, hql⟩ S
  rw [show (0 : Int) + (i : Int) * 1 = i by lia] at S ⊢
  dsimp only at S hql hTq hoq Pq kG₅ ⊢
  have B5 : Base mg mb fa G₅ := B2.up kG₅
  have kS : Le G h := ((kG'.trans kG₂).trans kG₅).trans S.keep
  obtain ⟨tl, hlamp⟩ := hget6 i hi
  refine abs_post fun T₄ E₄ hT₄ => ?_
  walk_at "mm"
  refine r_ldC (gc2.keeps kS) ?_
  walk_at "mm"
  refine r_itemT (kS.tuple gla) (by lia) (by lia) (v := .int (lampOf i : Nat) tl) (by rw [Int.toNat_natCast]; exact hlamp) ?_
  walk_at "mw"
  refine r_st S fun h₅ tk₅ Sr _ => ?_
  rw [show ((wn.T : Nat) : Int) + ((lampOf i : Nat) : Int) = ((wn.T + lampOf i : Nat) : Int) by lia] at Sr
  have hstep : stepT wn.T i = if 0 < (wn.T + lampOf i) / 256 ∧ 0 < (wn.T + lampOf i) / 16 % 16 ∧ 0 < (wn.T + lampOf i) % 16 then wn.T + lampOf i - 273 else wn.T + lampOf i := rfl
  generalize wn.T + lampOf i = N at Sr hstep
  walk_at "m1"
  refine wpAny_mono (Q := fun f s' => f = .next ∧ ∃ h' tk' tr, s' = ⟨h', gn, dr, tk', os⟩ ∧ St G₅ L [it, bk, hp] (fun h => IsRangeIter h it ((i : Int) + 1) (((6 : Nat) : Int) - i - 1) 1 ∧ DictI prog w h bk kvs' ∧ h.PlainList hp (vals qs)) h'
    [("reached", .int ((stepT wn.T i : Nat) : Int) tr), ("k", .int (i : Nat) t), ("entry", ev), ("price", .int (wn.C ps) u1), ("tint", .int wn.T u2), ("heap", .ref hp), ("wish", .int wish tw), ("book", .ref bk)]) ?_ ?_ (fun _ _ x => x)
  · have a1 : Int.fdiv ((N : Nat) : Int) 256 = ((N / 256 : Nat) : Int) := by rw [Int.fdiv_eq_ediv_of_nonneg _ (by decide)]; lia
    have a2 : Int.fdiv ((N : Nat) : Int) 16 = ((N / 16 : Nat) : Int) := by rw [Int.fdiv_eq_ediv_of_nonneg _ (by decide)]; lia
    have a3 : Int.fmod ((N / 16 : Nat) : Int) 16 = ((N / 16 % 16 : Nat) : Int) := by rw [Int.fmod_eq_emod_of_nonneg _ (by decide)]; lia
    have a4 : Int.fmod ((N : Nat) : Int) 16 = ((N % 16 : Nat) : Int) := by rw [Int.fmod_eq_emod_of_nonneg _ (by decide)]; lia
    have no : stepT wn.T i = N → ∀ tk', (Flow.next = Flow.next ∧ ∃ h' tk'' tr, (⟨h₅, gn, dr, tk', os⟩ : Shared) = ⟨h', gn, dr, tk'', os⟩ ∧ St G₅ L [it, bk, hp] (fun h => IsRangeIter h it ((i : Int) + 1) (((6 : Nat) : Int) - i - 1) 1 ∧ DictI prog w h bk kvs' ∧ h.PlainList hp (vals qs)) h'
      [("reached", .int ((stepT wn.T i : Nat) : Int) tr), ("k", .int (i : Nat) t), ("entry", ev), ("price", .int (wn.C ps) u1), ("tint", .int wn.T u2), ("heap", .ref hp), ("wish", .int wish tw), ("book", .ref bk)]) := fun e tk' => by
      rw [e]
      exact ⟨rfl, h₅, tk', _, rfl, Sr⟩
    walk_at "mw"
    refine r_div (by decide) (by decide) fun _ _ => ?_
    rw [a1]
    walk_at "mw"
    by_cases c1 : 0 < N / 256
    rotate_left
    · rw [show decide ((0 : Int) < ((N / 256 : Nat) : Int)) = false from decide_eq_false (by lia)]
      walk_at "mm"
      exact no (by rw [hstep, if_neg (fun e => c1 e.1)]) _
    rw [show decide ((0 : Int) < ((N / 256 : Nat) : Int)) = true from decide_eq_true (by lia)]
    walk_at "mw"
    refine r_div (by decide) (by decide) fun _ _ => ?_
    rw [a2]
    walk_at "mw"
    refine r_mod (by decide) fun _ _ => ?_
    rw [a3]
    walk_at "mw"
    by_cases c2 : 0 < N / 16 % 16
    rotate_left
    · rw [show decide ((0 : Int) < ((N / 16 % 16 : Nat) : Int)) = false from decide_eq_false (by lia)]
      walk_at "mm"
      exact no (by rw [hstep, if_neg (fun e => c2 e.2.1)]) _
    rw [show decide ((0 : Int) < ((N / 16 % 16 : Nat) : Int)) = true from decide_eq_true (by lia)]
    walk_at "mw"
    refine r_mod (by decide) fun _ _ => ?_
    rw [a4]
    walk_at "mw"
    by_cases c3 : 0 < N % 16
    rotate_left
    · rw [show decide ((0 : Int) < ((N % 16 : Nat) : Int)) = false from decide_eq_false (by lia)]
      walk_at "mm"
      exact no (by rw [hstep, if_neg (fun e => c3 e.2.2)]) _
    rw [show decide ((0 : Int) < ((N % 16 : Nat) : Int)) = true from decide_eq_true (by lia)]
    walk_at "mw"
    refine r_st Sr fun h₆ tk₆ Ss _ => ?_
    rw [show ((N : Nat) : Int) - 273 = ((stepT wn.T i : Nat) : Int) by rw [hstep, if_pos ⟨c1, c2, c3⟩]; lia] at Ss
    walk_at "mm"
    exact ⟨rfl, h₆, _, _, rfl, Ss.less ⟨rfl, rfl, rfl, rfl, rfl, rfl, rfl, rfl, trivial⟩⟩
  rintro f s' ⟨rfl, h₆, tk₆, tr, rfl, Ss⟩
  clear Sr S
  dsimp only
  obtain ⟨tl, hlamp⟩ := hget6 i hi
  have hnT := ((ok_place J.ok (by lia)).2 i hi).1
  rw [← hnT] at Ss
  have hadd := Nd.add_ok J.ok hi
  have haddn := Nd.add_n (v := wn) (k := i)
  have hkeys : ((((wn.add i).T : Nat) : Int) ∈ kvs'.map (·.1)) ↔ wn.add i ∈ zero :: (vs ++ [wn]) := by
    rw [hbook.1, key_int, key_mem (fun v hv => ?_) hadd (by lia)]
    rcases mem_app.mp hv with hv | rfl
    · have := hz0 v hv; exact ⟨this.1, by lia⟩
    · exact ⟨J.ok, by lia⟩
  walk_at "mw"
  refine r_notInD hbkS Ss.here.2.1 fun tk₇ => ?_
  by_cases hmem : wn.add i ∈ zero :: (vs ++ [wn])
  · obtain ⟨v, hv⟩ := valueAt_some (hkeys.mpr hmem)
    rw [hv]
    walk_at "mw"
    refine (show (if false = true then _ else _) from i_ff ?_)
    walk_at "mm"
    exact hT₄ _ _ ⟨.inl rfl, h₆, _, (G₅, qs), rfl, ⟨kG₅, hTq, hoq, Pq.leave hmem, by dsimp only; lia⟩, Ss.less ⟨rfl, rfl, rfl, rfl, rfl, rfl, trivial⟩⟩
  rw [valueAt_none (fun e => hmem (hkeys.mp e))]
  walk_at "mw"
  refine (show (if true = true then _ else _) from i_tt ?_)
  walk_at "mw"
  obtain ⟨ea, ed, v1, v2, v3, v4, ekv, hee, _, _, het, _, _, _⟩ := id (hev.up (kG₅.trans Ss.keep))
  have hnc := (staOf_told J.ok J.pos (by lia) hks (ps := ps)).2.2.2.2.2
  rw [hnc] at het
  subst hee
  have kS₆ : Le G h₆ := ((kG'.trans kG₂).trans kG₅).trans Ss.keep
  refine wpAny_Expr_any ?_ (by rfl) (by kernel_rfl)
  refine e_fn 3 B5 Ss.keep ?_
  walk_at "mm"
  refine r_ldC (gc1.keeps kS₆) ?_
  walk_at "mm"
  refine r_itemI (gpr.up kS₆) (by lia) (hget i hi) (by rw [S₀.len]; decide) fun _ => ?_
  walk_at "mm"
  refine r_itemT het (by decide) (by decide) (v := .int wn.ways v2) rfl ?_
  walk_at "mm"
  refine r_tuple (by rw [sizeLine_eq]; simp) fun h₇ a₇ ha₇ ht₇ k₇ => ?_
  have St := Ss.grow k₇
  have hdlt : ∀ d ∈ [it, bk, hp], d < h₆.objs.size := by
    intro d hd
    simp at hd
    rcases hd with rfl | rfl | rfl
    · exact Heap.lt_size Ss.here.1
    · exact dictI_lt Ss.here.2.1
    · exact isList_lt (plain_isList Ss.here.2.2)
  have hdepI : ∀ (qs : List Row) (h h' : Heap), (IsRangeIter h it ((i : Int) + 1) (((6 : Nat) : Int) - i - 1) 1 ∧ DictI prog w h bk kvs' ∧ h.PlainList hp (vals qs)) → (∀ d ∈ [it, bk, hp], ∀ o, h.get? d = some o → h'.get? d = some o) → (IsRangeIter h' it ((i : Int) + 1) (((6 : Nat) : Int) - i - 1) 1 ∧ DictI prog w h' bk kvs' ∧ h'.PlainList hp (vals qs)) :=
    fun qs h h' x k => ⟨k it (.head _) _ x.1, depW _ _ _ _ x.2 fun d hd => k d (.tail _ hd)⟩
  obtain ⟨G₆, hG₆1, hG₆2, Su⟩ := St.re [it, bk, hp] _ St.here (hdepI _) (fun d hd => ⟨(St.offD d hd).2, (St.offD d hd).1⟩)
  have hT7 : T4 G₆ (.ref a₇) (En ps wn i) := by
    obtain ⟨o, ho, r⟩ := ht₇
    exact ⟨a₇, _, _, _, _, rfl, o, hG₆2 a₇ o (Nat.ne_of_gt (Nat.lt_of_lt_of_le Ss.lt ha₇)) (fun q => absurd (hdlt _ q) (Nat.not_lt.mpr ha₇)) ho, r⟩
  have hTq' : ∀ p ∈ qs, T4 G₆ p.1 p.2 := fun p hp' => (hTq p hp').up hG₆1
  walk_at "mm"
  refine ⟨St.keep, ?_⟩
  refine heappush_spec (x := (.ref a₇, En ps wn i)) (B5.up hG₆1) Su.keep (Su.offD hp (by simp)).1 Su.here.2.2 hTq' hT7 (by lia) (by rw [hdep1]; lia) (by rw [hun1]; lia) fun h₈ tk₈ hl₈ hb₈ => ?_
  have Sv := Su.next (P' := fun h => IsRangeIter h it ((i : Int) + 1) (((6 : Nat) : Int) - i - 1) 1 ∧ DictI prog w h bk kvs' ∧ h.PlainList hp (vals (hpush qs (.ref a₇, En ps wn i)))) (fun b o hb e => hb₈ b o (fun q => hb (by simp [List.mem_singleton.mp q])) e)
    ⟨hb₈ it _ (fun q => hne (by simp [List.mem_singleton.mp q])) Su.here.1, Su.here.2.1.at fun o e => hb₈ bk o hbk1 e, hl₈⟩ (hdepI _)
  have hpm := hpush_perm qs (.ref a₇, En ps wn i)
  have hpl := hpm.length_eq
  walk_at "mm"
  refine hT₄ _ _ ⟨.inl rfl, h₈, _, (G₆, hpush qs (.ref a₇, En ps wn i)), rfl, ⟨kG₅.trans hG₆1, fun p hp' => ?_, hpush_ord hoq, (Pq.push hi).perm ?_, ?_⟩, Sv.less ⟨rfl, rfl, rfl, rfl, rfl, rfl, trivial⟩⟩
  · rcases List.mem_cons.mp (hpm.subset hp') with rfl | hp'
    · exact hT7
    · exact hTq' p hp'
  · exact (hpm.map (·.2)).symm
  · simp at hpl ⊢; lia
end
section
variable {α β : Type}
/-- what the questions' tree comes to, every question within bounds -/
def KOk (lt : Nat → Nat → Bool) (n : Nat) : KasT α → (α → Prop) → Prop
  | .ret a, P => P a
  | .ask i j k, P => i < n ∧ j < n ∧ KOk lt n (k (lt i j)) P
theorem KOk.bind {lt : Nat → Nat → Bool} {n : Nat} {f : α → KasT β} {P : β → Prop} : ∀ (t : KasT α), KOk lt n t (fun a => KOk lt n (f a) P) → KOk lt n (t.bind f) P
  | .ret _, h => h
  | .ask i j k, h => ⟨h.1, h.2.1, KOk.bind (k (lt i j)) h.2.2⟩
theorem KOk.mono {lt : Nat → Nat → Bool} {n : Nat} {P P' : α → Prop} (hp : ∀ a, P a → P' a) : ∀ (t : KasT α), KOk lt n t P → KOk lt n t P'
  | .ret a, h => hp a h
  | .ask i j k, h => ⟨h.1, h.2.1, KOk.mono hp (k (lt i j)) h.2.2⟩
theorem ok_yes {lt : Nat → Nat → Bool} {n : Nat} {t₁ t₂ : KasT α} {P : α → Prop} (h : KOk lt n t₁ P) : KOk lt n (if true = true then t₁ else t₂) P := by rw [if_pos rfl]; exact h
theorem ok_no {lt : Nat → Nat → Bool} {n : Nat} {t₁ t₂ : KasT α} {P : α → Prop} (h : KOk lt n t₂ P) : KOk lt n (if false = true then t₁ else t₂) P := by rw [if_neg Bool.false_ne_true]; exact h
theorem KOk.wp {lt : Nat → Nat → Bool} {n : Nat} {P : α → Prop} {cmp : Nat → Nat → (Bool → Shared → Prop) → Shared → Prop} {Q : α → Shared → Prop} {s : Shared}
    (hc : ∀ i j (C : Bool → Shared → Prop), i < n → j < n → C (lt i j) s → cmp i j C s) (hq : ∀ a, P a → Q a s) : ∀ (t : KasT α), KOk lt n t P → t.kasWp cmp Q s
  | .ret a, h => hq a h
  | .ask i j k, h => hc i j _ h.1 h.2.1 (KOk.wp hc hq (k (lt i j)) h.2.2)
end
section
variable {key : Nat → Int} {n : Nat}
abbrev ltK (key : Nat → Int) (i j : Nat) : Bool := decide (key i < key j)
def kv (key : Nat → Int) (p : Array Nat) (i : Nat) : Int := key (p.getD i 0)
def Vp (n : Nat) (p : Array Nat) : Prop := p.toList.Perm (List.range n)
def Asc (key : Nat → Int) (p : Array Nat) (k : Nat) : Prop := ∀ i j, i ≤ j → j < k → kv key p i ≤ kv key p j
def Dsc (key : Nat → Int) (p : Array Nat) (k : Nat) : Prop := ∀ i j, i ≤ j → j < k → kv key p j ≤ kv key p i
theorem Vp.size {p : Array Nat} (h : Vp n p) : p.size = n := by
  have := h.length_eq
  simpa using this
theorem Vp.lt {p : Array Nat} (h : Vp n p) {i : Nat} (hi : i < n) : p.getD i 0 < n := by
  have hs := h.size
  have e : p.getD i 0 = p[i] := by simp [Array.getD, hs, hi]
  rw [e]
  exact List.mem_range.mp (h.subset (by simp))
theorem Vp.rev {p : Array Nat} (h : Vp n p) (i j : Nat) : Vp n (kas_rev p i j) := (Array.perm_iff_toList_perm.mp (mirror_perm p i j _)).trans h
theorem Vp.bub {p : Array Nat} (h : Vp n p) (i j : Nat) : Vp n (bubble p i j) := (Array.perm_iff_toList_perm.mp (bubble_perm p i j)).trans h
theorem getD_some (p : Array Nat) (i : Nat) : p.getD i 0 = (p[i]?).getD 0 := by
  by_cases h : i < p.size <;> simp [Array.getD, h]
theorem kv_rev {p : Array Nat} {i j : Nat} (hj : j ≤ p.size) (k : Nat) : kv key (kas_rev p i j) k = if i ≤ k ∧ k < j then kv key p (i + j - 1 - k) else kv key p k := by
  unfold kv kas_rev
  simp only [getD_some]
  rw [getElem?_mirror_all hj]
  split <;> rfl
theorem kv_bub {p : Array Nat} {s d : Nat} (hs : s < p.size) (hd : d ≤ s) (k : Nat) : kv key (bubble p s d) k = if k = s - d then kv key p s else if s - d < k ∧ k ≤ s then kv key p (k - 1) else kv key p k := by
  unfold kv
  simp only [getD_some]
  rw [getElem?_bubble hs d hd]
  split
  · rfl
  · split <;> rfl
theorem ok_asc {p : Array Nat} (hv : Vp n p) : ∀ (f m : Nat), 1 ≤ m → m + f ≤ n → Asc key p m →
    KOk (ltK key) n (kas_asc p f m) (fun r => m ≤ r ∧ r ≤ m + f ∧ Asc key p r ∧ (r = m + f ∨ kv key p r < kv key p (r - 1)))
  | 0, m, _, _, h => ⟨Nat.le_refl _, Nat.le_refl _, h, .inl rfl⟩
  | f + 1, m, h1, hm, h => by
    refine ⟨hv.lt (by lia), hv.lt (by lia), ?_⟩
    by_cases c : key (p.getD m 0) < key (p.getD (m - 1) 0)
    · rw [show ltK key (p.getD m 0) (p.getD (m - 1) 0) = true from decide_eq_true c]; refine ok_yes ?_
      exact ⟨Nat.le_refl _, by lia, h, .inr c⟩
    · rw [show ltK key (p.getD m 0) (p.getD (m - 1) 0) = false from decide_eq_false c]; refine ok_no ?_
      refine KOk.mono (fun r hr => ⟨by lia, by lia, hr.2.2.1, hr.2.2.2.imp (fun e => by lia) id⟩) _ (ok_asc hv f (m + 1) (by lia) (by lia) fun i j hij hj => ?_)
      by_cases hjm : j < m
      · exact h i j hij hjm
      · have : j = m := by lia
        subst this
        by_cases hi : i = j
        · subst hi; exact Int.le_refl _
        · have := h i (j - 1) (by lia) (by lia)
          unfold kv at this ⊢
          lia
theorem ok_desc : ∀ (f : Nat) (p : Array Nat) (m q : Nat), Vp n p → 1 ≤ m → m + f ≤ n → Dsc key p m → q + 1 ≤ m → (∀ i, m - (q + 1) ≤ i → i < m → kv key p i = kv key p (m - 1)) →
    KOk (ltK key) n (kas_desc f p m q) (fun r => Vp n r.1 ∧ m ≤ r.2.1 ∧ r.2.1 ≤ m + f ∧ Dsc key r.1 r.2.1 ∧ r.2.2 + 1 ≤ r.2.1 ∧ ∀ i, r.2.1 - (r.2.2 + 1) ≤ i → i < r.2.1 → kv key r.1 i = kv key r.1 (r.2.1 - 1))
  | 0, p, m, q, hv, _, _, h, hq, he => ⟨hv, Nat.le_refl _, Nat.le_refl _, h, hq, he⟩
  | f + 1, p, m, q, hv, h1, hm, h, hq, he => by
    have hs := hv.size
    refine ⟨hv.lt (by lia), hv.lt (by lia), ?_⟩
    have up : ∀ p' : Array Nat, (∀ k, kv key p' k = kv key p k) → kv key p m ≤ kv key p (m - 1) → Dsc key p' (m + 1) := fun p' hk hle i j hij hj => by
      rw [hk, hk]
      by_cases hjm : j < m
      · exact h i j hij hjm
      · have : j = m := by lia
        subst this
        by_cases hi : i = j
        · subst hi; exact Int.le_refl _
        · have := h i (j - 1) (by lia) (by lia)
          lia
    by_cases c : key (p.getD m 0) < key (p.getD (m - 1) 0)
    · rw [show ltK key (p.getD m 0) (p.getD (m - 1) 0) = true from decide_eq_true c]; refine ok_yes ?_
      split
      · have hk : ∀ k, kv key (kas_rev p (m - (q + 1)) m) k = kv key p k := fun k => by
          rw [kv_rev (by lia)]
          split
          · rw [he _ (by lia) (by lia), he k (by lia) (by lia)]
          · rfl
        exact KOk.mono (fun r hr => ⟨hr.1, by lia, by lia, hr.2.2.2⟩) _ (ok_desc f _ (m + 1) 0 (hv.rev _ _) (by lia) (by lia) (up _ hk (Int.le_of_lt c)) (by lia) (fun i a b => by rw [show i = m + 1 - 1 by lia]))
      · exact KOk.mono (fun r hr => ⟨hr.1, by lia, by lia, hr.2.2.2⟩) _ (ok_desc f _ (m + 1) 0 hv (by lia) (by lia) (up _ (fun _ => rfl) (Int.le_of_lt c)) (by lia) (fun i a b => by rw [show i = m + 1 - 1 by lia]))
    · rw [show ltK key (p.getD m 0) (p.getD (m - 1) 0) = false from decide_eq_false c]; refine ok_no ?_
      refine ⟨hv.lt (by lia), hv.lt (by lia), ?_⟩
      by_cases d : key (p.getD (m - 1) 0) < key (p.getD m 0)
      · rw [show ltK key (p.getD (m - 1) 0) (p.getD m 0) = true from decide_eq_true d]; refine ok_yes ?_
        exact ⟨hv, Nat.le_refl _, Nat.le_add_right _ _, h, hq, he⟩
      · rw [show ltK key (p.getD (m - 1) 0) (p.getD m 0) = false from decide_eq_false d]; refine ok_no ?_
        have e : kv key p m = kv key p (m - 1) := by unfold kv; lia
        refine KOk.mono (fun r hr => ⟨hr.1, by lia, by lia, hr.2.2.2⟩) _ (ok_desc f _ (m + 1) (q + 1) hv (by lia) (by lia) (up _ (fun _ => rfl) (by lia)) (by lia) (fun i a b => ?_))
        rw [show m + 1 - 1 = m by lia]
        by_cases hi : i = m
        · rw [hi]
        · rw [e]; exact he i (by lia) (by lia)
theorem ok_tail3 {p : Array Nat} {m : Nat} (hv : Vp n p) (h1 : 1 ≤ m) (hm : m ≤ n) (h : Dsc key p m) : KOk (ltK key) n (kas_tail3 m n p) (fun r => Vp n r.2 ∧ 1 ≤ r.1 ∧ r.1 ≤ n ∧ Asc key r.2 r.1) := by
  unfold kas_tail3
  have hs := hv.size
  refine KOk.bind _ (KOk.mono (fun r hr => ?_) _ (ok_asc (hv.rev 0 m) (n - m) m h1 (by lia) fun i j hij hj => ?_))
  · exact ⟨hv.rev 0 m, by lia, by lia, hr.2.2.1⟩
  · rw [kv_rev (by lia), kv_rev (by lia), if_pos (by lia), if_pos (by lia)]
    exact h _ _ (by lia) (by lia)
theorem ok_descPart {p : Array Nat} {m : Nat} (hv : Vp n p) (hm : m + 1 ≤ n) (h : Dsc key p (m + 1)) : KOk (ltK key) n (kas_descPart m n p) (fun r => Vp n r.2 ∧ 1 ≤ r.1 ∧ r.1 ≤ n ∧ Asc key r.2 r.1) := by
  unfold kas_descPart
  refine KOk.bind _ (KOk.mono (fun r hr => ?_) _ (ok_desc (n - (m + 1)) p (m + 1) 0 hv (by lia) (by lia) h (by lia) (fun i a b => by rw [show i = m + 1 - 1 by lia])))
  obtain ⟨r1, r2, r3⟩ := r
  obtain ⟨v, a, b, c, d, e⟩ := hr
  simp only at v a b c d e ⊢
  have hs := v.size
  split
  · refine ok_tail3 (v.rev _ _) (by lia) (by lia) fun i j hij hj => ?_
    have hk : ∀ k, kv key (kas_rev r1 (r2 - (r3 + 1)) r2) k = kv key r1 k := fun k => by
      rw [kv_rev (by lia)]
      split
      · rw [e _ (by lia) (by lia), e k (by lia) (by lia)]
      · rfl
    rw [hk, hk]
    exact c i j hij hj
  · exact ok_tail3 v (by lia) (by lia) c
theorem ok_count {p : Array Nat} (hv : Vp n p) (h1 : 1 ≤ n) : KOk (ltK key) n (kas_count n p) (fun r => Vp n r.2 ∧ 1 ≤ r.1 ∧ r.1 ≤ n ∧ Asc key r.2 r.1) := by
  unfold kas_count
  have hs := hv.size
  refine KOk.bind _ (KOk.mono (fun m hm => ?_) _ (ok_asc hv (n - 1) 1 (Nat.le_refl _) (by lia) fun i j hij hj => by rw [show i = j by lia]; exact Int.le_refl _))
  obtain ⟨a, b, c, d⟩ := hm
  split
  · exact ⟨hv, a, by lia, c⟩
  · rename_i hne
    have hmn : m < n := by
      have : m ≠ n := fun e => hne (by simpa using e)
      lia
    have hd : kv key p m < kv key p (m - 1) := d.resolve_left (by lia)
    split
    · refine ⟨hv.lt (by lia), hv.lt (by lia), ?_⟩
      by_cases q : key (p.getD 0 0) < key (p.getD (m - 1) 0)
      · rw [show ltK key (p.getD 0 0) (p.getD (m - 1) 0) = true from decide_eq_true q]; refine ok_yes ?_
        exact ⟨hv, a, by lia, c⟩
      · rw [show ltK key (p.getD 0 0) (p.getD (m - 1) 0) = false from decide_eq_false q]; refine ok_no ?_
        have all : ∀ k, k < m → kv key p k = kv key p (m - 1) := fun k hk => by
          have x := c 0 k (by lia) hk
          have y := c k (m - 1) (by lia) (by lia)
          unfold kv at x y ⊢
          lia
        refine ok_descPart (hv.rev _ _) (by lia) fun i j hij hj => ?_
        have hk : ∀ k, kv key (kas_rev p 0 m) k = kv key p k := fun k => by
          rw [kv_rev (by lia)]
          split
          · rw [all _ (by lia), all k (by lia)]
          · rfl
        rw [hk, hk]
        by_cases hjm : j < m
        · rw [all i (by lia), all j hjm]; exact Int.le_refl _
        · rw [show j = m by lia]
          by_cases hi : i = m
          · rw [hi]; exact Int.le_refl _
          · rw [all i (by lia)]; exact Int.le_of_lt hd
    · refine ok_descPart hv (by lia) fun i j hij hj => ?_
      have hm1 : m = 1 := by lia
      subst hm1
      by_cases hi : i = j
      · rw [hi]; exact Int.le_refl _
      · rw [show i = 0 by lia, show j = 1 by lia]
        exact Int.le_of_lt hd
theorem ok_slot {p : Array Nat} {k : Nat} (hv : Vp n p) (hk : k < n) (hs : Asc key p k) : ∀ (f l r : Nat), l ≤ r → r ≤ k → r - l ≤ f → (∀ i, i < l → kv key p i ≤ kv key p k) → (∀ i, r ≤ i → i < k → kv key p k < kv key p i) →
    KOk (ltK key) n (kas_place p k f l r) (fun m => m ≤ k ∧ (∀ i, i < m → kv key p i ≤ kv key p k) ∧ ∀ i, m ≤ i → i < k → kv key p k < kv key p i)
  | 0, l, r, hlr, hrk, hf, hlo, hhi => ⟨by lia, hlo, fun i a b => hhi i (by lia) b⟩
  | f + 1, l, r, hlr, hrk, hf, hlo, hhi => by
    unfold kas_place
    split
    · exact ⟨by lia, hlo, fun i a b => hhi i (by lia) b⟩
    · refine ⟨hv.lt hk, hv.lt (by lia), ?_⟩
      by_cases q : key (p.getD k 0) < key (p.getD ((l + r) / 2) 0)
      · rw [show ltK key (p.getD k 0) (p.getD ((l + r) / 2) 0) = true from decide_eq_true q]; refine ok_yes ?_
        refine ok_slot hv hk hs f l ((l + r) / 2) (by lia) (by lia) (by lia) hlo fun i a b => ?_
        have := hs ((l + r) / 2) i a b
        unfold kv at this ⊢
        lia
      · rw [show ltK key (p.getD k 0) (p.getD ((l + r) / 2) 0) = false from decide_eq_false q]; refine ok_no ?_
        refine ok_slot hv hk hs f ((l + r) / 2 + 1) r (by lia) (by lia) (by lia) (fun i a => ?_) hhi
        have := hs i ((l + r) / 2) (by lia) (by lia)
        unfold kv at this ⊢
        lia
theorem ok_bin : ∀ (f : Nat) (p : Array Nat) (k : Nat), Vp n p → k + f = n → Asc key p k → KOk (ltK key) n (kas_bin f p k) (fun r => Vp n r ∧ Asc key r n)
  | 0, p, k, hv, hk, h => ⟨hv, by rw [← hk]; exact h⟩
  | f + 1, p, k, hv, hk, h => by
    have hs := hv.size
    refine KOk.bind _ (KOk.mono (fun l hl => ?_) _ (ok_slot hv (by lia) h k 0 k (by lia) (Nat.le_refl _) (by lia) (fun i hi => by lia) (fun i a b => by lia)))
    obtain ⟨a, b, c⟩ := hl
    refine ok_bin f _ (k + 1) (hv.bub _ _) (by lia) fun i j hij hj => ?_
    rw [kv_bub (by lia) (by lia), kv_bub (by lia) (by lia), show k - (k - l) = l by lia]
    repeat' split
    all_goals first
      | lia
      | exact Int.le_refl _
      | exact b _ (by lia)
      | exact Int.le_of_lt (c _ (by lia) (by lia))
      | exact h _ _ (by lia) (by lia)
theorem ok_sort (h1 : 1 ≤ n) : KOk (ltK key) n (kas_sort n) (fun r => Vp n r ∧ Asc key r n) := by
  unfold kas_sort
  refine KOk.bind _ (KOk.mono (fun r hr => ?_) _ (ok_count (by unfold Vp; simp) h1))
  obtain ⟨a, b, c, d⟩ := hr
  split
  · rw [show max r.1 1 = r.1 by lia]
    exact ok_bin _ _ _ a (by lia) d
  · exact ⟨a, by rw [show n = r.1 by lia]; exact d⟩
end
/-- v is a tuple of these two ints -/
def T2 (g : Heap) (v : Value) (r : Int × Int) : Prop := ∃ a t1 t2, v = .ref a ∧ g.IsTuple a #[.int r.1 t1, .int r.2 t2]
theorem T2.up {g h : Heap} {v : Value} {r : Int × Int} (x : T2 g v r) (k : Le g h) : T2 h v r := let ⟨a, t1, t2, e, q⟩ := x; ⟨a, t1, t2, e, k.tuple q⟩
abbrev Row2 := Value × (Int × Int)
def vals2 (xs : List Row2) : Array Value := (xs.map (·.1)).toArray
/-- all objects of a heap but for one -/
def objsOf (h : Heap) (L : Addr) : List (Addr × Obj) := (List.range h.objs.size).filterMap fun a => if a = L then none else (h.get? a).map fun o => (a, o)
theorem mem_objsOf {h : Heap} {L : Addr} {p : Addr × Obj} : p ∈ objsOf h L ↔ h.get? p.1 = some p.2 ∧ p.1 ≠ L := by
  unfold objsOf
  rw [List.mem_filterMap]
  constructor
  · rintro ⟨a, _, e⟩
    split at e
    · cases e
    · rename_i hne
      cases q : h.get? a with
      | none => rw [q] at e; cases e
      | some o => rw [q] at e; cases e; exact ⟨q, hne⟩
  · rintro ⟨e, hne⟩
    exact ⟨p.1, List.mem_range.mpr (Heap.lt_size e), by rw [if_neg hne, e]; rfl⟩
def heap0 : Heap := { (default : Heap) with objs := #[] }
theorem heap0_none (b : Addr) : heap0.get? b = none := by
  cases e : heap0.get? b with
  | none => rfl
  | some o => exact absurd (Heap.lt_size e) (Nat.not_lt_zero _)
section
variable {prog : Program} {w : World} {A : Around} {E : Value → Shared → Prop} {Q : Value → Shared → Prop} {h : Heap} {gn : Array GenState} {dr : Drawn} {tk : Nat} {os : OsState}
theorem ask2 {vs : List Value} {i j : Nat} {r r' : Int × Int} {C : Bool → Shared → Prop} (hx : T2 h (vs.getD i .none) r) (hy : T2 h (vs.getD j .none) r') (q : C (decide (r.1 < r'.1 ∨ (r.1 = r'.1 ∧ r.2 < r'.2))) ⟨h, gn, dr, tk, os⟩) :
    kas_ask prog w A (tuples' true) vs i j C ⟨h, gn, dr, tk, os⟩ := by
  obtain ⟨a, t1, t2, e, o, ho, hc, n, hd⟩ := hx
  obtain ⟨b, u1, u2, e', o', ho', hc', n', hd'⟩ := hy
  unfold kas_ask
  rw [e, e']
  refine kat_lt (s := ⟨h, gn, dr, tk, os⟩) ho hd ho' hd' ?_
  show KatLex prog w A true _ C [(.int r.1 t1, .int r'.1 u1), (.int r.2 t2, .int r'.2 u2)] 0 _
  refine kat_cons (wpAny_eqBool_int ?_)
  by_cases h1 : r.1 = r'.1
  · rw [show (r.1 == r'.1) = true by simpa using h1]
    refine kat_yes (kat_cons (wpAny_eqBool_int ?_))
    by_cases h2 : r.2 = r'.2
    · rw [show (r.2 == r'.2) = true by simpa using h2]
      refine kat_yes (kat_nil ?_)
      rw [decide_eq_false (by lia)] at q
      exact q
    · rw [show (r.2 == r'.2) = false by simpa using h2]
      refine kat_no ?_
      show wpAny (model prog w) A (oneLt' false _ _) _ _ _
      refine kat_one _ _ (lt_int ?_)
      show C (decide (r.2 < r'.2)) _
      rw [show decide (r.2 < r'.2) = decide (r.1 < r'.1 ∨ (r.1 = r'.1 ∧ r.2 < r'.2)) from decide_eq_decide.mpr (by lia)]
      exact q
  · rw [show (r.1 == r'.1) = false by simpa using h1]
    refine kat_no ?_
    show wpAny (model prog w) A (oneLt' true _ _) _ _ _
    refine oneLt_int ?_
    rw [show decide (r.1 < r'.1) = decide (r.1 < r'.1 ∨ (r.1 = r'.1 ∧ r.2 < r'.2)) from decide_eq_decide.mpr (by lia)]
    exact q
theorem tups2 : ∀ (xs : List Row2), (∀ p ∈ xs, T2 h p.1 p.2) → ∃ fs, KatTups h (xs.map (·.1)) fs ∧ fs.length = xs.length ∧ ∀ v ∈ fs, ∃ k t, v = .int k t
  | [], _ => ⟨[], .nil, rfl, by simp⟩
  | p :: xs, hT => by
    obtain ⟨fs, h1, h2, h3⟩ := tups2 xs fun q hq => hT q (.tail _ hq)
    obtain ⟨a, t1, t2, e, o, ho, hc, n, hd⟩ := hT p (.head _)
    refine ⟨.int p.2.1 t1 :: fs, ?_, by simp [h2], fun v hv => ?_⟩
    · rw [List.map_cons, e]
      exact .cons ho hc hd rfl h1
    · rcases List.mem_cons.mp hv with rfl | hv
      · exact ⟨_, _, rfl⟩
      · exact h3 v hv
def keyAt (xs : List Row2) (i : Nat) : Int := (xs.getD i default).2.1 * 4096 + (xs.getD i default).2.2
theorem r_sorted2 {g : Heap} {L : Addr} {D : List Addr} {P : Heap → Prop} {ls : List (Str × Value)} (S : St g L D P h ls) {l : Addr} {xs : List Row2} (hl : h.PlainList l (vals2 xs)) (hT : ∀ p ∈ xs, T2 h p.1 p.2) (hr : ∀ p ∈ xs, 0 ≤ p.2.2 ∧ p.2.2 < 4096)
    (h2 : 2 ≤ xs.length) (h64 : xs.length < 64)
    (q : ∀ h' a ys, h'.PlainList a (vals2 ys) → ys.Perm xs → (ys.map (·.2)).Pairwise leP → (∀ b o, b ≠ L → h.get? b = some o → h'.get? b = some o) → Q (.ref a) ⟨h', gn, dr, tk, os⟩) :
    wpAny (model prog w) A (call (.builtin "sorted") [.ref l]) Q E ⟨h, gn, dr, tk, os⟩ := by
  obtain ⟨m, hns, _⟩ := S.loc
  have F : Fr heap0 L h m := ⟨hns, (fun b o e => by rw [heap0_none] at e; cases e), Nat.zero_le _⟩
  have N : News heap0 L h (objsOf h L) := fun p hp => let x := mem_objsOf.mp hp; ⟨x.1, x.2, heap0_none _⟩
  have hTL : ∀ p ∈ xs, ∀ a, p.1 = .ref a → a ≠ L := fun p hp a e => by
    obtain ⟨b, t1, t2, e2, o, ho, _, n, hd⟩ := hT p hp
    obtain ⟨o', es, ep, ho', hd', _⟩ := hns
    rw [e] at e2
    cases e2
    intro q
    subst q
    rw [ho] at ho'
    cases ho'
    rw [hd] at hd'
    cases hd'
  have hlen : (xs.map (·.1)).length = xs.length := List.length_map _
  refine kat_sorted (s := ⟨h, gn, dr, tk, os⟩) (vs := xs.map (·.1)) F N (show h.IsList l (xs.map (·.1)).toArray from plain_isList hl) (by rw [hlen]; exact h2) (by rw [hlen]; exact h64) fun a e1 h' F' N' hlt => ?_
  have keep : ∀ {h'' : Heap} {o' : Obj}, News heap0 L h'' ((a, o') :: objsOf h L) → ∀ b o, b ≠ L → h.get? b = some o → h''.get? b = some o := fun N'' b o hb e => (N'' (b, o) (.tail _ (mem_objsOf.mpr ⟨e, hb⟩))).1
  have hT' : ∀ p ∈ xs, T2 h' p.1 p.2 := fun p hp => by
    obtain ⟨b, t1, t2, e2, o, ho, r⟩ := hT p hp
    exact ⟨b, t1, t2, e2, o, keep N' b o (hTL p hp b e2) ho, r⟩
  obtain ⟨fs, f1, f2, f3⟩ := tups2 xs hT'
  refine kat_kind (s := ⟨h', gn, dr, tk, os⟩) (T := .type "int") f1 (by lia) (fun v hv => ?_) (by rfl) ?_
  · obtain ⟨k, t, rfl⟩ := f3 v hv
    exact Looks.of_pure rfl
  have hd : ∀ i, i < xs.length → xs.getD i default = xs[i]?.getD default ∧ xs.getD i default ∈ xs ∧ (xs.map (·.1)).getD i .none = (xs.getD i default).1 := fun i hi => by
    refine ⟨by simp [List.getD], ?_, ?_⟩
    · simp [List.getD, hi]
    · simp [List.getD, hi]
  rw [hlen]
  refine KOk.wp (lt := ltK (keyAt xs)) (n := xs.length) (fun i j C hi hj hC => ?_) (fun p hp => ?_) _ (ok_sort (by lia))
  · obtain ⟨_, m1, v1⟩ := hd i hi
    obtain ⟨_, m2, v2⟩ := hd j hj
    refine ask2 (r := (xs.getD i default).2) (r' := (xs.getD j default).2) (v1 ▸ hT' _ m1) (v2 ▸ hT' _ m2) ?_
    have b1 := hr _ m1
    have b2 := hr _ m2
    rw [show decide ((xs.getD i default).2.1 < (xs.getD j default).2.1 ∨ ((xs.getD i default).2.1 = (xs.getD j default).2.1 ∧ (xs.getD i default).2.2 < (xs.getD j default).2.2)) = ltK (keyAt xs) i j from decide_eq_decide.mpr (by unfold keyAt; lia)]
    exact hC
  · obtain ⟨hv, ha⟩ := hp
    refine KasFin.intro (s := ⟨h', gn, dr, tk, os⟩) F' N' (.head fun p hp => Nat.ne_of_lt (hlt p hp)) fun h'' c F'' N'' => ?_
    have hout : (p.toList.map fun i => (xs.map (·.1)).getD i Value.none) = (p.toList.map fun i => xs.getD i default).map (·.1) := by
      rw [List.map_map]
      exact List.map_congr_left fun i hi => (hd i (List.mem_range.mp (hv.subset hi))).2.2
    rw [hout] at N''
    refine q h'' a (p.toList.map fun i => xs.getD i default) ⟨c, (N'' _ (.head _)).1⟩ ?_ ?_ (keep N'')
    · refine (hv.map _).trans ?_
      have : (List.range xs.length).map (fun i => xs.getD i default) = xs := by
        refine List.ext_getElem (by simp) fun i h1 h2 => ?_
        simp [List.getD, h2]
      rw [this]
    · rw [List.map_map, List.pairwise_map, List.pairwise_iff_getElem]
      intro i j hi hj hij
      have hs := hv.size
      rw [Array.length_toList] at hi hj
      have key := ha i j (by lia) (by lia)
      have hi' := hv.lt (i := i) (by lia)
      have hj' := hv.lt (i := j) (by lia)
      have b1 := hr _ (hd _ hi').2.1
      have b2 := hr _ (hd _ hj').2.1
      unfold kv keyAt at key
      have g1 : p.getD i 0 = p[i] := by simp [Array.getD, hi]
      have g2 : p.getD j 0 = p[j] := by simp [Array.getD, hj]
      rw [g1] at key b1
      rw [g2] at key b2
      simp only [Array.getElem_toList, Function.comp]
      unfold leP
      lia
end
/-- the rows of one lamp and one count of it -/
def rowB (ps : List Int) (most : Int) (k a : Nat) : List Nd := (List.range ((most - ((a : Int) + 1) * ps.getD k 0) / ps.getD ((k + 1) % 6) 0 + 1).toNat).map fun b => ⟨k, b, a + 1 + b⟩
def rowA (ps : List Int) (most : Int) (k : Nat) : List Nd := (List.range (most / ps.getD k 0).toNat).flatMap (rowB ps most k)
theorem allOf_rows (ps : List Int) (most : Int) : allOf ps most = (List.range 6).flatMap (rowA ps most) := rfl
theorem range_flat {β : Type} (f : Nat → List β) (n : Nat) : (List.range (n + 1)).flatMap f = (List.range n).flatMap f ++ f n := by
  rw [List.range_succ, List.flatMap_append]; simp
theorem flat_le {β : Type} (f : Nat → List β) {i n : Nat} (h : i < n) : ((List.range i).flatMap f).length + (f i).length ≤ ((List.range n).flatMap f).length := by
  obtain ⟨d, rfl⟩ : ∃ d, n = i + 1 + d := ⟨n - (i + 1), by lia⟩
  induction d with
  | zero => rw [Nat.add_zero, range_flat, List.length_append]; lia
  | succ d ih =>
    have := ih (by lia)
    rw [← Nat.add_assoc, range_flat, List.length_append]; lia
theorem tuple_lt {h : Heap} {a : Addr} {its : Array Value} (x : h.IsTuple a its) : a < h.objs.size := let ⟨_, ho, _⟩ := x; Heap.lt_size ho
theorem T_small {v : Nd} (h : v.ok) (hn : v.n ≤ 13) : v.T < 4096 := by
  have h1 := List.all_eq_true.mp okPs_13 v (mem_places h hn)
  unfold okP at h1
  rw [Bool.and_eq_true] at h1
  have h2 := List.all_eq_true.mp h1.2 0 (by simp)
  rw [Bool.and_eq_true] at h2
  exact of_decide_eq_true h2.2
theorem boot_sorted : bootBuiltins "sorted" = some (.builtin "sorted") := by kernel_rfl
section
variable {prog : Program} {w : World} {A : Around} {E : Value → Shared → Prop} {mg mb : Str → Option Value} {fa : Nat → Addr} {g : Heap} {Q : Value → Shared → Prop} {h₀ : Heap} {gn : Array GenState} {dr : Drawn} {tk₀ : Nat} {os : OsState}
set_option maxHeartbeats 2000000 in
theorem all_spec {pr : Addr} {ps : List Int} {most : Int} {tm : Tok}
    (B : Base mg mb fa g) (k : Le g h₀) (hpr : IntsL h₀ pr ps) (S₀ : Settled ps) (hm1 : 0 ≤ most) (hm2 : most < 2 ^ 20) (hl2 : 2 ≤ (allOf ps most).length) (hl42 : (allOf ps most).length ≤ 42) (hn12 : ∀ v ∈ allOf ps most, v.n ≤ 13)
    (hh : A.handled = none) (hd : A.depth + 2 < recursionLimit)
    (q : ∀ h' tk a ys, h'.PlainList a (vals2 ys) → (∀ p ∈ ys, T2 h' p.1 p.2) → (ys.map (·.2)).Perm ((allOf ps most).map (key2 ps)) → (ys.map (·.2)).Pairwise leP → Le h₀ h' → Q (.ref a) ⟨h', gn, dr, tk, os⟩) :
    wpAny (model prog w) A (call (.ref (fa 19)) [.ref pr, .int most tm]) Q E ⟨h₀, gn, dr, tk₀, os⟩ := by
  refine call_fn 19 (binds := [("prices", .ref pr), ("most", .int most tm)]) B k (by lia) rfl (fun h₁ cd tk₁ hns hk₁ => ?_)
  have S := St.enter (D := []) (P := fun _ => True) hns hk₁ (by simp) (fun _ _ _ _ => trivial) trivial
  simp only [hideAll] at S
  have BG : Base mg mb fa h₀ := B.up k
  have hh' : ∀ env, (A.deeper env).handled = none := fun _ => hh
  have hdep1 : (A.deeper (envOf (fn 19).name (fn 19).scope h₀.objs.size (fa 19) cd)).depth = A.depth + 1 := rfl
  generalize hL : h₀.objs.size = L at S hdep1 ⊢
  walk_at "mw"
  refine e_fn0 14 BG S.keep ?_
  refine lamps_spec BG S.keep (by rw [hdep1]; lia) fun h₂ tk₂ la t0 t1 t2 t3 t4 t5 ha₂ ht₂ k₂ => ?_
  have S₂ := S.grow k₂
  walk_at "mw"
  refine r_st S₂ fun h₃ tk₃ S₃ hs₃ => ?_
  have hlaL : la ≠ L := Nat.ne_of_gt (Nat.lt_of_lt_of_le S.lt ha₂)
  have ht₃ : h₃.IsTuple la _ := let ⟨o, ho, r⟩ := ht₂; ⟨o, (hs₃.2 la hlaL).trans ho, r⟩
  have hla₃ := tuple_lt ht₃
  walk_at "mw"
  refine wpAny_List (s := ⟨h₃, gn, dr, _, os⟩) ?_
  walk_at "m1"
  refine ⟨Nat.zero_le _, ?_⟩
  have S₄ := S₃.fresh (P₁ := fun h => h.PlainList h₃.objs.size (vals2 [])) { cls := .type "list", data := .seq ([] : List Value).toArray } rfl (fun _ e => ⟨_, e⟩) rfl (fun h h' x k => list_dep h h' x fun d hd => by rw [List.mem_singleton.mp hd]; exact k)
  have ht₄ := (Le.push h₃ { cls := .type "list", data := .seq ([] : List Value).toArray }).tuple ht₃
  have hrL : h₃.objs.size ≠ L := Nat.ne_of_gt S₃.lt
  have hlar : la ≠ h₃.objs.size := Nat.ne_of_lt hla₃
  dsimp only
  generalize h₃.objs.size = rw at S₄ hrL hlar ⊢
  generalize h₃.push _ = h₄ at S₄ ht₄ ⊢
  refine r_st S₄ fun h₅ tk₅ S₅ hs₅ => ?_
  obtain ⟨G, hG1, hG2, Sa⟩ := S₅.re [rw] (fun h => h.PlainList rw (vals2 [])) S₅.here.1 list_dep (by simp; exact ⟨hrL, (S₅.offD rw (.head _)).1⟩)
  have gla : G.IsTuple la _ := let ⟨o, ho, r⟩ := ht₄; ⟨o, hG2 la o hlaL (by simpa using hlar) ((hs₅.2 la hlaL).trans ho), r⟩
  have kG : Le h₀ G := hG1
  have BGG : Base mg mb fa G := BG.up kG
  have gpr : IntsL G pr ps := hpr.up kG
  obtain ⟨its, gla, hget6⟩ : ∃ its, G.IsTuple la its ∧ ∀ j : Nat, j < 6 → ∃ ts, its[j]? = some (.int (lampOf j : Nat) ts) := ⟨_, gla, fun j hj => by
    rcases (by lia : j = 0 ∨ j = 1 ∨ j = 2 ∨ j = 3 ∨ j = 4 ∨ j = 5) with rfl | rfl | rfl | rfl | rfl | rfl <;> exact ⟨_, rfl⟩⟩
  clear S S₂ S₃ S₄ S₅ ht₂ ht₃ ht₄ hs₅ hs₃ hG2
  walk_at "m1"
  refine wpAny_For ?_ (by intro _; rfl)
  refine e_ty BGG Sa.keep boot_range ?_
  walk_at "mw"
  refine r_range1 fun h₆ tk₆ r t₀ t₁ hr k₆ => ?_
  have Sb := Sa.grow k₆
  refine r_iterRange hr (by decide) (by decide) (by decide) (by decide) ?_
  rw [show ((6 : Int) - 0).toNat = 6 by decide]
  have hne : h₆.objs.size ∉ [rw] := fun q => by
    rw [List.mem_singleton] at q
    exact absurd (isList_lt (plain_isList Sb.here)) (by rw [← q]; exact Nat.lt_irrefl _)
  have Sc := Sb.fresh (P₁ := fun h => IsRangeIter h h₆.objs.size 0 ((6 : Nat) : Int) 1) (iterObj 0 ((6 : Nat) : Int) 1) rfl (fun _ e => e) rfl iter_dep
  generalize h₆.objs.size = it1 at hne Sc ⊢
  generalize h₆.push _ = h₇ at Sc ⊢
  clear hr Sa Sb
  refine for_rngG (σ := Heap × List Row2) (D := [rw]) (G := fun c => c.1) (P := fun _ c h => h.PlainList rw (vals2 c.2))
    (ls := fun _ _ => [("rows", .ref rw), ("lamps", .ref la), ("prices", .ref pr), ("most", .int most tm)])
    (F := fun i c => Le G c.1 ∧ (∀ p ∈ c.2, T2 c.1 p.1 p.2) ∧ c.2.map (·.2) = ((List.range i).flatMap (rowA ps most)).map (key2 ps)) (G, []) (hh' _) hne (Sc.less ⟨rfl, rfl, rfl, rfl, trivial⟩) ⟨Le.refl _, by simp, by simp⟩ (fun _ c h h' x k => list_dep h h' x k) ?_ ?_
  rotate_left
  · rintro ⟨G₂, xs⟩ h tk ⟨kG₂, hT, hx⟩ S
    dsimp only at S hT kG₂ hx ⊢
    rw [← allOf_rows] at hx
    have hxl : xs.length = (allOf ps most).length := by rw [← List.length_map (f := (·.2)) (as := xs), hx, List.length_map]
    have B2 : Base mg mb fa G₂ := BGG.up kG₂
    walk_at "mw"
    refine e_bi B2 S.keep boot_sorted ?_
    walk_at "mw"
    refine r_sorted2 S S.here (fun p hp => (hT p hp).up S.keep) (fun p hp => ?_) (by lia) (by lia) fun h' a ys hl' hp hs hk => ?_
    · have : p.2 ∈ xs.map (·.2) := List.mem_map_of_mem hp
      rw [hx] at this
      obtain ⟨v, hv, e⟩ := List.mem_map.mp this
      rw [← e]
      have h1 := (mem_all S₀).mp hv
      have h2 := T_small h1.1 (hn12 v hv)
      unfold key2
      simp only
      lia
    · walk_at "mw"
      refine q h' _ a ys hl' (fun p hp' => ?_) ?_ hs fun b o e => ?_
      · obtain ⟨a', u1, u2, e1, o, ho, r⟩ := hT p (hp.subset hp')
        refine ⟨a', u1, u2, e1, o, hk a' o (fun e => ?_) (S.keep _ _ ho), r⟩
        rw [e, S.offL] at ho
        cases ho
      · rw [← hx]; exact hp.map _
      · have := kG₂ _ _ (kG _ _ e)
        refine hk b o (fun e' => ?_) (S.keep _ _ this)
        rw [e', S.offL] at this
        cases this
  rintro i ⟨G₂, xs⟩ h tk t hi ⟨kG₂, hT, hx⟩ S
  rw [show (0 : Int) + (i : Int) * 1 = i by lia] at S ⊢
  dsimp only at S hT kG₂ hx ⊢
  have B2 : Base mg mb fa G₂ := BGG.up kG₂
  have hget : ∀ j : Nat, j < 6 → ps[((j : Nat) : Int).toNat]? = some (ps.getD j 0) := fun j hj => by rw [Int.toNat_natCast]; exact (Good6.at ⟨S₀.len, S₀.bnd⟩ hj).1
  have hj2 : (i + 1) % 6 < 6 := Nat.mod_lt _ (by decide)
  have p1 := S₀.pos hi
  have p2 := S₀.pos hj2
  have kS : Le G h := kG₂.trans S.keep
  have hdivA : most.fdiv (ps.getD i 0) = most / ps.getD i 0 := Int.fdiv_eq_ediv_of_nonneg _ (by lia)
  have hA0 : 0 ≤ most / ps.getD i 0 := Int.ediv_nonneg hm1 (by lia)
  have hA1 : most / ps.getD i 0 ≤ most := Int.ediv_le_self _ hm1
  walk_at "mw"
  refine r_mod (by decide) fun _ _ => ?_
  rw [show Int.fmod ((i : Int) + 1) 6 = (((i + 1) % 6 : Nat) : Int) by rw [Int.fmod_eq_emod_of_nonneg _ (by decide)]; lia]
  refine r_st S fun h₂ tk₂ S₂ hs₂ => ?_
  walk_at "m1"
  refine wpAny_For ?_ (by intro _; rfl)
  refine e_ty B2 S₂.keep boot_range ?_
  walk_at "mw"
  refine r_itemI (gpr.up (kG₂.trans S₂.keep)) (by lia) (hget i hi) (by rw [S₀.len]; decide) fun _ => ?_
  refine r_div (by lia) (by lia) fun _ _ => ?_
  rw [hdivA]
  walk_at "mw"
  refine r_range2 fun h₃ tk₃ r t₁ hr k₃ => ?_
  have S₃ := S₂.grow k₃
  refine r_iterRange hr (by decide) (by decide) (by lia) (by lia) ?_
  rw [show (most / ps.getD i 0 + 1 - 1).toNat = (most / ps.getD i 0).toNat by rw [Int.add_sub_cancel]]
  have hne2 : h₃.objs.size ∉ [it1, rw] := fun q => by
    simp at q
    rcases q with q | q
    · exact absurd (Heap.lt_size S₃.here.1) (by rw [← q]; exact Nat.lt_irrefl _)
    · exact absurd (isList_lt (plain_isList S₃.here.2)) (by rw [← q]; exact Nat.lt_irrefl _)
  have S₄ := S₃.fresh (P₁ := fun h => IsRangeIter h h₃.objs.size 1 (((most / ps.getD i 0).toNat : Nat) : Int) 1) (iterObj 1 (((most / ps.getD i 0).toNat : Nat) : Int) 1) rfl (fun _ e => e) rfl iter_dep
  generalize h₃.objs.size = it2 at hne2 S₄ ⊢
  generalize h₃.push _ = h₄ at S₄ ⊢
  clear hr S₂ S₃ hs₂
  have dep1 : ∀ (c : Heap × List Row2) (h h' : Heap), (IsRangeIter h it1 ((i : Int) + 1) (((6 : Nat) : Int) - i - 1) 1 ∧ h.PlainList rw (vals2 c.2)) → (∀ d ∈ [it1, rw], ∀ o, h.get? d = some o → h'.get? d = some o) → (IsRangeIter h' it1 ((i : Int) + 1) (((6 : Nat) : Int) - i - 1) 1 ∧ h'.PlainList rw (vals2 c.2)) :=
    fun c h h' x k => ⟨k it1 (.head _) _ x.1, list_dep _ _ x.2 fun d hd => k d (.tail _ hd)⟩
  refine for_rngG (σ := Heap × List Row2) (D := [it1, rw]) (G := fun c => c.1) (P := fun _ c h => IsRangeIter h it1 ((i : Int) + 1) (((6 : Nat) : Int) - i - 1) 1 ∧ h.PlainList rw (vals2 c.2))
    (ls := fun _ _ => [("k", .int (i : Nat) t), ("beside", .int ((i + 1) % 6 : Nat) _), ("rows", .ref rw), ("lamps", .ref la), ("prices", .ref pr), ("most", .int most tm)])
    (F := fun a c => Le G c.1 ∧ (∀ p ∈ c.2, T2 c.1 p.1 p.2) ∧ c.2.map (·.2) = ((List.range i).flatMap (rowA ps most) ++ (List.range a).flatMap (rowB ps most i)).map (key2 ps)) (G₂, xs) (hh' _) hne2 (S₄.less ⟨rfl, rfl, rfl, rfl, rfl, rfl, trivial⟩)
    ⟨kG₂, hT, by simpa using hx⟩ (fun _ c => dep1 c) ?_ ?_
  rotate_left
  · rintro ⟨G₃, zs⟩ h tk ⟨kG₃, hTz, hz⟩ S
    dsimp only at S hTz kG₃ hz ⊢
    walk_at "mw"
    refine ⟨.inl rfl, h, _, (G₃, zs), rfl, ⟨kG₃, hTz, ?_⟩, S.less ⟨rfl, rfl, rfl, rfl, trivial⟩⟩
    rw [range_flat]
    exact hz
  clear S₄ hT hx kG₂ kS S B2
  rintro a ⟨G₃, zs⟩ h tk ta ha ⟨kG₃, hTz, hz⟩ S
  rw [show (1 : Int) + (a : Int) * 1 = (a : Int) + 1 by lia] at S ⊢
  dsimp only at S hTz kG₃ hz ⊢
  have B3 : Base mg mb fa G₃ := BGG.up kG₃
  have kS : Le G h := kG₃.trans S.keep
  have hap : ((a : Int) + 1) * ps.getD i 0 ≤ most := (div_le (by lia)).mp (by lia)
  have hap0 : 0 ≤ ((a : Int) + 1) * ps.getD i 0 := Int.mul_nonneg (by lia) (by lia)
  have hdivB : (most - ((a : Int) + 1) * ps.getD i 0).fdiv (ps.getD ((i + 1) % 6) 0) = (most - ((a : Int) + 1) * ps.getD i 0) / ps.getD ((i + 1) % 6) 0 := Int.fdiv_eq_ediv_of_nonneg _ (by lia)
  have hB0 : 0 ≤ (most - ((a : Int) + 1) * ps.getD i 0) / ps.getD ((i + 1) % 6) 0 := Int.ediv_nonneg (by lia) (by lia)
  have hB1 : (most - ((a : Int) + 1) * ps.getD i 0) / ps.getD ((i + 1) % 6) 0 ≤ most - ((a : Int) + 1) * ps.getD i 0 := Int.ediv_le_self _ (by lia)
  have hnB : ((most - ((a : Int) + 1) * ps.getD i 0) / ps.getD ((i + 1) % 6) 0 + 1).toNat = (rowB ps most i a).length := by unfold rowB; simp
  have hrowB : ∀ b, b < (rowB ps most i a).length → (rowB ps most i a)[b]? = some ⟨i, b, a + 1 + b⟩ := fun b hb => by
    rw [← hnB] at hb
    unfold rowB
    rw [List.getElem?_map, List.getElem?_range hb]; rfl
  have hsz : ((List.range i).flatMap (rowA ps most)).length + (((List.range a).flatMap (rowB ps most i)).length + (rowB ps most i a).length) ≤ (allOf ps most).length := by
    have h1 := flat_le (rowA ps most) hi
    have h2 := flat_le (rowB ps most i) ha
    rw [← allOf_rows] at h1
    unfold rowA at h1
    unfold rowA
    lia
  generalize hq1 : ((a : Int) + 1) * ps.getD i 0 = ap at *
  generalize hq2 : (most - ap) / ps.getD ((i + 1) % 6) 0 = dv at *
  walk_at "m1"
  refine wpAny_For ?_ (by intro _; rfl)
  refine e_ty B3 S.keep boot_range ?_
  walk_at "mw"
  refine r_itemI (gpr.up kS) (by lia) (hget i hi) (by rw [S₀.len]; decide) fun _ => ?_
  refine r_mulR (by lia) (by lia) fun _ _ => ?_
  rw [hq1]
  walk_at "mw"
  refine r_itemI (gpr.up kS) (by lia) (hget _ hj2) (by rw [S₀.len]; decide) fun _ => ?_
  refine r_div (by lia) (by lia) fun _ _ => ?_
  rw [hdivB]
  walk_at "mw"
  refine r_range1 fun h₃ tk₃ r t₀ t₁ hr k₃ => ?_
  have S₃ := S.grow k₃
  refine r_iterRange hr (by decide) (by decide) (by lia) (by lia) ?_
  rw [show (dv + 1 - 0).toNat = (rowB ps most i a).length by rw [Int.sub_zero]; exact hnB]
  have hne3 : h₃.objs.size ∉ [it2, it1, rw] := fun q => by
    simp at q
    rcases q with q | q | q
    · exact absurd (Heap.lt_size S₃.here.1) (by rw [← q]; exact Nat.lt_irrefl _)
    · exact absurd (Heap.lt_size S₃.here.2.1) (by rw [← q]; exact Nat.lt_irrefl _)
    · exact absurd (isList_lt (plain_isList S₃.here.2.2)) (by rw [← q]; exact Nat.lt_irrefl _)
  have S₄ := S₃.fresh (P₁ := fun h => IsRangeIter h h₃.objs.size 0 (((rowB ps most i a).length : Nat) : Int) 1) (iterObj 0 (((rowB ps most i a).length : Nat) : Int) 1) rfl (fun _ e => e) rfl iter_dep
  generalize h₃.objs.size = it3 at hne3 S₄ ⊢
  generalize h₃.push _ = h₄ at S₄ ⊢
  clear hr S₃ S kS
  have dep2 : ∀ (c : Heap × List Row2) (h h' : Heap), (IsRangeIter h it2 ((a : Int) + 1 + 1) (((most / ps.getD i 0).toNat : Nat) - (a : Int) - 1) 1 ∧ IsRangeIter h it1 ((i : Int) + 1) (((6 : Nat) : Int) - i - 1) 1 ∧ h.PlainList rw (vals2 c.2)) → (∀ d ∈ [it2, it1, rw], ∀ o, h.get? d = some o → h'.get? d = some o) →
      (IsRangeIter h' it2 ((a : Int) + 1 + 1) (((most / ps.getD i 0).toNat : Nat) - (a : Int) - 1) 1 ∧ IsRangeIter h' it1 ((i : Int) + 1) (((6 : Nat) : Int) - i - 1) 1 ∧ h'.PlainList rw (vals2 c.2)) :=
    fun c h h' x k => ⟨k it2 (.head _) _ x.1, dep1 c _ _ x.2 fun d hd => k d (.tail _ hd)⟩
  refine for_rngG (σ := Heap × List Row2) (D := [it2, it1, rw]) (G := fun c => c.1) (P := fun _ c h => IsRangeIter h it2 ((a : Int) + 1 + 1) (((most / ps.getD i 0).toNat : Nat) - (a : Int) - 1) 1 ∧ IsRangeIter h it1 ((i : Int) + 1) (((6 : Nat) : Int) - i - 1) 1 ∧ h.PlainList rw (vals2 c.2))
    (ls := fun _ _ => [("a", .int ((a : Int) + 1) ta), ("k", .int (i : Nat) t), ("beside", .int ((i + 1) % 6 : Nat) _), ("rows", .ref rw), ("lamps", .ref la), ("prices", .ref pr), ("most", .int most tm)])
    (F := fun b c => Le G c.1 ∧ (∀ p ∈ c.2, T2 c.1 p.1 p.2) ∧ c.2.map (·.2) = ((List.range i).flatMap (rowA ps most) ++ ((List.range a).flatMap (rowB ps most i) ++ (rowB ps most i a).take b)).map (key2 ps)) (G₃, zs) (hh' _) hne3 (S₄.less ⟨rfl, rfl, rfl, rfl, rfl, rfl, rfl, trivial⟩)
    ⟨kG₃, hTz, by simpa using hz⟩ (fun _ c => dep2 c) ?_ ?_
  rotate_left
  · rintro ⟨G₄, zs'⟩ h tk ⟨kG₄, hTz', hz'⟩ S
    dsimp only at S hTz' kG₄ hz' ⊢
    walk_at "mw"
    refine ⟨.inl rfl, h, _, (G₄, zs'), rfl, ⟨kG₄, hTz', ?_⟩, S.less ⟨rfl, rfl, rfl, rfl, rfl, rfl, trivial⟩⟩
    rw [range_flat]
    rw [List.take_length] at hz'
    exact hz'
  clear S₄ hTz hz kG₃ B3
  rintro b ⟨G₄, xs⟩ h tk tb hb ⟨kG₄, hT, hx⟩ S
  rw [show (0 : Int) + (b : Int) * 1 = b by lia] at S ⊢
  dsimp only at S hT kG₄ hx ⊢
  have kS : Le G h := kG₄.trans S.keep
  have hxl : xs.length ≤ 42 := by
    have := congrArg List.length hx
    simp only [List.length_map, List.length_append, List.length_take] at this
    lia
  obtain ⟨u1, hl1⟩ := hget6 i hi
  obtain ⟨u2, hl2⟩ := hget6 _ hj2
  have hlb : ∀ j, j < 6 → (lampOf j : Nat) ≤ 272 := fun j hj => by
    rcases (by lia : j = 0 ∨ j = 1 ∨ j = 2 ∨ j = 3 ∨ j = 4 ∨ j = 5) with rfl | rfl | rfl | rfl | rfl | rfl <;> decide
  have hlb1 := hlb i hi
  have hlb2 := hlb _ hj2
  walk_at "mw"
  refine wpAny_Expr_any ?_ (by rfl) (by kernel_rfl)
  refine e_append ?_
  walk_at "mw"
  refine ⟨rw, _, rfl, S.here.2.2.2, ?_⟩
  walk_at "mw"
  refine r_itemI (gpr.up kS) (by lia) (hget i hi) (by rw [S₀.len]; decide) fun _ => ?_
  refine r_mulR (by lia) (by lia) fun _ _ => ?_
  walk_at "mw"
  refine r_itemI (gpr.up kS) (by lia) (hget _ hj2) (by rw [S₀.len]; decide) fun _ => ?_
  refine r_mulR (by lia) (by lia) fun _ _ => ?_
  walk_at "mw"
  refine r_itemT (kS.tuple gla) (by lia) (by lia) (v := .int (lampOf i : Nat) u1) (by rw [Int.toNat_natCast]; exact hl1) ?_
  refine r_mulR (by lia) (by lia) fun _ _ => ?_
  walk_at "mw"
  refine r_itemT (kS.tuple gla) (by lia) (by lia) (v := .int (lampOf ((i + 1) % 6) : Nat) u2) (by rw [Int.toNat_natCast]; exact hl2) ?_
  refine r_mulR (by lia) (by lia) fun _ _ => ?_
  walk_at "mw"
  refine r_tuple (by rw [sizeLine_eq]; simp) fun h₅ a₅ ha₅ ht₅ k₅ => ?_
  have Su := S.grow k₅
  have hdlt : ∀ d ∈ [it3, it2, it1, rw], d < h.objs.size := by
    intro d hd
    simp at hd
    rcases hd with rfl | rfl | rfl | rfl
    · exact Heap.lt_size S.here.1
    · exact Heap.lt_size S.here.2.1
    · exact Heap.lt_size S.here.2.2.1
    · exact isList_lt (plain_isList S.here.2.2.2)
  obtain ⟨G₅, hG₅1, hG₅2, Sv⟩ := Su.re [it3, it2, it1, rw] _ Su.here Su.dep (fun d hd => ⟨(Su.offD d hd).2, (Su.offD d hd).1⟩)
  have hT5 : T2 G₅ (.ref a₅) (key2 ps ⟨i, b, a + 1 + b⟩) := by
    have e1 : (key2 ps ⟨i, b, a + 1 + b⟩).1 = ((a : Int) + 1) * ps.getD i 0 + (b : Int) * ps.getD ((i + 1) % 6) 0 := C_ab ps i a b
    have e2 : (key2 ps ⟨i, b, a + 1 + b⟩).2 = ((a : Int) + 1) * ((lampOf i : Nat) : Int) + (b : Int) * ((lampOf ((i + 1) % 6) : Nat) : Int) := by
      show ((⟨i, b, a + 1 + b⟩ : Nd).T : Int) = _
      rw [T_ab hi]
      push_cast
      rfl
    obtain ⟨o, ho, r⟩ := ht₅
    rw [← e1, ← e2] at r
    exact ⟨a₅, _, _, rfl, o, hG₅2 a₅ o (Nat.ne_of_gt (Nat.lt_of_lt_of_le S.lt ha₅)) (fun q => absurd (hdlt _ q) (Nat.not_lt.mpr ha₅)) ho, r⟩
  refine r_append Sv.here.2.2.2 (by rw [sizeLine_eq]; simp [vals2]; lia) fun h₆ hl₆ hs₆ => ?_
  rw [show (vals2 xs).push (.ref a₅) = vals2 (xs ++ [(.ref a₅, key2 ps ⟨i, b, a + 1 + b⟩)]) by simp [vals2]] at hl₆
  have n3 : it3 ≠ rw := fun e => hne3 (by simp [e])
  have n2 : it2 ≠ rw := fun e => hne2 (by simp [e])
  have n1 : it1 ≠ rw := fun e => hne (by simp [e])
  have Sw := Sv.same (d := rw) (P' := fun h => IsRangeIter h it3 ((b : Int) + 1) (((rowB ps most i a).length : Nat) - (b : Int) - 1) 1 ∧ IsRangeIter h it2 ((a : Int) + 1 + 1) (((most / ps.getD i 0).toNat : Nat) - (a : Int) - 1) 1 ∧ IsRangeIter h it1 ((i : Int) + 1) (((6 : Nat) : Int) - i - 1) 1 ∧ h.PlainList rw (vals2 (xs ++ [(.ref a₅, key2 ps ⟨i, b, a + 1 + b⟩)])))
    (by simp) hs₆ ⟨(hs₆.2 _ n3).trans Sv.here.1, (hs₆.2 _ n2).trans Sv.here.2.1, (hs₆.2 _ n1).trans Sv.here.2.2.1, hl₆⟩ (fun h h' x k => ⟨k it3 (.head _) _ x.1, dep2 (G₅, xs ++ [(.ref a₅, key2 ps ⟨i, b, a + 1 + b⟩)]) _ _ x.2 fun d hd => k d (.tail _ hd)⟩)
  walk_at "mw"
  have Sx := Sw.less (l := [("a", .int ((a : Int) + 1) ta), ("k", .int (i : Nat) t), ("beside", .int ((i + 1) % 6 : Nat) _), ("rows", .ref rw), ("lamps", .ref la), ("prices", .ref pr), ("most", .int most tm)]) ⟨rfl, rfl, rfl, rfl, rfl, rfl, rfl, trivial⟩
  refine ⟨.inl rfl, h₆, _, (G₅, xs ++ [(.ref a₅, key2 ps ⟨i, b, a + 1 + b⟩)]), rfl, ⟨kG₄.trans hG₅1, fun p hp => ?_, ?_⟩, Sx⟩
  · rcases List.mem_append.mp hp with hp | hp
    · exact (hT p hp).up hG₅1
    · rw [List.mem_singleton.mp hp]; exact hT5
  · rw [List.map_append, hx, List.take_add_one, hrowB b hb]
    simp
end
section
variable {prog : Program} {w : World} {A : Around} {s : Shared}
theorem isSame_flt {M : Model} {E : Value → Shared → Prop} {y z : UInt64} {u v : Tok} {Q : Bool → Shared → Prop} (hu : u ≠ 0) (hv : v ≠ 0) (hb : NoneBooked s.heap) (hq : ∀ b, Q b s) : wpAny M A (isSame (.float y u) (.float z v)) Q E s := by
  show wpAny M A (isSame.created (y == z && !Float64.isNaN y) u v) Q E s
  unfold isSame.created
  have h0 : (u == 0 || v == 0) = false := by
    rw [beq_false_of_ne hu, beq_false_of_ne hv]; rfl
  rw [if_neg (by rw [h0]; exact Bool.false_ne_true)]
  refine wpAny_ite ?_
  split
  · exact wpAny_pure (hq _)
  refine wpAny_ite ?_
  split
  · exact wpAny_pure (hq _)
  refine wpAny_bind (wpAny_sharingNotTold_none hb ?_)
  rw [if_neg Bool.false_ne_true]
  refine wpAny_bind (wpAny_sharingNotTold_none hb ?_)
  rw [if_neg Bool.false_ne_true]
  exact wpAny_bind (wpAny_rule (wpAny_bind (wpAny_askSetting (wpAny_pure (hq _)))))
theorem eqAt_one {t u : Tok} (ht : t ≠ 0) (hu : u ≠ 0) (hb : NoneBooked s.heap) : SeqAt.EqAt A s (.float 4607182418800017408 t) (.float 4607182418800017408 u) true := fun prog w E Q h => by
  unfold eqBool
  refine wpAny_holding ?_
  refine wpAny_ite_split (fun _ => wpAny_bind (wpAny_rule (wpAny_pure h))) (fun _ => ?_)
  refine wpAny_bind (isSame_flt ht hu hb fun b => ?_)
  cases b with
  | true => exact wpAny_pure h
  | false =>
    refine wpAny_bind (show wpAny (model prog w) A (compareOp .Eq (.float 4607182418800017408 t) (.float 4607182418800017408 u)) _ E s from AutoFloatOps.eq_0 ?_)
    rw [show (Float64.cmp 4607182418800017408 4607182418800017408 == some Ordering.eq) = true by decide +kernel]
    exact wpAny_truthy_bool h
theorem eqAt_int {a b : Int} (e : a = b) (t u : Tok) : SeqAt.EqAt A s (.int a t) (.int b u) true := by
  have := SeqAt.EqAt.int_int (A := A) (s := s) a t b u
  rw [show (a == b) = true by simpa using e] at this
  exact this
theorem perm_find {kvs : List (Int × Value)} {cs : List (Int × Int)} (h : Ivs kvs cs) (hn : (kvs.map (·.1)).Nodup) {k v : Int} (hm : (k, v) ∈ cs) : ∃ t, valueAt kvs k = some (.int v t) := by
  obtain ⟨i, hi, e⟩ := List.mem_iff_getElem.mp hm
  have hl := h.length
  obtain ⟨⟨k', v'⟩, hk⟩ : ∃ p, kvs[i]? = some p := ⟨_, List.getElem?_eq_getElem (by lia)⟩
  obtain ⟨x, t, rfl, hx⟩ := h.at hk
  rw [List.getElem?_eq_getElem hi, e] at hx
  cases hx
  exact ⟨t, valueAt_get hn hk⟩
theorem hits_of {A : Around} {kb : List (Int × Value)} {cb : List (Int × Int)} (hb : Ivs kb cb) (hn : (kb.map (·.1)).Nodup) : ∀ {ka : List (Int × Value)} {ca : List (Int × Int)}, Ivs ka ca → (∀ p ∈ ca, p ∈ cb) → KeqHits A s kb ka true
  | _, _, .nil, _ => .nil
  | _, _, .cons (k := k) (v := v) (t := t) r, hs => by
    obtain ⟨u, hu⟩ := perm_find hb hn (hs (k, v) (.head _))
    have := KeqHits.hit (A := A) (s := s) hu (eqAt_int (rfl : v = v) t u) (hits_of hb hn r fun p hp => hs p (.tail _ hp))
    simpa using this
theorem dictI_any {prog' : Program} {w' : World} {h : Heap} {d : Addr} {kvs : List (Int × Value)} (x : DictI prog w h d kvs) : DictI prog' w' h d kvs := by
  obtain ⟨o, es, ep, h1, h2, h3, h4, h5, h6⟩ := x
  refine ⟨o, es, ep, h1, h2, h3, h4, ?_, h6⟩
  generalize es.toList = l at h5
  clear h1 h2 h3 h4 h6
  induction h5 with
  | nil => exact .nil
  | cons a b _ ih => exact .cons a b ih
theorem eqAt_dict {a b : Addr} {ka kb : List (Int × Value)} {ca cb : List (Int × Int)} (ha : (a == sysModules) = false) (hb : (b == sysModules) = false) (da : DictI prog w s.heap a ka) (db : DictI prog w s.heap b kb) (ia : Ivs ka ca) (ib : Ivs kb cb) (hp : ca.Perm cb) (hu : A.units < cLine) :
    SeqAt.EqAt A s (.ref a) (.ref b) true := fun prog' w' E Q q => by
  by_cases hab : a = b
  · subst hab; exact SeqAt.EqAt.same _ prog' w' E Q q
  · unfold eqBool
    refine wpAny_holding ?_
    refine wpAny_ite_split (fun h => absurd (by have := eq_of_beq h; injection this) hab) (fun _ => ?_)
    refine wpAny_bind (show wpAny (model prog' w') A (compareOp .Eq (.ref a) (.ref b)) _ E s from keq_eq ha hb (dictI_any da) (dictI_any db) hu (fun _ => hits_of ib (dictI_nodup db) ia fun p hp' => hp.subset hp') ?_)
    rw [show (ka.length == kb.length) = true by rw [ia.length, ib.length, hp.length_eq]; exact beq_self_eq_true _]
    exact wpAny_truthy_bool q
theorem all_true (n : Nat) : (List.range n).all (fun _ => true) = true := by rw [List.all_eq_true]; intro _ _; rfl
theorem eqAt_sta {N₁ N₂ : Nat} {v v' : Value} {x y : Sta} (hx : StaAt prog w N₁ s.heap v x) (hy : StaAt prog w N₂ s.heap v' y) (e1 : x.cc = y.cc) (e2 : x.nc = y.nc) (e3 : x.tt = y.tt) (e4 : x.ct = y.ct) (hp : x.cs.Perm y.cs) (hu : A.units + 2 < cLine) : SeqAt.EqAt A s v v' true := by
  obtain ⟨a, d, t1, t2, t3, t4, kvs, rfl, _, _, ht, hd, hi, hs⟩ := hx
  obtain ⟨b, f, u1, u2, u3, u4, lvs, rfl, _, _, ht', hd', hi', hs'⟩ := hy
  by_cases hab : a = b
  · subst hab; exact SeqAt.EqAt.same _
  · have := SeqAt.RcAt.tuples (A := A) (e := fun _ => true) ht ht' (by lia) (fun j h1 h2 => by
      rcases (by simp at h1; lia : j = 0 ∨ j = 1 ∨ j = 2 ∨ j = 3 ∨ j = 4) with rfl | rfl | rfl | rfl | rfl
      · exact eqAt_int e1 _ _
      · exact eqAt_int e2 _ _
      · exact eqAt_int e3 _ _
      · exact eqAt_int e4 _ _
      · exact eqAt_dict hs hs' hd hd' hi hi' hp (by show A.units + 1 < cLine; lia))
    rw [all_true] at this
    exact .of_refs hab this
theorem eqAt_T2 {v v' : Value} {x : Int × Int} (hx : T2 s.heap v x) (hy : T2 s.heap v' x) (hu : A.units + 2 < cLine) : SeqAt.EqAt A s v v' true := by
  obtain ⟨a, t1, t2, rfl, ht⟩ := hx
  obtain ⟨b, u1, u2, rfl, ht'⟩ := hy
  by_cases hab : a = b
  · subst hab; exact SeqAt.EqAt.same _
  · have := SeqAt.RcAt.tuples (A := A) (e := fun _ => true) ht ht' (by lia) (fun j h1 h2 => by
      rcases (by simp at h1; lia : j = 0 ∨ j = 1) with rfl | rfl
      · exact eqAt_int rfl _ _
      · exact eqAt_int rfl _ _)
    rw [all_true] at this
    exact .of_refs hab this
end
section
variable {prog : Program} {w : World} {A : Around} {E : Value → Shared → Prop} {Q : Value → Shared → Prop} {h : Heap} {gn : Array GenState} {dr : Drawn} {tk : Nat} {os : OsState} {env : Env}
/-- two lists, equal item by item -/
theorem r_neSame {l b : Addr} {xs ys : Array Value} (hl : h.IsList l xs) (hb : h.IsList b ys) (hs : xs.size = ys.size) (hu : A.units < cLine) (he : ∀ j (h1 : j < xs.size) (h2 : j < ys.size), SeqAt.EqAt A.in1 ⟨h, gn, dr, tk, os⟩ xs[j] ys[j] true) (q : Q (.bool false) ⟨h, gn, dr, tk, os⟩) :
    wpAny (model prog w) A (compareOp .NotEq (.ref l) (.ref b)) Q E ⟨h, gn, dr, tk, os⟩ := by
  refine (SeqAt.RcNeAt.lists (s := ⟨h, gn, dr, tk, os⟩) (e := fun _ => true) hl hb hs hu he) prog w E Q ?_
  rw [all_true]
  exact q
theorem r_eqSame {l b : Addr} {xs ys : Array Value} (hl : h.IsList l xs) (hb : h.IsList b ys) (hs : xs.size = ys.size) (hu : A.units < cLine) (he : ∀ j (h1 : j < xs.size) (h2 : j < ys.size), SeqAt.EqAt A.in1 ⟨h, gn, dr, tk, os⟩ xs[j] ys[j] true) (q : Q (.bool true) ⟨h, gn, dr, tk, os⟩) :
    wpAny (model prog w) A (compareOp .Eq (.ref l) (.ref b)) Q E ⟨h, gn, dr, tk, os⟩ := by
  refine (SeqAt.RcAt.lists (s := ⟨h, gn, dr, tk, os⟩) (e := fun _ => true) hl hb hs hu he) prog w E Q ?_
  rw [all_true]
  exact q
/-- a slice without a step -/
theorem r_slice2 {value slice : PySem.Expr} {l sl : Addr} {items : Array Value} {vl vu vs : Value} {lo hi st : Option Int} (hl : h.IsList l items)
    (hs : h.IsSliceOf sl vl vu vs) (pl : IsPart vl lo) (pu : IsPart vu hi) (ps : IsPart vs st) (h0 : st ≠ some 0) (hz : items.size ≤ 2 ^ 20)
    (q : ∀ h' a, h.objs.size ≤ a → h'.PlainList a (slicePick items lo hi st) → Le h h' → Q (.ref a) ⟨h', gn, dr, tk, os⟩)
    (hsub : subscripted slice false (.ref l) (.ref sl) = operate [.ref sl, .ref l] (getItem (.ref l) (.ref sl)) := by kernel_rfl) :
    wpAny (model prog w) A (subscriptTail value slice (.ref l) (.ref sl)) Q E ⟨h, gn, dr, tk, os⟩ := by
  refine tail_any (s := ⟨h, gn, dr, tk, os⟩) (Heap.IsList.typeIs (s := ⟨h, gn, dr, tk, os⟩) hl) slot_list_getitem.lookup (wpAny_getItem_list_slice (s := ⟨h, gn, dr, tk, os⟩) hl hs pl pu ps h0 (q _ _ (Nat.le_refl _) ⟨_, Heap.get?_push_size _ rfl⟩ (Le.push _ _)) ?_) hsub
  rw [sizeLine_eq]; lia
end
theorem ge3 (a b : Nat) (h : a + 3 ≤ b) : b ≠ a ∧ b ≠ a + 1 ∧ b ≠ a + 1 + 1 := by lia
section
variable {prog : Program} {w : World} {A : Around} {E : Value → Shared → Prop} {h : Heap} {gn : Array GenState} {dr : Drawn} {tk : Nat} {os : OsState} {env : Env}
/-- a comprehension over a list, without tests -/
theorem e_compL {Q : Value → Shared → Prop} {elt iter : PySem.Expr} {x : Str} {px : Pos} {scope : Scope} {cl : List (Str × Addr)} {pos : Pos} {l : Addr} {items : Array Value} (hh : A.handled = none) (hl : h.IsList l items) (hn : items.size ≤ 2 ^ 20) (Y : Nat → Value → Heap → Prop)
    (hiter : ∀ Q', Q' (.ref l) ⟨h, gn, dr, tk, os⟩ → wpAny (model prog w) A (eval iter env) Q' E ⟨h, gn, dr, tk, os⟩)
    (ymono : ∀ j y h₁ h₂, Y j y h₁ → (∀ b o, h.objs.size + 3 ≤ b → h₁.get? b = some o → h₂.get? b = some o) → Y j y h₂)
    (elts : ∀ (j : Nat) v g' D P h₃ tk₃ (Q : Value → Shared → Prop) (E : Value → Shared → Prop), 0 < tk₃ → items[j]? = some v → Le h h₃ → h.objs.size + 3 ≤ h₃.objs.size → St g' (h.objs.size + 2) D P h₃ [(x, v)] →
      (∀ y h' tk', Y j y h' → Le h₃ h' → Q y ⟨h', gn, dr, tk', os⟩) → wpAny (model prog w) A (eval elt (compEnvC scope cl (h.objs.size + 2) env)) Q E ⟨h₃, gn, dr, tk₃, os⟩)
    (q : ∀ h' tk' (ys : List Value), Le h h' → h'.PlainList (h.objs.size + 1) ys.toArray → ys.length = items.size → (∀ (j : Nat) (y : Value), ys[j]? = some y → Y j y h') → Q (.ref (h.objs.size + 1)) ⟨h', gn, dr, tk', os⟩)
    (hclos : closureFor scope env = pure cl := by kernel_rfl) (hs : ∀ x, foldedSetIterable iter env x = pure x := by intro _; rfl)
    (hkind : scope.kind = .function := by kernel_rfl) (hnames : (scope.names.all fun x => x.2 != .local || scope.names.lookup x.1 == some .local) = true := by kernel_rfl)
    (hcell : (scope.names.all fun x => x.2 != .cell) = true := by kernel_rfl) (hx : scope.names.lookup x = some .local := by kernel_rfl) :
    wpAny (model prog w) A (eval (.ListComp elt [⟨.Name x px, iter, [], 0⟩] scope pos) env) Q E ⟨h, gn, dr, tk, os⟩ := by
  refine e_comp (hiter _ (wpAny_pyIter_list (s := ⟨h, gn, dr, tk, os⟩) hl ?_)) hclos hs hkind hnames
  have hlt := isList_lt hl
  have hitn : ∀ b o, h.get? b = some o → b ≠ h.objs.size := fun b o e => Nat.ne_of_lt (Heap.lt_size e)
  have hsz : ∀ o, (h.push o).objs.size = h.objs.size + 1 := fun o => Heap.size_push ..
  dsimp only
  refine (?_ : wpAny _ _ _ _ _ ⟨h.push _, gn, dr, tk, os⟩)
  have hLe := Le.push h { cls := .type "list_iterator", data := .fields #[.ref l, .int 0 0] }
  have hit0 : (h.push { cls := .type "list_iterator", data := .fields #[.ref l, .int 0 0] }).IsListIter h.objs.size l 0 := ⟨_, Heap.get?_push_size _ rfl, rfl, rfl⟩
  have hK : Le h (hideAll (h.push { cls := .type "list_iterator", data := .fields #[.ref l, .int 0 0] }) [h.objs.size]) := fun b o e => hideAll_get _ (Heap.get?_push_of_some _ e) (by simpa using hitn b o e)
  have hsz' := hsz { cls := .type "list_iterator", data := .fields #[.ref l, .int 0 0] }
  generalize h.push { cls := .type "list_iterator", data := .fields #[.ref l, .int 0 0] } = h₂ at hLe hit0 hK hsz' ⊢
  refine comp_turnsT (n := items.size) (Y := fun j v y h' => items[j]? = some v ∧ Y j y h') hn (by rw [hsz']; exact Nat.lt_succ_self _) hit0 (Wk.list hh (hK.list hl) (Nat.ne_of_lt hlt)) (fun j v y h₁ h₃ x kk => ⟨x.1, ymono j y h₁ h₃ x.2 fun b o hb e => kk b o (ge3 _ _ hb).1 (by rw [hsz']; exact (ge3 _ _ hb).2.1) (by rw [hsz']; exact (ge3 _ _ hb).2.2) e⟩) ?_ ?_ hcell hkind hx
  · intro j v ys h₃ tk₃ Q' E' hp hj hv S₃ q'
    have hlt3 := S₃.lt
    rw [hsz'] at S₃ hlt3 ⊢
    refine elts j v _ _ _ h₃ tk₃ Q' E' hp hv (hK.trans S₃.keep) hlt3 S₃ fun y h' tk' hy k => q' y h' tk' ⟨hv, hy⟩ k
  · intro h' tk' ys hb hl' hM
    rw [hsz'] at hl' ⊢
    obtain ⟨h1, h2⟩ := hM.all
    refine q h' tk' ys (fun b o e => hb b o (hitn b o e) (hLe b o e)) hl' h1 fun j y e => ?_
    obtain ⟨v, _, _, hy⟩ := h2 j y e
    exact hy
end
section
variable {prog : Program} {w : World} {A : Around} {E : Value → Shared → Prop} {mg mb : Str → Option Value} {fa : Nat → Addr} {g : Heap} {Q : Value → Shared → Prop} {h₀ : Heap} {gn : Array GenState} {dr : Drawn} {tk₀ : Nat} {os : OsState}
/-- the four cells of law -/
def Cells4 (L : Addr) (c1 c2 c3 c4 : Option Value) (h : Heap) : Prop := h.IsCell (L + 1) c1 ∧ h.IsCell (L + 2) c2 ∧ h.IsCell (L + 3) c3 ∧ h.IsCell (L + 4) c4
theorem cells4_dep {L : Addr} {c1 c2 c3 c4 : Option Value} (h h' : Heap) (x : Cells4 L c1 c2 c3 c4 h) (k : ∀ d ∈ [L + 1, L + 2, L + 3, L + 4], ∀ o, h.get? d = some o → h'.get? d = some o) : Cells4 L c1 c2 c3 c4 h' :=
  ⟨cell_dep x.1 (k _ (by simp)), cell_dep x.2.1 (k _ (by simp)), cell_dep x.2.2.1 (k _ (by simp)), cell_dep x.2.2.2 (k _ (by simp))⟩
theorem cell_lt {h : Heap} {c : Addr} {v : Option Value} (x : h.IsCell c v) : c < h.objs.size := let ⟨_, ho, _⟩ := x; Heap.lt_size ho
theorem intsL_on {g h : Heap} {l : Addr} {ns : List Int} (x : IntsL g l ns) (k : ∀ o, g.get? l = some o → h.get? l = some o) : IntsL h l ns := let ⟨vs, ⟨n, e⟩, r⟩ := x; ⟨vs, ⟨n, k _ e⟩, r⟩
theorem one_test {M : Model} {c : PySem.Expr} {env : Env} {Q : Bool → Shared → Prop} {s : Shared} (h : wpAny M A (isTrue c env (eval c env)) Q E s) :
    wpAny M A (forIn [c] true fun c r => if r = true then do let ok ← isTrue c env (eval c env); pure (ForInStep.yield ok) else pure (ForInStep.yield r)) Q E s := by
  rw [List.forIn_cons]
  simp only [if_true]
  refine wpAny_bind (wpAny_bind (wpAny_mono h (fun ok s' hq => wpAny_pure ?_) fun _ _ x => x))
  dsimp only
  rw [List.forIn_nil]
  exact wpAny_pure hq
theorem kept_pos : ∀ n : Nat, kept (fun i => decide (i ≠ 0)) (n + 1) = (List.range n).map (· + 1)
  | 0 => rfl
  | n + 1 => by
    rw [kept_succ, kept_pos n, List.range_succ, List.map_append]
    simp
theorem T_ne_zero {v : Nd} (h : v.ok) (h0 : 0 < v.n) (hn : v.n ≤ 13) : v.T ≠ 0 := fun e => by
  have := T_inj h (.inl rfl : zero.ok) hn (Nat.zero_le _) (e.trans (show zero.T = 0 from rfl).symm)
  rw [this] at h0
  exact absurd h0 (Nat.lt_irrefl _)
theorem r_fltT {M : Model} {env : Env} {h : Heap} {tk : Nat} {y : UInt64} {kd : Nat} {pos : Pos} (q : Q (.float y tk) ⟨h, gn, dr, tk + 1, os⟩) : wpAny M A (eval (.Constant (.float y) kd pos) env) Q E ⟨h, gn, dr, tk, os⟩ := fun _ _ _ => q
theorem r_itemNeg {value slice : PySem.Expr} {h : Heap} {tk : Nat} {l : Addr} {items : Array Value} {k : Int} {u : Tok} {v : Value}
    (hl : h.IsList l items) (h1 : k < 0) (h2 : -(items.size : Int) ≤ k) (hx : items[(k + items.size).toNat]? = some v) (hhi : items.size < 2 ^ 60) (q : Q v ⟨h, gn, dr, tk, os⟩)
    (hs : subscripted slice false (.ref l) (.int k u) = operate [.ref l, .int k u] (getItem (.ref l) (.int k u)) := by kernel_rfl) :
    wpAny (model prog w) A (subscriptTail value slice (.ref l) (.int k u)) Q E ⟨h, gn, dr, tk, os⟩ :=
  tail_any (s := ⟨h, gn, dr, tk, os⟩) (Heap.IsList.typeIs (s := ⟨h, gn, dr, tk, os⟩) hl) slot_list_getitem.lookup (wpAny_getItem_list_neg (s := ⟨h, gn, dr, tk, os⟩) hl h1 (by lia) (by lia) hx q) hs
theorem all_n {ps : List Int} {us : List Nd} {ms : List R4} (I : Inv ps us ms) (S : Settled ps) {w v : Nd} (hw : w ∈ us) (hv : v ∈ allOf ps (w.C ps)) : v.n ≤ us.length + 1 := by
  obtain ⟨o1, o2, o3⟩ := (mem_all S).mp hv
  have h0 := n_pos o1 o2
  obtain ⟨h1, h2⟩ := o1.pos (by lia)
  have hlast := last_s h0
  obtain ⟨p1, p2, p3⟩ := Nd.pred_ok o1 hlast
  have pc := Nd.pred_C S o1 hlast
  have pp := (S.pos h1).1
  have hin : v.pred v.s ∈ zero :: us := by
    by_cases h : v.pred v.s ∈ zero :: us
    · exact h
    · have := I.out _ p1 h w hw
      unfold le2 at this
      lia
  have := (I.okz hin).2
  lia
theorem C_small {ps : List Int} (S : Settled ps) {v : Nd} (h : v.ok) (h0 : 0 < v.n) (hn : v.n ≤ 12) : 0 ≤ v.C ps ∧ v.C ps < 2 ^ 20 := by
  obtain ⟨h1, h2⟩ := h.pos (by lia)
  have b1 := S.pos h1
  have b2 := S.pos (show (v.s + 1) % 6 < 6 by lia)
  unfold Nd.C priceOf
  have a1 : 0 ≤ ((v.n : Int) - v.i) * ps.getD v.s 0 := Int.mul_nonneg (by lia) (by lia)
  have a2 : ((v.n : Int) - v.i) * ps.getD v.s 0 ≤ 12 * 12 := Int.mul_le_mul (by lia) (by lia) (by lia) (by decide)
  have a3 : 0 ≤ (v.i : Int) * ps.getD ((v.s + 1) % 6) 0 := Int.mul_nonneg (by lia) (by lia)
  have a4 : (v.i : Int) * ps.getD ((v.s + 1) % 6) 0 ≤ 12 * 12 := Int.mul_le_mul (by lia) (by lia) (by lia) (by decide)
  lia
theorem ne_two (L a b : Nat) (h : a ≠ b) : L + a ≠ L + b := by lia
set_option maxHeartbeats 4000000 in
theorem law_spec {sc : Addr} {vs : List Value} {ns : List Int}
    (B : Base mg mb fa g) (k : Le g h₀) (hsc : h₀.IsList sc vs.toArray) (hi : IntsAre vs ns) (hlen : vs.length ≤ 2 ^ 20)
    (hh : A.handled = none) (hd : A.depth + 16 < recursionLimit) (hu : A.units + 1024 < cLine)
    (q : ∀ h' tk, Le h₀ h' → Q (.bool true) ⟨h', gn, dr, tk, os⟩) :
    wpAny (model prog w) A (call (.ref (fa 20)) [.ref sc]) Q E ⟨h₀, gn, dr, tk₀, os⟩ := by
  refine call_fnC 20 (binds := [("script", .ref sc)]) B k (by lia) rfl (fun h₁ cd tk₁ hns hk₁ hce => ?_)
  have hc1 : h₁.IsCell (h₀.objs.size + 1) none := hce "prices" (h₀.objs.size + 1) (by kernel_rfl)
  have hc2 : h₁.IsCell (h₀.objs.size + 2) none := hce "book" (h₀.objs.size + 2) (by kernel_rfl)
  have hc3 : h₁.IsCell (h₀.objs.size + 3) none := hce "come" (h₀.objs.size + 3) (by kernel_rfl)
  have hc4 : h₁.IsCell (h₀.objs.size + 4) none := hce "told" (h₀.objs.size + 4) (by kernel_rfl)
  have hloc : Loc h₁ h₀.objs.size [("script", .ref sc)] := ⟨_, hns, fun x v e => by
    have hx : x = "script" ∧ v = .ref sc := by
      rw [List.lookup_cons] at e
      cases h : x == "script" with
      | true => rw [h] at e; cases e; exact ⟨eq_of_beq h, rfl⟩
      | false => rw [h] at e; cases e
    obtain ⟨rfl, rfl⟩ := hx
    kernel_rfl⟩
  have none_at : ∀ a, h₀.objs.size ≤ a → h₀.get? a = none := fun a ha => by
    cases e : h₀.get? a with
    | none => rfl
    | some o => exact absurd (Heap.lt_size e) (Nat.not_lt.mpr ha)
  have S : St h₀ h₀.objs.size [h₀.objs.size + 1, h₀.objs.size + 2, h₀.objs.size + 3, h₀.objs.size + 4] (Cells4 h₀.objs.size none none none none) h₁ [("script", .ref sc)] :=
    { loc := hloc, keep := hk₁, offL := none_at _ (Nat.le_refl _)
      offD := fun d hd => by
        simp at hd
        rcases hd with rfl | rfl | rfl | rfl <;> exact ⟨none_at _ (Nat.le_add_right _ _), ne_add _ _ (by decide)⟩
      dep := cells4_dep
      here := ⟨hc1, hc2, hc3, hc4⟩ }
  have BG : Base mg mb fa h₀ := B.up k
  have hh' : ∀ env, (A.deeper env).handled = none := fun _ => hh
  have hdep1 : (A.deeper (envOfC (fn 20).name (fn 20).scope h₀.objs.size (fa 20) cd)).depth = A.depth + 1 := rfl
  have hun1 : (A.deeper (envOfC (fn 20).name (fn 20).scope h₀.objs.size (fa 20) cd)).units = A.units + 3 := rfl
  have hcl : ∀ c ∈ [h₀.objs.size + 1, h₀.objs.size + 2, h₀.objs.size + 3, h₀.objs.size + 4], c < h₁.objs.size := by
    intro c hc
    simp at hc
    rcases hc with rfl | rfl | rfl | rfl
    · exact cell_lt hc1
    · exact cell_lt hc2
    · exact cell_lt hc3
    · exact cell_lt hc4
  clear hce hns hloc hc1 hc2 hc3 hc4
  generalize hL : h₀.objs.size = L at S hdep1 hun1 hcl ⊢
  have hLt := S.lt
  walk_at "mw"
  refine e_fn 13 BG S.keep ?_
  walk_at "mw"
  refine ⟨S.keep, ?_⟩
  refine prices_spec BG S.keep (S.keep.list hsc) hi hlen (hh' _) (by rw [hdep1]; lia) fun h₂ tk₂ pr ps hprb S₀ hpr k₂ => ?_
  have S₂ := S.grow k₂
  refine r_stC S₂.here.1 fun h₃ hc₃ hs₃ => ?_
  have c12 := ne_two L 1 2 (by decide)
  have c13 := ne_two L 1 3 (by decide)
  have c14 := ne_two L 1 4 (by decide)
  have c23 := ne_two L 2 3 (by decide)
  have c24 := ne_two L 2 4 (by decide)
  have c34 := ne_two L 3 4 (by decide)
  have prc : ∀ c ∈ [L + 1, L + 2, L + 3, L + 4], pr ≠ c := fun c hc => Nat.ne_of_gt (Nat.lt_of_lt_of_le (hcl c hc) hprb)
  have S₃ := S₂.same (P' := Cells4 L (some (.ref pr)) none none none) (by simp : L + 1 ∈ [L + 1, L + 2, L + 3, L + 4]) hs₃
    ⟨hc₃, cell_dep S₂.here.2.1 fun o e => (hs₃.2 _ (Ne.symm c12)).trans e, cell_dep S₂.here.2.2.1 fun o e => (hs₃.2 _ (Ne.symm c13)).trans e, cell_dep S₂.here.2.2.2 fun o e => (hs₃.2 _ (Ne.symm c14)).trans e⟩ cells4_dep
  have hpr₃ : IntsL h₃ pr ps := intsL_on hpr fun o e => (hs₃.2 _ (prc _ (by simp))).trans e
  clear S S₂ hs₃ hc₃ hpr
  dsimp only
  walk_at "mw"
  refine e_fn 16 BG S₃.keep ?_
  refine args_cons ?_ (by kernel_rfl)
  refine r_ldC S₃.here.1 ?_
  walk_at "mw"
  refine e_bi BG S₃.keep boot_len ?_
  walk_at "mw"
  have hsz : vs.toArray.size = ns.length := by simpa using hi.length
  refine r_len (S₃.keep.list hsc) (by rw [List.size_toArray]; lia) fun t4 tk4 => ?_
  rw [hsz]
  walk_at "mw"
  refine r_mod (by decide) fun _ _ => ?_
  walk_at "mw"
  refine ⟨S₃.keep, ?_⟩
  have hwish : (8 : Int) + Int.fmod ((ns.length : Nat) : Int) 5 = ((8 + ns.length % 5 : Nat) : Int) := by rw [Int.fmod_eq_emod_of_nonneg _ (by decide)]; lia
  rw [hwish]
  have hw12 : 8 + ns.length % 5 ≤ 12 := by lia
  have hw8 : 8 ≤ 8 + ns.length % 5 := Nat.le_add_right _ _
  generalize 8 + ns.length % 5 = wish at hw12 hw8
  refine walk_spec BG S₃.keep hpr₃ S₀ (by lia) hw12 (hh' _) (by rw [hdep1]; lia) (by rw [hun1]; lia) fun h₄ tk₄ bk us ms kvs hbk I hul hkv hbook k₄ => ?_
  have S₄ := S₃.grow k₄
  refine r_stC S₄.here.2.1 fun h₅ hc₅ hs₅ => ?_
  have hcl₃ : ∀ c ∈ [L + 1, L + 2, L + 3, L + 4], c < h₃.objs.size := by
    intro c hc
    simp at hc
    rcases hc with rfl | rfl | rfl | rfl
    · exact cell_lt S₃.here.1
    · exact cell_lt S₃.here.2.1
    · exact cell_lt S₃.here.2.2.1
    · exact cell_lt S₃.here.2.2.2
  have bkc : ∀ c ∈ [L + 1, L + 2, L + 3, L + 4], bk ≠ c := fun c hc => Nat.ne_of_gt (Nat.lt_of_lt_of_le (hcl₃ c hc) hbk)
  have S₅ := S₄.same (P' := Cells4 L (some (.ref pr)) (some (.ref bk)) none none) (by simp : L + 2 ∈ [L + 1, L + 2, L + 3, L + 4]) hs₅
    ⟨cell_dep S₄.here.1 fun o e => (hs₅.2 _ c12).trans e, hc₅, cell_dep S₄.here.2.2.1 fun o e => (hs₅.2 _ (Ne.symm c23)).trans e, cell_dep S₄.here.2.2.2 fun o e => (hs₅.2 _ (Ne.symm c24)).trans e⟩ cells4_dep
  obtain ⟨G, hG1, hG2, Sa⟩ := S₅.re [L + 1, L + 2, L + 3, L + 4] _ S₅.here cells4_dep (fun d hd => ⟨(S₅.offD d hd).2, (S₅.offD d hd).1⟩)
  have hhi : ∀ b o, h₃.objs.size ≤ b → h₄.get? b = some o → G.get? b = some o := fun b o hb e => by
    have hn : ∀ c ∈ [L + 1, L + 2, L + 3, L + 4], b ≠ c := fun c hc => Nat.ne_of_gt (Nat.lt_of_lt_of_le (hcl₃ c hc) hb)
    exact hG2 b o (Nat.ne_of_gt (Nat.lt_of_lt_of_le S₃.lt hb)) (fun hm => hn b hm rfl) ((hs₅.2 b (hn _ (by simp))).trans e)
  have gpr : IntsL G pr ps := intsL_on (hpr₃.up k₄) fun o e => hG2 pr o (Nat.ne_of_gt (Nat.lt_of_lt_of_le hLt hprb)) (fun hm => prc pr hm rfl) ((hs₅.2 _ (prc _ (by simp))).trans e)
  have gbk : DictI prog w G bk kvs := hkv.at fun o e => hhi bk o hbk e
  have gbook : BookIs prog w h₃.objs.size G ps us kvs := ⟨hbook.1, fun i k' v n e1 e2 => let ⟨ks, a, b⟩ := hbook.2 i k' v n e1 e2; ⟨ks, a, b.on hhi⟩⟩
  have hsys : sysModules < bk := Nat.lt_of_lt_of_le (BG.size_le S₃.keep) hbk
  have hbkS := ne_sys hsys
  have BGG : Base mg mb fa G := BG.up hG1
  have hkl : kvs.length = us.length + 1 := by simpa using congrArg List.length gbook.1
  have hkey : ∀ (i : Nat) (p : Int × Value), kvs[i]? = some p → ∃ v, (zero :: us)[i]? = some v ∧ p.1 = ((v.T : Nat) : Int) := fun i p e => by
    have h1 : (kvs.map (·.1))[i]? = some p.1 := by rw [List.getElem?_map, e]; rfl
    rw [gbook.1, List.getElem?_map] at h1
    cases hz : (zero :: us)[i]? with
    | none => rw [hz] at h1; cases h1
    | some v => rw [hz] at h1; exact ⟨v, rfl, by injection h1 with h1; exact h1.symm⟩
  have husn : ∀ v ∈ us, v.ok ∧ 0 < v.n ∧ v.n ≤ 12 := fun v hv => by have := I.ok v hv; exact ⟨this.1, this.2.1, by lia⟩
  clear S₄ S₅ hG2 hhi hs₅ hc₅ hkv hbook
  dsimp only
  walk_at "mw"
  refine e_comp (cl := []) ?_
  refine r_ldC Sa.here.2.1 ?_
  obtain ⟨ep, hda⟩ := gbk.dictAt
  refine wpAny_pyIter_dict (s := ⟨h₅, gn, dr, _, os⟩) hbkS (Sa.keep.dictAt hda) ?_
  have hitn : ∀ b o, h₅.get? b = some o → b ∉ [h₅.objs.size] := fun b o e q => by
    rw [List.mem_singleton.mp q] at e; exact absurd (Heap.lt_size e) (Nat.lt_irrefl _)
  have hK : Le h₅ (hideAll (h₅.push { cls := .type "dict_keyiterator", data := .fields #[.ref bk, .int 0 0, .int kvs.length 0, .int ep 0] }) [h₅.objs.size]) := fun b o e => hideAll_get _ (Heap.get?_push_of_some _ e) (hitn b o e)
  have hit1 : h₅.objs.size < (h₅.push { cls := .type "dict_keyiterator", data := .fields #[.ref bk, .int 0 0, .int kvs.length 0, .int ep 0] }).objs.size := by rw [Heap.size_push]; exact Nat.lt_succ_self _
  have hit0 : (h₅.push { cls := .type "dict_keyiterator", data := .fields #[.ref bk, .int 0 0, .int kvs.length 0, .int ep 0] }).IsKeyIter h₅.objs.size bk 0 kvs.length ep := ⟨_, Heap.get?_push_size _ rfl, rfl, rfl⟩
  have hdne : bk ≠ h₅.objs.size := Nat.ne_of_lt (dictI_lt (gbk.keep Sa.keep))
  have hLe₂ := Le.push h₅ { cls := .type "dict_keyiterator", data := .fields #[.ref bk, .int 0 0, .int kvs.length 0, .int ep 0] }
  dsimp only
  generalize h₅.push { cls := .type "dict_keyiterator", data := .fields #[.ref bk, .int 0 0, .int kvs.length 0, .int ep 0] } = h₆ at hK hit1 hit0 hLe₂ ⊢
  refine comp_turns (fun i => decide (i ≠ 0)) (fun j v y _ => ∃ p t, kvs[j]? = some p ∧ y = .int p.1 t) (by lia) hit1 hit0 (Wk.keys (hh' _) ((Sa.keep.trans hK).dictAt hda) hdne) (fun _ _ _ _ _ x _ => x) ?_ ?_ ?_
  · rintro i v ys h₇ tk₇ Q' E' hi ⟨p, tp, hp, rfl⟩ S₇ q'
    refine one_test ?_
    obtain ⟨v, hv, hpv⟩ := hkey i p hp
    have hpt : (p.1 != 0) = decide (i ≠ 0) := by
      cases i with
      | zero => cases hv; rw [hpv]; rfl
      | succ i =>
        have hm := List.mem_of_getElem? (show us[i]? = some v by simpa using hv)
        obtain ⟨o1, o2, o3⟩ := husn v hm
        have hne := T_ne_zero o1 o2 (by lia)
        rw [hpv, decide_eq_true (by lia)]
        simp
        lia
    walk_at "mw"
    refine ne_int ?_
    rw [hpt]
    walk_at "mw"
    exact q' _
  · rintro i v ys h₇ tk₇ Q' E' hi ⟨p, tp, hp, rfl⟩ _ S₇ q'
    walk_at "mw"
    exact q' _ _ _ ⟨p, tp, hp, rfl⟩ (Le.refl _)
  intro h₇ tk₇ ys hb₇ hl₇ hM
  have hcome : IntsL h₇ h₆.objs.size (us.map fun v => ((v.T : Nat) : Int)) := by
    obtain ⟨hyl, hyv⟩ := hM
    rw [hkl, kept_pos] at hyl hyv
    refine ⟨ys, hl₇, intsAre_of (by simpa using hyl) fun j y e => ?_⟩
    have hj : j < us.length := by have := (List.getElem?_eq_some_iff.mp e).1; simpa [hyl] using this
    obtain ⟨_, _, p, t, hp, rfl⟩ := hyv j y (j + 1) e (by rw [List.getElem?_map, List.getElem?_range hj]; rfl)
    obtain ⟨v, hv, hpv⟩ := hkey (j + 1) p hp
    have hv : us[j]? = some v := by simpa using hv
    exact ⟨t, by rw [hpv]; simp [List.getD, hv]⟩
  have k₇ : Le h₅ h₇ := fun b o e => hb₇ b o (fun q => hitn b o e (by simp [q])) (hLe₂ b o e)
  have S₇ := Sa.grow k₇
  have hcl₅ : ∀ c ∈ [L + 1, L + 2, L + 3, L + 4], c < h₅.objs.size := by
    intro c hc
    simp at hc
    rcases hc with rfl | rfl | rfl | rfl
    · exact cell_lt Sa.here.1
    · exact cell_lt Sa.here.2.1
    · exact cell_lt Sa.here.2.2.1
    · exact cell_lt Sa.here.2.2.2
  have hL5 : L < h₅.objs.size := Sa.lt
  have h56 : h₅.objs.size < h₆.objs.size := hit1
  clear hM hb₇ hl₇ hK hit0 hit1 hLe₂ hitn
  generalize h₆.objs.size = ca at hcome h56 ⊢
  have cac : ∀ c ∈ [L + 1, L + 2, L + 3, L + 4], ca ≠ c := fun c hc => Nat.ne_of_gt (Nat.lt_trans (hcl₅ c hc) h56)
  have caL : ca ≠ L := Nat.ne_of_gt (Nat.lt_trans hL5 h56)
  refine r_stC S₇.here.2.2.1 fun h₈ hc₈ hs₈ => ?_
  have S₈ := S₇.same (P' := Cells4 L (some (.ref pr)) (some (.ref bk)) (some (.ref ca)) none) (by simp : L + 3 ∈ [L + 1, L + 2, L + 3, L + 4]) hs₈
    ⟨cell_dep S₇.here.1 fun o e => (hs₈.2 _ c13).trans e, cell_dep S₇.here.2.1 fun o e => (hs₈.2 _ c23).trans e, hc₈, cell_dep S₇.here.2.2.2 fun o e => (hs₈.2 _ (Ne.symm c34)).trans e⟩ cells4_dep
  obtain ⟨G₂, hG₂1, hG₂2, Sb⟩ := S₈.re [L + 1, L + 2, L + 3, L + 4] _ S₈.here cells4_dep (fun d hd => ⟨(S₈.offD d hd).2, (S₈.offD d hd).1⟩)
  have gcome : IntsL G₂ ca (us.map fun v => ((v.T : Nat) : Int)) := intsL_on hcome fun o e => hG₂2 ca o caL (fun hm => cac ca hm rfl) ((hs₈.2 _ (cac _ (by simp))).trans e)
  have B₂ : Base mg mb fa G₂ := BGG.up hG₂1
  clear S₇ S₈ hcome hc₈ hs₈ hG₂2 Sa
  walk_at "mw"
  obtain ⟨citems, hci, hcs, hcg⟩ := gcome.get
  have hcs' : citems.size = us.length := by simpa using hcs
  have hcv : ∀ (j : Nat) (v : Value), citems[j]? = some v → ∃ u t, us[j]? = some u ∧ v = .int ((u.T : Nat) : Int) t := fun j v e => by
    have hj : j < us.length := by have := (Array.getElem?_eq_some_iff.mp e).1; lia
    obtain ⟨t, ht⟩ := hcg j _ (show (us.map fun v => ((v.T : Nat) : Int))[j]? = some (((us[j].T : Nat) : Int)) by rw [List.getElem?_map, List.getElem?_eq_getElem hj]; rfl)
    rw [e] at ht
    cases ht
    exact ⟨us[j], t, List.getElem?_eq_getElem hj, rfl⟩
  refine e_compL (cl := [("prices", L + 1)]) (hh' _) (Sb.keep.list hci) (by lia) (fun j y h => ∃ v a t1 t2 bv, us[j]? = some v ∧ y = .ref a ∧ h₈.objs.size + 3 ≤ a ∧ t1 ≠ 0 ∧ h.IsTuple a #[.float 4607182418800017408 t1, .int (v.C ps) t2, bv] ∧ StaAt prog w (h₈.objs.size + 3) h bv (toldSta ps v.s v.i v.n))
    (fun Q' hq => r_ldC Sb.here.2.2.1 hq) ?_ ?_ ?_
  · rintro j y ha hb ⟨v, a, t1, t2, bv, e1, e2, e3, e4, ⟨o, ho, r⟩, e6⟩ kk
    exact ⟨v, a, t1, t2, bv, e1, e2, e3, e4, ⟨o, kk a o e3 ho, r⟩, e6.on fun b o hb e => kk b o hb e⟩
  · rintro j v g' D' P' h₉ tk₉ Q' E' hp hv k₉ hN S₉ q'
    obtain ⟨u, t, hu, rfl⟩ := hcv j v hv
    obtain ⟨o1, o2, o3⟩ := husn u (List.mem_of_getElem? hu)
    obtain ⟨o4, o5⟩ := o1.pos (by lia)
    refine e_fn 18 (B₂.up (Sb.keep.trans k₉)) (Le.refl _) ?_
    walk_at "mw"
    refine r_ldC (Sb.here.1.keeps k₉) ?_
    walk_at "mw"
    refine ⟨Le.refl _, ?_⟩
    refine told_spec (s := u.s) (i := u.i) (n := u.n) (B₂.up (Sb.keep.trans k₉)) (Le.refl _) ((gpr.up hG₂1).up (Sb.keep.trans k₉)) S₀.len (fun p hp => by have := S₀.bnd p hp; lia) o4 o5 o3 (hh' _) (by rw [hdep1]; lia) fun h_a tk_a a bv t1 t2 ha ht1 hta hst ka => ?_
    exact q' _ _ _ ⟨u, a, t1, t2, bv, hu, rfl, Nat.le_trans hN ha, ht1, hta, hst.low hN⟩ ka
  intro h₉ tk₉ ts k₉ hl₉ htl htv
  have cl₈ : ∀ c ∈ [L + 1, L + 2, L + 3, L + 4], c < h₈.objs.size := by
    intro c hc
    simp at hc
    rcases hc with rfl | rfl | rfl | rfl
    · exact cell_lt Sb.here.1
    · exact cell_lt Sb.here.2.1
    · exact cell_lt Sb.here.2.2.1
    · exact cell_lt Sb.here.2.2.2
  have hL8 : L < h₈.objs.size := Sb.lt
  have S₉ := Sb.grow k₉
  generalize h₈.objs.size = n₈ at hl₉ htv cl₈ hL8 ⊢
  have nc : ∀ b, n₈ ≤ b → ∀ c ∈ [L + 1, L + 2, L + 3, L + 4], b ≠ c := fun b hb c hc => Nat.ne_of_gt (Nat.lt_of_lt_of_le (cl₈ c hc) hb)
  have nL : ∀ b, n₈ ≤ b → b ≠ L := fun b hb => Nat.ne_of_gt (Nat.lt_of_lt_of_le hL8 hb)
  refine r_stC S₉.here.2.2.2 fun h_a hc_a hs_a => ?_
  have S_a := S₉.same (P' := Cells4 L (some (.ref pr)) (some (.ref bk)) (some (.ref ca)) (some (.ref (n₈ + 1)))) (by simp : L + 4 ∈ [L + 1, L + 2, L + 3, L + 4]) hs_a
    ⟨cell_dep S₉.here.1 fun o e => (hs_a.2 _ c14).trans e, cell_dep S₉.here.2.1 fun o e => (hs_a.2 _ c24).trans e, cell_dep S₉.here.2.2.1 fun o e => (hs_a.2 _ c34).trans e, hc_a⟩ cells4_dep
  obtain ⟨G₃, hG₃1, hG₃2, Sc⟩ := S_a.re [] (fun _ => True) trivial (fun _ _ _ _ => trivial) (by simp)
  have up9 : ∀ b o, n₈ ≤ b → h₉.get? b = some o → G₃.get? b = some o := fun b o hb e => hG₃2 b o (nL b hb) (by simp) ((hs_a.2 b (nc b hb _ (by simp))).trans e)
  have gc1 : G₃.IsCell (L + 1) (some (.ref pr)) := cell_dep S_a.here.1 fun o e => hG₃2 _ o (ne_add _ _ (by decide)) (by simp) e
  have gc2 : G₃.IsCell (L + 2) (some (.ref bk)) := cell_dep S_a.here.2.1 fun o e => hG₃2 _ o (ne_add _ _ (by decide)) (by simp) e
  have gc3 : G₃.IsCell (L + 3) (some (.ref ca)) := cell_dep S_a.here.2.2.1 fun o e => hG₃2 _ o (ne_add _ _ (by decide)) (by simp) e
  have gc4 : G₃.IsCell (L + 4) (some (.ref (n₈ + 1))) := cell_dep S_a.here.2.2.2 fun o e => hG₃2 _ o (ne_add _ _ (by decide)) (by simp) e
  have gtl : G₃.PlainList (n₈ + 1) ts.toArray := let ⟨n, e⟩ := hl₉; ⟨n, up9 _ _ (Nat.le_succ _) e⟩
  have gtv : ∀ (j : Nat) (u : Nd), us[j]? = some u → ∃ a t1 t2 bv, ts[j]? = some (.ref a) ∧ t1 ≠ 0 ∧ G₃.IsTuple a #[.float 4607182418800017408 t1, .int (u.C ps) t2, bv] ∧ StaAt prog w (n₈ + 3) G₃ bv (toldSta ps u.s u.i u.n) := fun j u hu => by
    have hj : j < us.length := (List.getElem?_eq_some_iff.mp hu).1
    obtain ⟨y, hy⟩ : ∃ y, ts[j]? = some y := ⟨_, List.getElem?_eq_getElem (show j < ts.length by lia)⟩
    obtain ⟨v, a, t1, t2, bv, e1, e2, e3, e4, ⟨o, ho, r⟩, e6⟩ := htv j y hy
    rw [hu] at e1
    cases e1
    have : n₈ ≤ n₈ + 3 := Nat.le_add_right _ _
    exact ⟨a, t1, t2, bv, by rw [hy, e2], e4, ⟨o, up9 a o (Nat.le_trans this e3) ho, r⟩, e6.on fun b o hb e => up9 b o (Nat.le_trans this hb) e⟩
  have kG₃ : Le G G₃ := hG₂1.trans hG₃1
  have B₃ : Base mg mb fa G₃ := BGG.up kG₃
  clear S₉ S_a hs_a hc_a hG₃2 up9 htv hl₉ Sb
  dsimp only
  walk_at "m1"
  refine e_compA (cl := [("told", L + 4), ("come", L + 3)]) ?_
  refine e_ty B₃ Sc.keep boot_range ?_
  walk_at "mw"
  refine e_bi B₃ Sc.keep boot_len ?_
  walk_at "mw"
  refine r_ldC (gc3.keeps Sc.keep) ?_
  walk_at "mw"
  have hci₃ : G₃.IsList ca citems := hG₃1.list hci
  refine r_len (Sc.keep.list hci₃) (by lia) fun _ _ => ?_
  rw [hcs']
  walk_at "mw"
  refine r_range1 fun h_b tk_b r t₀ t₁ hr k_b => ?_
  have Sd := Sc.grow k_b
  refine r_iterRange hr (by decide) (by decide) (by lia) (by lia) ?_
  rw [show (((us.length : Nat) : Int) - 0).toNat = us.length by lia]
  have hK : Le h_b (hideAll (h_b.push (iterObj 0 ((us.length : Nat) : Int) 1)) [h_b.objs.size]) := fun b o e => hideAll_get _ (Heap.get?_push_of_some _ e) (by
    intro q; rw [List.mem_singleton.mp q] at e; exact absurd (Heap.lt_size e) (Nat.lt_irrefl _))
  have hit1 : h_b.objs.size < (h_b.push (iterObj 0 ((us.length : Nat) : Int) 1)).objs.size := by rw [Heap.size_push]; exact Nat.lt_succ_self _
  have hit0 : IsRangeIter (h_b.push (iterObj 0 ((us.length : Nat) : Int) 1)) h_b.objs.size 0 ((us.length : Nat) : Int) 1 := Heap.get?_push_size _ rfl
  have hlow : ∀ b o, h_b.get? b = some o → b ≠ h_b.objs.size := fun b o e => Nat.ne_of_lt (Heap.lt_size e)
  have hLe₂ := Le.push h_b (iterObj 0 ((us.length : Nat) : Int) 1)
  have hLb := Sd.lt
  have hG3lt : ∀ b o, G₃.get? b = some o → b < h_b.objs.size := fun b o e => Heap.lt_size (Sd.keep b o e)
  generalize h_b.push (iterObj 0 ((us.length : Nat) : Int) 1) = h_c at hK hit1 hit0 hLe₂ ⊢
  generalize h_b.objs.size = it at hK hit1 hit0 hlow hLb hG3lt ⊢
  refine comp_turnsA (Pv := fun i v => ∃ t, v = .int ((0 : Int) + i) t) (OI := fun i h => IsRangeIter h it (0 + i) (((us.length : Nat) : Int) - i) 1) (n := us.length) (fun _ => true)
    (fun j v y h => ∃ u a t1 t2, us[j]? = some u ∧ y = .ref a ∧ h_c.objs.size + 1 < a ∧ h.IsTuple a #[.int (u.C ps) t1, .int ((u.T : Nat) : Int) t2]) (by lia) hit1 (by simpa using hit0) (Wk.range (hh' _) 0 _) (fun _ _ _ _ _ x kk => ?_) (fun _ _ _ _ _ _ _ _ _ _ q => no_tests (q _)) ?_ ?_
  · obtain ⟨u, a, t1, t2, e0, e, ha, o, ho, r⟩ := x
    exact ⟨u, a, t1, t2, e0, e, ha, o, kk a o (fun q => by rw [q] at ha; exact absurd hit1 (Nat.not_lt.mpr (Nat.le_of_lt (Nat.lt_of_succ_lt ha)))) (Nat.ne_of_gt (Nat.lt_of_succ_lt ha)) (Nat.ne_of_gt ha) ho, r⟩
  · rintro j v ys h_d tk_d Q' E' hj ⟨tv, rfl⟩ _ S_d q'
    have k_d : Le G₃ h_d := (Sd.keep.trans hK).trans S_d.keep
    obtain ⟨u, hu⟩ : ∃ u, us[j]? = some u := ⟨_, List.getElem?_eq_getElem hj⟩
    obtain ⟨a, t1, t2, bv, ha, _, hta, _⟩ := gtv j u hu
    walk_at "mw"
    refine r_ldC (gc4.keeps k_d) ?_
    walk_at "mw"
    refine r_item (plain_isList (let ⟨n, e⟩ := gtl; ⟨n, k_d _ _ e⟩)) (by lia) (by lia) (v := .ref a) (by rw [show ((0 : Int) + (j : Int)).toNat = j by lia]; simpa using ha) ?_
    walk_at "mw"
    refine r_itemT (k_d.tuple hta) (by decide) (by decide) (v := .int (u.C ps) t2) rfl ?_
    walk_at "mw"
    refine r_ldC (gc3.keeps k_d) ?_
    walk_at "mw"
    refine r_itemI ((gcome.up hG₃1).up k_d) (by lia) (x := ((u.T : Nat) : Int)) (by rw [show ((0 : Int) + (j : Int)).toNat = j by lia, List.getElem?_map, hu]; rfl) (by simp; lia) fun _ => ?_
    walk_at "mw"
    refine r_tuple (by rw [sizeLine_eq]; simp) fun h_e a_e ha_e ht_e k_e => ?_
    exact q' _ _ _ ⟨u, a_e, _, _, hu, rfl, Nat.lt_of_lt_of_le S_d.lt ha_e, ht_e⟩ k_e
  intro h_d tk_d ys hb_d hl_d hM
  obtain ⟨hyl, hyv⟩ := hM.all
  have k_d : Le h_b h_d := fun b o e => hb_d b o (hlow b o e) (hLe₂ b o e)
  have Se := Sd.grow k_d
  have hLc : L < h_c.objs.size := Nat.lt_trans hLb hit1
  clear hM hb_d hK hit0 hLe₂ hlow hLb
  generalize h_c.objs.size = ra at hl_d hyv hLc hit1 ⊢
  refine r_st Se fun h_e tk_e Sf hs_e => ⟨h_e, tk_e, rfl, fun o e => (hs_e.2 _ (Nat.ne_of_gt (Nat.lt_succ_of_lt hLc))).trans e, fun h_f hs_f => ?_⟩
  have hCn : G₃.get? (ra + 1) = none := by
    cases e : G₃.get? (ra + 1) with
    | none => rfl
    | some o => exact absurd (hG3lt _ _ e) (Nat.not_lt.mpr (Nat.le_of_lt (Nat.lt_succ_of_lt hit1)))
  have Sg := Sf.off hs_f (Nat.ne_of_gt (Nat.lt_succ_of_lt hLc)) (by simp) hCn
  obtain ⟨G₄, hG₄1, hG₄2, Sh⟩ := Sg.re [] (fun _ => True) trivial (fun _ _ _ _ => trivial) (by simp)
  have upd : ∀ b o, b ≠ L → b ≠ ra + 1 → h_d.get? b = some o → G₄.get? b = some o := fun b o n1 n2 e => hG₄2 b o n1 (by simp) ((hs_f.2 b n2).trans ((hs_e.2 b n1).trans e))
  have grl : G₄.PlainList ra ys.toArray := let ⟨n, e⟩ := hl_d; ⟨n, upd _ _ (Nat.ne_of_gt hLc) (Nat.ne_of_lt (Nat.lt_succ_self _)) e⟩
  have grv : ∀ (j : Nat) (u : Nd), us[j]? = some u → ∃ y, ys[j]? = some y ∧ T2 G₄ y (key2 ps u) := fun j u hu => by
    have hj : j < us.length := (List.getElem?_eq_some_iff.mp hu).1
    obtain ⟨y, hy⟩ : ∃ y, ys[j]? = some y := ⟨_, List.getElem?_eq_getElem (show j < ys.length by lia)⟩
    obtain ⟨_, _, v, a, t1, t2, e1, e2, e3, o, ho, r⟩ := hyv j y hy
    rw [hu] at e1
    cases e1
    exact ⟨y, hy, a, t1, t2, e2, o, upd a o (Nat.ne_of_gt (Nat.lt_trans hLc (Nat.lt_of_succ_lt e3))) (Nat.ne_of_gt e3) ho, r⟩
  have B₄ : Base mg mb fa G₄ := B₃.up hG₄1
  have hci₄ : G₄.IsList ca citems := hG₄1.list hci₃
  have gtl₄ : G₄.IsList (n₈ + 1) ts.toArray := hG₄1.list (plain_isList gtl)
  have hts : ts.toArray.size = us.length := by rw [List.size_toArray, htl, hcs']
  have kG₄ : Le G G₄ := kG₃.trans hG₄1
  have tsv : ∀ (j : Nat) (v : Value), ts.toArray[j]? = some v → ∃ u, us[j]? = some u ∧ ∃ a t1 t2 bv, v = .ref a ∧ t1 ≠ 0 ∧ G₄.IsTuple a #[.float 4607182418800017408 t1, .int (u.C ps) t2, bv] ∧ StaAt prog w (n₈ + 3) G₄ bv (toldSta ps u.s u.i u.n) := fun j v e => by
    have hj : j < us.length := by have := (Array.getElem?_eq_some_iff.mp e).1; lia
    obtain ⟨a, t1, t2, bv, e1, e2, e3, e4⟩ := gtv j us[j] (List.getElem?_eq_getElem hj)
    have : v = .ref a := by
      have e' : ts[j]? = some v := by simpa using e
      rw [e1] at e'
      injection e' with e'
      exact e'.symm
    exact ⟨us[j], List.getElem?_eq_getElem hj, a, t1, t2, bv, this, e2, hG₄1.tuple e3, e4.up hG₄1⟩
  have bkv : ∀ (j : Nat) (u : Nd), us[j]? = some u → ∃ v ks, valueAt kvs ((u.T : Nat) : Int) = some v ∧ ks.Perm u.lasts ∧ StaAt prog w h₃.objs.size G₄ v (staOf ps u ks) := fun j u hu => by
    have hj : j < us.length := (List.getElem?_eq_some_iff.mp hu).1
    obtain ⟨p, hp⟩ : ∃ p, kvs[j + 1]? = some p := ⟨_, List.getElem?_eq_getElem (show j + 1 < kvs.length by lia)⟩
    obtain ⟨v, hv, hpv⟩ := hkey (j + 1) p hp
    have hv : us[j]? = some v := by simpa using hv
    rw [hu] at hv
    cases hv
    obtain ⟨ks, hk1, hk2⟩ := gbook.2 j p.1 p.2 u hp hu
    exact ⟨p.2, ks, hpv ▸ valueAt_get (dictI_nodup gbk) hp, hk1, hk2.up kG₄⟩
  have gc1 := gc1.keeps hG₄1
  have gc2 := gc2.keeps hG₄1
  have gc3 := gc3.keeps hG₄1
  have gc4 := gc4.keeps hG₄1
  have gbk₄ : DictI prog w G₄ bk kvs := gbk.keep kG₄
  have gpr₄ : IntsL G₄ pr ps := gpr.up kG₄
  clear Se Sf Sg hs_e hs_f hG₄2 upd hl_d hyv gtv gtl hCn hG3lt k_d
  dsimp only
  walk_at "mw"
  refine e_compL (cl := []) (hh' _) (Sh.keep.list gtl₄) (by lia) (fun _ y _ => ∃ t1, t1 ≠ 0 ∧ y = .float 4607182418800017408 t1) (fun Q' hq => r_ldC (gc4.keeps Sh.keep) hq) (fun _ _ _ _ x _ => x) ?_ ?_
  · rintro j v g' D' P' h₉ tk₉ Q' E' hp hv k₉ hN S₉ q'
    obtain ⟨u, hu, a, t1, t2, bv, rfl, ht1, hta, _⟩ := tsv j v hv
    walk_at "mw"
    refine r_itemT ((Sh.keep.trans k₉).tuple hta) (by decide) (by decide) (v := .float 4607182418800017408 t1) rfl ?_
    exact q' _ _ _ ⟨t1, ht1, rfl⟩ (Le.refl _)
  intro h_1 tk_1 xs₁ k_1 hl_1 hlen_1 hv_1
  have S_1 := Sh.grow k_1
  generalize h_f.objs.size + 1 = x₁ at hl_1 ⊢
  walk_at "mw"
  refine e_compL (cl := []) (hh' _) (S_1.keep.list hci₄) (by lia) (fun _ y _ => ∃ t1, t1 ≠ 0 ∧ y = .float 4607182418800017408 t1) (fun Q' hq => r_ldC (gc3.keeps S_1.keep) hq) (fun _ _ _ _ x _ => x) ?_ ?_
  · rintro j v g' D' P' h₉ tk₉ Q' E' hp hv k₉ hN S₉ q'
    refine (show wpAny _ _ (eval (.Constant (.float _) _ _) _) _ _ _ from r_fltT ?_)
    exact q' _ _ _ ⟨_, Nat.ne_of_gt hp, rfl⟩ (Le.refl _)
  intro h_2 tk_2 xs₂ k_2 hl_2 hlen_2 hv_2
  have S_2 := S_1.grow k_2
  generalize h_1.objs.size + 1 = x₂ at hl_2 ⊢
  walk_at "mw"
  refine r_neSame (plain_isList (let ⟨n, e⟩ := hl_1; ⟨n, k_2 _ _ e⟩)) (plain_isList hl_2) (by simp only [List.size_toArray]; lia) (by rw [hun1]; lia) (fun j h1 h2 => ?_) ?_
  · obtain ⟨t1, ht1, e1⟩ := hv_1 j xs₁.toArray[j] (by simp)
    obtain ⟨t2, ht2, e2⟩ := hv_2 j xs₂.toArray[j] (by simp)
    rw [e1, e2]
    exact eqAt_one ht1 ht2 (B₄.up S_2.keep).bok
  walk_at "mw"
  have uok : ∀ (j : Nat) (u : Nd), us[j]? = some u → u.ok ∧ 0 < u.n ∧ u.n ≤ 13 := fun j u hu => by
    have := husn u (List.mem_of_getElem? hu); exact ⟨this.1, this.2.1, by lia⟩
  refine e_compL (cl := [("book", L + 2)]) (hh' _) (S_2.keep.list hci₄) (by lia) (fun j y _ => ∃ (u : Nd) (ks : List Nat), us[j]? = some u ∧ ks.Perm u.lasts ∧ StaAt prog w h₃.objs.size G₄ y (staOf ps u ks)) (fun Q' hq => r_ldC (gc3.keeps S_2.keep) hq) (fun _ _ _ _ x _ => x) ?_ ?_
  · rintro j v g' D' P' h₉ tk₉ Q' E' hp hv k₉ hN S₉ q'
    obtain ⟨u, t, hu, rfl⟩ := hcv j v hv
    obtain ⟨v, ks, e1, e2, e3⟩ := bkv j u hu
    walk_at "mw"
    refine r_ldC ((gc2.keeps S_2.keep).keeps k₉) ?_
    walk_at "mw"
    refine r_getD ((gbk₄.keep S_2.keep).keep k₉) e1 fun _ => ?_
    exact q' _ _ _ ⟨u, ks, hu, e2, e3⟩ (Le.refl _)
  intro h_3 tk_3 xs₃ k_3 hl_3 hlen_3 hv_3
  have S_3 := S_2.grow k_3
  generalize h_2.objs.size + 1 = x₃ at hl_3 ⊢
  walk_at "mw"
  refine e_compL (cl := []) (hh' _) (S_3.keep.list gtl₄) (by lia) (fun j y _ => ∃ u, us[j]? = some u ∧ StaAt prog w (n₈ + 3) G₄ y (toldSta ps u.s u.i u.n)) (fun Q' hq => r_ldC (gc4.keeps S_3.keep) hq) (fun _ _ _ _ x _ => x) ?_ ?_
  · rintro j v g' D' P' h₉ tk₉ Q' E' hp hv k₉ hN S₉ q'
    obtain ⟨u, hu, a, t1, t2, bv, rfl, ht1, hta, hst⟩ := tsv j v hv
    walk_at "mw"
    refine r_itemT ((S_3.keep.trans k₉).tuple hta) (by decide) (by decide) (v := bv) rfl ?_
    exact q' _ _ _ ⟨u, hu, hst⟩ (Le.refl _)
  intro h_4 tk_4 xs₄ k_4 hl_4 hlen_4 hv_4
  have S_4 := S_3.grow k_4
  generalize h_3.objs.size + 1 = x₄ at hl_4 ⊢
  walk_at "mw"
  refine r_neSame (plain_isList (let ⟨n, e⟩ := hl_3; ⟨n, k_4 _ _ e⟩)) (plain_isList hl_4) (by simp only [List.size_toArray]; lia) (by rw [hun1]; lia) (fun j h1 h2 => ?_) ?_
  · obtain ⟨u, ks, e1, e2, e3⟩ := hv_3 j xs₃.toArray[j] (by simp)
    obtain ⟨u', e4, e5⟩ := hv_4 j xs₄.toArray[j] (by simp)
    rw [e1] at e4
    cases e4
    obtain ⟨o1, o2, o3⟩ := uok j u e1
    obtain ⟨f1, f2, f3, f4, f5, _⟩ := staOf_told o1 o2 o3 e2 (ps := ps)
    exact eqAt_sta (e3.up S_4.keep) (e5.up S_4.keep) f1 f2 f3 f4 f5 (by show A.units + 3 + 1 + 2 < cLine; lia)
  walk_at "mw"
  refine e_compL (cl := [("book", L + 2)]) (hh' _) (S_4.keep.list hci₄) (by lia) (fun j y _ => ∃ u t, us[j]? = some u ∧ y = .int u.ways t) (fun Q' hq => r_ldC (gc3.keeps S_4.keep) hq) (fun _ _ _ _ x _ => x) ?_ ?_
  · rintro j v g' D' P' h₉ tk₉ Q' E' hp hv k₉ hN S₉ q'
    obtain ⟨u, t, hu, rfl⟩ := hcv j v hv
    obtain ⟨v, ks, e1, e2, a, d, t1, t2, t3, t4, lvs, rfl, _, _, hta, hdl, hil, hds⟩ := bkv j u hu
    have k₉' : Le G₄ h₉ := S_4.keep.trans k₉
    refine e_fn 11 (B₄.up k₉') (Le.refl _) ?_
    walk_at "mw"
    refine r_ldC (gc2.keeps k₉') ?_
    walk_at "mw"
    refine r_getD (gbk₄.keep k₉') e1 fun _ => ?_
    walk_at "mw"
    refine r_itemT (k₉'.tuple hta) (by decide) (by decide) (v := .ref d) rfl ?_
    walk_at "mw"
    refine ⟨Le.refl _, ?_⟩
    refine count_calls_spec (B₄.up k₉') (Le.refl _) (hdl.keep k₉') hil hds (hh' _) (by rw [hdep1]; lia) fun h_a tk_a t_a k_a => ?_
    have hsum : sumC (staOf ps u ks).cs = u.ways := by
      obtain ⟨o1, o2, o3⟩ := uok j u hu
      have hnc := (staOf_told o1 o2 o3 e2 (ps := ps)).2.2.2.2.2
      rw [← hnc]
      unfold sumC staOf
      simp only [List.map_map]
      rfl
    rw [hsum]
    exact q' _ _ _ ⟨u, t_a, hu, rfl⟩ k_a
  intro h_5 tk_5 xs₅ k_5 hl_5 hlen_5 hv_5
  have S_5 := S_4.grow k_5
  generalize h_4.objs.size + 1 = x₅ at hl_5 ⊢
  walk_at "mw"
  refine e_compL (cl := []) (hh' _) (S_5.keep.list gtl₄) (by lia) (fun j y _ => ∃ u t, us[j]? = some u ∧ y = .int u.ways t) (fun Q' hq => r_ldC (gc4.keeps S_5.keep) hq) (fun _ _ _ _ x _ => x) ?_ ?_
  · rintro j v g' D' P' h₉ tk₉ Q' E' hp hv k₉ hN S₉ q'
    obtain ⟨u, hu, a, t1, t2, bv, rfl, ht1, hta, b, d, u1, u2, u3, u4, lvs, rfl, _, _, htb, _⟩ := tsv j v hv
    walk_at "mw"
    refine r_itemT ((S_5.keep.trans k₉).tuple hta) (by decide) (by decide) (v := .ref b) rfl ?_
    walk_at "mw"
    refine r_itemT ((S_5.keep.trans k₉).tuple htb) (by decide) (by decide) (v := .int (toldSta ps u.s u.i u.n).nc u2) rfl ?_
    exact q' _ _ _ ⟨u, u2, hu, rfl⟩ (Le.refl _)
  intro h_6 tk_6 xs₆ k_6 hl_6 hlen_6 hv_6
  have S_6 := S_5.grow k_6
  generalize h_5.objs.size + 1 = x₆ at hl_6 ⊢
  walk_at "mw"
  refine r_neSame (plain_isList (let ⟨n, e⟩ := hl_5; ⟨n, k_6 _ _ e⟩)) (plain_isList hl_6) (by simp only [List.size_toArray]; lia) (by rw [hun1]; lia) (fun j h1 h2 => ?_) ?_
  · obtain ⟨u, t, e1, e2⟩ := hv_5 j xs₅.toArray[j] (by simp)
    obtain ⟨u', t', e3, e4⟩ := hv_6 j xs₆.toArray[j] (by simp)
    rw [e1] at e3
    cases e3
    rw [e2, e4]
    exact eqAt_int rfl _ _
  walk_at "mw"
  refine wpAny_Compare1 ?_ (by kernel_rfl)
  walk_at "mw"
  have husz : 8 ≤ us.length := by lia
  obtain ⟨wl, hwl⟩ : ∃ wl, us[us.length - 1]? = some wl := ⟨_, List.getElem?_eq_getElem (by lia)⟩
  have hwlm : wl ∈ us := List.mem_of_getElem? hwl
  have hlast : us.getLast? = some wl := by rw [List.getLast?_eq_getElem?]; exact hwl
  obtain ⟨wo1, wo2, wo3⟩ := husn wl hwlm
  obtain ⟨wc1, wc2⟩ := C_small S₀ wo1 wo2 wo3
  have h42 := all_small I S₀ (by lia) hwlm
  have h2 : 2 ≤ (allOf ps (wl.C ps)).length := by
    obtain ⟨m, hm1, hm2⟩ := exists_sorted ((allOf ps (wl.C ps)).map (key2 ps))
    have e := congrArg List.length (take_all I S₀ hlast hm1 hm2)
    have hml := hm1.length_eq
    rw [List.length_take, List.length_map] at e
    rw [List.length_map] at hml
    lia
  obtain ⟨yl, hyl', yt⟩ := grv _ _ hwl
  obtain ⟨ya, yt1, yt2, rfl, hyt⟩ := yt
  have B_6 : Base mg mb fa h_6 := B₄.up S_6.keep
  have grl_6 : h_6.PlainList ra ys.toArray := let ⟨n, e⟩ := grl; ⟨n, S_6.keep _ _ e⟩
  refine e_fn 19 B₄ S_6.keep ?_
  refine args_cons ?_ (by kernel_rfl)
  refine r_ldC (gc1.keeps S_6.keep) ?_
  walk_at "mw"
  refine wpAny_UnaryOp ?_
  walk_at "mw"
  refine neg_int ?_
  refine r_itemNeg (plain_isList grl_6) (by decide) (by rw [List.size_toArray, hyl]; lia) (v := .ref ya) (by
    rw [List.size_toArray, hyl, show ((-1 : Int) + ((us.length : Nat) : Int)).toNat = us.length - 1 by lia]
    simpa using hyl') (by rw [List.size_toArray, hyl]; lia) ?_
  walk_at "mw"
  refine r_itemT (S_6.keep.tuple hyt) (by decide) (by decide) (v := .int (wl.C ps) yt1) rfl ?_
  walk_at "mw"
  refine ⟨S_6.keep, ?_⟩
  refine all_spec B₄ S_6.keep (gpr₄.up S_6.keep) S₀ wc1 wc2 h2 h42 (fun v hv => Nat.le_trans (all_n I S₀ hwlm hv) (by lia)) (hh' _) (by rw [hdep1]; lia) fun h_7 tk_7 la zs hlz hTz hpz hsz' k_7 => ?_
  have S_7 := S_6.grow k_7
  have hzl : zs.length = (allOf ps (wl.C ps)).length := by
    have := hpz.length_eq
    simpa using this
  have htake := take_all I S₀ hlast hpz hsz'
  have hle : us.length ≤ zs.length := by
    have := congrArg List.length htake
    simp only [List.length_take, List.length_map] at this
    lia
  refine e_slice (wpAny_evalPart_none (wpAny_evalPart_some ?_))
  refine e_bi B₄ S_7.keep boot_len ?_
  walk_at "mw"
  have grl_7 : h_7.PlainList ra ys.toArray := let ⟨n, e⟩ := grl; ⟨n, S_7.keep _ _ e⟩
  refine r_len (plain_isList grl_7) (by rw [List.size_toArray, hyl]; lia) fun _ _ => ?_
  rw [List.size_toArray, hyl]
  walk_at "mw"
  refine wpAny_evalPart_none ?_
  intro h_8 a_8 hs_8 k_8
  dsimp only
  have S_8 := S_7.grow k_8
  refine r_slice2 (k_8.list (plain_isList hlz)) hs_8 .none (.int _ _) .none (by decide) (by simp [vals2]; lia) fun h_9 a_9 _ hl_9 k_9 => ?_
  have S_9 := S_8.grow k_9
  rw [slicePick_upto _ _ (by simp [vals2]; exact hle)] at hl_9
  walk_at "mw"
  refine r_eqSame (plain_isList (let ⟨n, e⟩ := grl; ⟨n, S_9.keep _ _ e⟩)) (plain_isList hl_9) (by simp [vals2]; lia) (by rw [hun1]; lia) (fun j h1 h2 => ?_) (q _ _ ((hG1.trans kG₄).trans S_9.keep))
  have hj : j < us.length := by rw [List.size_toArray] at h1; lia
  obtain ⟨y, hy, hyT⟩ := grv j us[j] (List.getElem?_eq_getElem hj)
  have hjz : j < zs.length := Nat.lt_of_lt_of_le hj hle
  have e2 : zs[j].2 = key2 ps us[j] := by
    have e := congrArg (fun l => l[j]?) htake
    simp only [List.getElem?_take, if_pos hj, List.getElem?_map, List.getElem?_eq_getElem hj, List.getElem?_eq_getElem hjz, Option.map_some] at e
    injection e
  have ey : ys.toArray[j] = y := by
    have : ys.toArray[j]? = some y := by simpa using hy
    rw [Array.getElem?_eq_getElem h1] at this
    injection this
  have ez : ((vals2 zs).toList.take us.length).toArray[j] = zs[j].1 := by
    simp [vals2]
  rw [ey, ez]
  refine eqAt_T2 (x := key2 ps us[j]) (hyT.up S_9.keep) ?_ (by show A.units + 3 + 1 + 2 < cLine; lia)
  rw [← e2]
  exact ((hTz _ (List.getElem_mem hjz)).up k_8).up k_9
end
def bokOk (o : Obj) : Bool := match o.data with
  | .dict es _ => es.all (fun e => match e.key with | .str _ _ => true | _ => false) && (nsFind es sharingNotToldKey).isNone
  | _ => false
theorem booked_of {h : Heap} {o : Obj} (ho : h.get? cStatics = some o) (x : bokOk o = true) : NoneBooked h := by
  unfold bokOk at x
  split at x
  · rename_i es ep hd
    rw [Bool.and_eq_true] at x
    refine ⟨fun n => nsFind es n, ⟨o, es, ep, ho, hd, fun e he => ?_, fun _ => rfl⟩, Option.isNone_iff_eq_none.mp x.2⟩
    have := Array.all_eq_true_iff_forall_mem.mp x.1 e he
    split at this
    · rename_i n t hk; exact ⟨n, t, hk⟩
    · cases this
  · cases x
def bokHook : Hook := ⟨Option Bool, fun s => (s.heap.get? cStatics).map bokOk, fun _ => some true, fun _ h => NoneBooked h, fun _ s e => by
    cases q : s.heap.get? cStatics with
    | none => simp only [q] at e; cases e
    | some o => simp only [q, Option.map_some, Option.some.injEq] at e; exact booked_of q e,
  fun _ _ _ x k => let ⟨mc, a, b⟩ := x; ⟨mc, a.keeps k, b⟩⟩
/-- the text's defs alone -/
def dview : Program := { pw with main := { pw.main with body := fnIdx.map fun i => pw.main.body.getD i (.Pass default) } }
abbrev rowT := OpenRow.toRowW PySem.Challenge.rw_pg0101_01.row
def dXt (s : Shared) : Bool := xlAt dview [] s && recOk (RowW.records rowT) s
set_option maxRecDepth 100000 in
set_option maxHeartbeats 8000000 in
/-- the top runs through and leaves the defs standing -/
theorem dleft : LeftO rowT.prog dview [] dXt (Hook.obs bokHook) (Hook.val bokHook) 1272 := by
  intro w
  kernel_rfl
theorem recs_eq : recsOf dview = fnIdx.map fn := by kernel_rfl
def freeB (a b c d : List Str) (x : Str) : Bool := !(startupNames.contains x) && (!(a.contains x) && (!(b.contains x) && (!(c.contains x) && (!(d.contains x) && (x != "__name__")))))
theorem bi_free : (biNames.all fun x => freeB (looseW dview []) ((recsOf dview).map (·.name)) ((litsOf dview).map (·.1)) ((clssOf dview (looseW dview [])).map (·.name)) x) = true := by kernel_rfl
/-- where a def of the text lies -/
def addrOf (mg : Str → Option Value) (i : Nat) : Addr := match mg (fn i).name with
  | some (.ref a) => a
  | _ => 0
theorem base_of {mean : ExcName → Option Value} {mg mb : Str → Option Value} {h : Heap} (T : Top dview (looseW dview []) mean mg mb h) (K : NoneBooked h) : Base mg mb (addrOf mg) h where
  gns := T.g
  bns := T.b
  lim := T.nolimit
  fn := fun i hi => by
    obtain ⟨a, o, pm, code, doc, h1, h2, h3, h4⟩ := T.fn (fn i) (by rw [recs_eq]; exact List.mem_map_of_mem hi)
    have e : addrOf mg i = a := by unfold addrOf; rw [h1]
    rw [e]
    exact ⟨h1, o, pm, code, doc, h2, h3, h4⟩
  bi := fun x hx => by
    have h := List.all_eq_true.mp bi_free x hx
    unfold freeB at h
    simp only [Bool.and_eq_true, Bool.not_eq_true', bne_iff_ne, ne_eq] at h
    obtain ⟨h1, h2, h3, h4, h5, h6⟩ := h
    have no : ∀ {l : List Str}, l.contains x = false → x ∉ l := fun e hm => by rw [List.contains_iff_mem.mpr hm] at e; cases e
    exact ⟨T.free x (no h1) (no h2) (no h3) (no h4) (no h5), T.builtins x h6⟩
  bok := K
set_option maxRecDepth 100000 in
set_option maxHeartbeats 8000000 in
theorem final : PySem.Challenge.rw_pg0101_01.Holds := by
  w_on
  o_law
  refine holds_open (q := dview) (loose := []) (Xt := dXt) (XP := XL dview []) (Yf := Hook.obs bokHook) (Ya := Hook.val bokHook) (YP := Hook.says bokHook) (N := 1272) dleft (Hook.of bokHook) (Hook.keeps bokHook) (fun s e => xl_of s (Bool.and_eq_true_iff.mp e).1) XL.keeps (by rfl) (by rfl) (by rfl) (fun s e => recFacts_of (Bool.and_eq_true_iff.mp e).2) (by rfl) (by assumption) (by decide +kernel) ⟨rfl, rfl, rfl, rfl, rfl, by decide +kernel⟩ ?hw ?hc
  case hw => w_witness2
  intro w s₀ s₁ mg mb G Y fa o pm cd doc dV kV ho hd hcd hD hmg hg args vals as hpre hlay hrd hwl hlo
  refine Ground.open G ?_
  intro T B D TE TW
  clear hcd B D TE TW hD
  have BB := base_of T (show NoneBooked s₁.heap from Y)
  have efa : fa = addrOf mg 20 := by
    unfold addrOf
    rw [show mg (fn 20).name = some (.ref fa) from hmg]
  wrow_args hpre hlay hrd hwl hlo
  rename_i ns _ _ _ _ _ _ l vs _ hL _ _ _ hI _ hlen _
  subst efa
  refine law_spec (h₀ := s₁.heap) (gn := s₁.gens) (dr := s₁.drawn) (tk₀ := s₁.toks) (os := s₁.os) BB (Le.refl _) hL hI ?_ rfl (by decide +kernel) (by decide +kernel) fun h' tk k => ?_
  · have := hI.length
    lia
  · exact GoodW.toG ⟨.inl ⟨.bool true, _, [], rfl, fun _ => rfl, .bool true, by with_unfolding_all rfl, unshared_nil⟩, k, rfl, hg⟩
end Mine
theorem PySem.Challenge.cw_pg0101_01_holds : PySem.Challenge.rw_pg0101_01.Holds := by
  exact Mine.final
