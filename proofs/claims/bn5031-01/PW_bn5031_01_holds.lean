import PyProof.Rows.All
import Wide.All
import OpenK.AllK
import Wide.FinOn
import PySem.Challenge.RW_bn5031_01
open PySem PySem.W PyProof.Rows PySem.Calls
set_option Elab.async false
set_option maxRecDepth 100000
set_option maxHeartbeats 8000000

namespace Mine
open_top hd for PySem.Challenge.rw_bn5031_01

noncomputable abbrev MO (w : World) : Model := model PySem.Challenge.rw_bn5031_01.row.prog w
abbrev Ar (dp : Nat) (fr : List Env) (gd : Option (List Code)) (un : Nat) : Around := { handled := none, depth := dp, frames := some fr, guards := gd, units := un }

/-- an LRUCache object -/
abbrev lru (dd d mu : Addr) (cap : Int) (tc : Tok) (thr : Value) (ctr : Int) (tt : Tok) : Obj :=
  ⟨.ref 185, some dd, .plain, List.toArray [some (.int ctr tt), some (.ref d), some (.ref mu), some (.int cap tc), some .none, some thr]⟩

theorem news_sub {h₀ h : Heap} {L : Addr} {a b : List (Addr × Obj)} (N : News h₀ L h a) (hs : ∀ p ∈ b, p ∈ a) : News h₀ L h b := fun p hp => N p (hs p hp)
theorem news_app {h₀ h : Heap} {L : Addr} {a b : List (Addr × Obj)} (N : News h₀ L h a) (N' : News h₀ L h b) : News h₀ L h (a ++ b) :=
  fun p hp => (List.mem_append.mp hp).elim (N p) (N' p)

section
variable {prog : Program} {w : World} {A₀ A : Around} {s : Shared} {base h₀ : Heap} {outer : List Env} {L : Addr} {m : Str → Option Value} {env : Env} {mine rest : List (Addr × Obj)} {K : Frag} {p : Program} {loose : List Str} {mean : ExcName → Option Value} {mg mb : Str → Option Value}
  {R : Result → Shared → Prop} {name qual : Str} {params : Arguments} {body : List Stmt} {scope : Scope} {dV kV doc pm cdv ct oc : Value} {an od : Option Addr} {osl : Array (Option Value)} {f : Addr} {args : Args} {binds : List (Str × Value)}

/-- a call that may change `mine` alone; `rest` stays -/
theorem callF (B : Below A₀ base outer h₀) (F : Fr h₀ L s.heap m) (X₀ : K.In h₀) (N : News h₀ L s.heap mine) (NR : News h₀ L s.heap rest) (dis : ∀ p ∈ rest, p.1 ∉ mine.map (·.1)) (T : Top p loose mean mg mb h₀) (hA : A.frames = some (env :: outer)) (hf : env.frame = some L) (hke : env.scope.kind = .function)
    (ho : K.lookup f = some ⟨oc, od, .func (fnOf name qual params body scope dV kV doc pm an cdv ct), osl⟩) (hcd : codeIn K cdv qual = true) (hroom : A.depth < recursionLimit)
    (hbind : BindsTo s (fnOf name qual params body scope dV kV doc pm an cdv ct) args binds) (hloc : ∀ y ∈ binds, scope.names.lookup y.1 = some .local)
    (h : ∀ g L' h₁, Fr h₀ L g m → Fr g L' h₁ (fun y => binds.reverse.lookup y) → News g L' h₁ mine → Below A base (env :: outer) g → K.In g → Top p loose mean mg mb g →
      (∀ p ∈ rest, g.get? p.1 = some p.2) → (∀ p ∈ mine, p.1 < L') → (∀ p ∈ rest, p.1 < L') →
      wpAny (model prog w) (A.deeper (envOf qual scope L' f cdv)) (execs body (envOf qual scope L' f cdv))
        (fun fl s' => LeaveK h₀ L m g (fun r s' => News h₀ L s'.heap rest → R r s') (match fl with | .ret v => v | _ => .none) s')
        (fun e s' => wpAny (model prog w) (A.deeper (envOf qual scope L' f cdv)) (leaving (envOf qual scope L' f cdv) e) (fun _ s'' => R (.error e) s'') (fun e' s'' => R (.error e') s'') s')
        { s with heap := h₁, toks := s.toks + binds.length })
    (hco : scope.isCoroutine = false) (hgen : scope.isGenerator = false) (hk : scope.kind = .function)
    (hcell : ∀ x ∈ scope.names, x.2 ≠ .cell) : codeAny (model prog w) A (.call (.ref f) args) R s := by
  have hoh := (X₀.keeps F.keep) _ _ ho
  have hcr := codeRec_of (X₀.keeps F.keep) hcd
  obtain ⟨FG, BG, st, lv⟩ := groundX (R := fun r s' => News h₀ L s'.heap rest → R r s') B F N hA hf hke
  have hg : ∀ q ∈ rest, (hideAll s.heap (mine.map (·.1))).get? q.1 = some q.2 := fun q hq => hideAll_get _ (NR q hq).1 (dis q hq)
  refine codeAny_call_def (fd := fnOf name qual params body scope dV kV doc pm an cdv ct) (body := body) (binds := binds) hroom hoh rfl (T.nolimit.keeps F.keep) hcr rfl hbind hcell hloc (fun h₁ hns hk₁ => ?_) hco hgen hk
  refine wpAny_mono (h _ s.heap.objs.size h₁ FG ⟨hns, fun b o e => hk₁ b o (of_hideAll _ e), Nat.le_of_eq (hideAll_size _ _)⟩
    (fun p hp => ⟨hk₁ _ _ (N p hp).1, Nat.ne_of_lt (Heap.lt_size (N p hp).1), hideAll_none _ (List.mem_map_of_mem hp)⟩) BG (X₀.keeps st) (T.keeps st) hg (fun p hp => Heap.lt_size (N p hp).1) (fun p hp => Heap.lt_size (NR p hp).1)) (fun fl s' hl => ?_) fun _ _ y => y
  have hl' := hl
  obtain ⟨L', m', news', F', N', k⟩ := hl'
  exact lv _ _ hl (fun q hq => ⟨F'.keep _ _ (hg q hq), (NR q hq).2⟩)
end
end Mine

namespace Mine
section
local macro_rules | `(tactic| walk_at "RESET") => `(tactic| trivial)
local macro_rules | `(tactic| walk_at "RESET") => `(tactic| trivial)
local macro_rules | `(tactic| walk_at "RESET") => `(tactic| trivial)
local macro_rules | `(tactic| walk_at "RESET") => `(tactic| trivial)
local macro_rules | `(tactic| walk_at "RESET") => `(tactic| trivial)
local macro_rules | `(tactic| walk_at "RESET") => `(tactic| trivial)
local macro_rules | `(tactic| walk_at "RESET") => `(tactic| trivial)
local macro_rules | `(tactic| walk_at "RESET") => `(tactic| trivial)
local macro_rules | `(tactic| walk_at "RESET") => `(tactic| trivial)
local macro_rules | `(tactic| walk_at "RESET") => `(tactic| trivial)
local macro_rules | `(tactic| walk_at "RESET") => `(tactic| trivial)
local macro_rules | `(tactic| walk_at "RESET") => `(tactic| trivial)
local macro_rules | `(tactic| walk_at "RESET") => `(tactic| trivial)
local macro_rules | `(tactic| walk_at "RESET") => `(tactic| trivial)
local macro_rules | `(tactic| walk_at "RESET") => `(tactic| trivial)
local macro_rules | `(tactic| walk_at "RESET") => `(tactic| trivial)
local macro_rules | `(tactic| walk_at "RESET") => `(tactic| trivial)
local macro_rules | `(tactic| walk_at "RESET") => `(tactic| trivial)
local macro_rules | `(tactic| walk_at "RESET") => `(tactic| trivial)
local macro_rules | `(tactic| walk_at "RESET") => `(tactic| trivial)
local macro_rules | `(tactic| walk_at "RESET") => `(tactic| trivial)
local macro_rules | `(tactic| walk_at "RESET") => `(tactic| trivial)
local macro_rules | `(tactic| walk_at "RESET") => `(tactic| trivial)
local macro_rules | `(tactic| walk_at "RESET") => `(tactic| trivial)
theorem resetL0 : True := by
  w_top off
  first | walk1 | trivial
end
end Mine

namespace Mine

/-! the ledger with all its addresses apart -/
def Led (h₀ : Heap) (L : Nat) (h : Heap) (l : List (Addr × Obj)) : Prop := News h₀ L h l ∧ (l.map (·.1) : List Nat).Nodup
section
variable {h₀ h h' : Heap} {L : Nat} {a b l l' x y z r : List (Addr × Obj)} {m : Str → Option Value}
theorem Led.perm (H : Led h₀ L h l) (p : l.Perm l') : Led h₀ L h l' := ⟨fun q hq => H.1 q (p.mem_iff.mpr hq), (p.map _).nodup_iff.mp H.2⟩
theorem Led.left (H : Led h₀ L h (a ++ b)) : News h₀ L h a := fun q hq => H.1 q (List.mem_append_left _ hq)
theorem Led.right (H : Led h₀ L h (a ++ b)) : News h₀ L h b := fun q hq => H.1 q (List.mem_append_right _ hq)
theorem Led.dis (H : Led h₀ L h (a ++ b)) : ∀ p ∈ b, p.1 ∉ a.map (·.1) := fun p hp hq => by
  have h2 := H.2
  rw [List.map_append, List.nodup_append] at h2
  exact h2.2.2 _ hq _ (List.mem_map_of_mem hp) rfl
theorem Led.nodup (H : Led h₀ L h (a ++ b)) : (a.map (·.1) : List Nat).Nodup := by
  have h2 := H.2
  rw [List.map_append, List.nodup_append] at h2
  exact h2.1
theorem Led.sub (H : Led h₀ L h (a ++ b)) : Led h₀ L h a := ⟨H.left, H.nodup⟩
/-- objects turned in place -/
theorem Led.of (H : Led h₀ L h l) (N : News h₀ L h' l') (e : (l'.map (·.1) : List Nat) = l.map (·.1)) : Led h₀ L h' l' := ⟨N, e ▸ H.2⟩
theorem Led.of2 (H : Led h₀ L h (a ++ r)) (N : News h₀ L h' x) (NR : News h₀ L h' r) (e : (x.map (·.1) : List Nat) = a.map (·.1)) : Led h₀ L h' (x ++ r) :=
  H.of (news_app N NR) (by rw [List.map_append, List.map_append, e])
/-- new objects, made behind: their addresses lie at or above the heap's end -/
theorem Led.more (H : Led h₀ L h (a ++ r)) {k : Nat} (hk : ∀ p ∈ (a ++ r), @LT.lt Nat _ p.1 k) (hz : ∀ p ∈ z, @LE.le Nat _ k p.1) (nz : (z.map (·.1) : List Nat).Nodup) (N : News h₀ L h' (z ++ x)) (NR : News h₀ L h' r) (e : (x.map (·.1) : List Nat) = a.map (·.1)) : Led h₀ L h' (z ++ x ++ r) := by
  refine ⟨news_app N NR, ?_⟩
  have e' : ((z ++ x ++ r).map (·.1) : List Nat) = z.map (·.1) ++ (a ++ r).map (·.1) := by
    rw [List.map_append, List.map_append, List.map_append, e, List.append_assoc]
  rw [e', List.nodup_append]
  refine ⟨nz, H.2, fun u hu v hv q => ?_⟩
  obtain ⟨p, hp, rfl⟩ := List.mem_map.mp hu
  obtain ⟨p', hp', rfl⟩ := List.mem_map.mp hv
  have h1 := hz p hp
  have h2 := hk p' hp'
  rw [q] at h1
  exact absurd h2 (Nat.not_lt.mpr h1)
end
theorem perm5 {α : Type} (a b x y z r : List α) : ((a ++ b ++ (x ++ y ++ z)) ++ r).Perm ((a ++ y) ++ (b ++ x ++ z ++ r)) := by
  classical
  exact List.perm_iff_count.mpr fun t => by simp only [List.count_append]; omega
theorem perm3 {α : Type} (a b r : List α) : ((a ++ b) ++ r).Perm (a ++ (b ++ r)) := by
  rw [List.append_assoc]

/-! the caches -/
structure Ent where
  key : Int
  kt : Tok
  sv : Str
  vt : Tok
  cnt : Int
  ct : Tok
  tup : Nat
  lst : Nat
  tn : Nat
  ln : Nat
abbrev Ent.tobj (e : Ent) : Obj := seqObj "tuple" (List.toArray [.int e.key e.kt, .str e.sv e.vt, .ref e.lst]) e.tn
abbrev Ent.lobj (e : Ent) : Obj := seqObj "list" (List.toArray [.int e.cnt e.ct]) e.ln
abbrev Ent.led (e : Ent) : List (Addr × Obj) := [(e.tup, e.tobj), (e.lst, e.lobj)]
noncomputable abbrev IK (w : World) : KeyKind PySem.Challenge.rw_bn5031_01.row.prog w Int := intKind PySem.Challenge.rw_bn5031_01.row.prog w
abbrev kvsOf (l : List Ent) : List (Int × Value) := l.map fun e => (e.key, Value.ref e.tup)
structure Cache where
  c : Nat
  dd : Nat
  d : Nat
  mu : Nat
  dm : Nat
  cap : Int
  tc : Tok
  thr : Value
  ctr : Int
  tt : Tok
  ents : List Ent
  dobj : Obj
  ht : Tok
abbrev Cache.top (C : Cache) : List (Addr × Obj) := [(C.c, lru C.dd C.d C.mu C.cap C.tc C.thr C.ctr C.tt), (C.dd, dictOf [] 0), (C.d, C.dobj)]
abbrev heldD (w : World) (ht : Tok) (b : Bool) : Obj := dictOf [⟨PyData.keyHash w.params (Str.ofString "held"), .str (Str.ofString "held") ht, .bool b⟩] 1
abbrev Cache.lock (C : Cache) (w : World) : List (Addr × Obj) := [(C.mu, instObj 53 C.dm), (C.dm, heldD w C.ht false)]
def Cache.led (C : Cache) (w : World) : List (Addr × Obj) := C.top ++ C.lock w ++ C.ents.flatMap Ent.led
structure Cache.Ok (C : Cache) (w : World) : Prop where
  dict : C.dobj.IsDictOf (IK w) (kvsOf C.ents)
  lo : (C.d == sysModules) = false

theorem kvs_keys (l : List Ent) : (kvsOf l).map (·.1) = l.map Ent.key := by rw [List.map_map]; rfl
theorem Cache.Ok.nodup {C : Cache} {w : World} (h : C.Ok w) : (C.ents.map Ent.key).Nodup := by
  obtain ⟨_, _, _, _, _, _, hn⟩ := h.dict
  rw [kvs_keys] at hn; exact hn
theorem at_hit {l e1 e2 : List Ent} {e : Ent} (hl : l = e1 ++ e :: e2) (nk : (l.map Ent.key).Nodup) : valueAt (kvsOf l) e.key = some (.ref e.tup) := by
  subst hl
  have h1 : ∀ x ∈ e1, x.key ≠ e.key := fun x hx q => by
    rw [List.map_append, List.nodup_append] at nk
    exact nk.2.2 _ (List.mem_map_of_mem hx) _ (by rw [List.map_cons]; exact List.mem_cons_self) q
  unfold valueAt kvsOf
  rw [List.map_append, List.find?_append]
  have h2 : List.find? (fun kv : Int × Value => decide (kv.1 = e.key)) (e1.map fun e => (e.key, Value.ref e.tup)) = none := by
    rw [List.find?_eq_none]
    intro d hd
    obtain ⟨x, hx, rfl⟩ := List.mem_map.mp hd
    have := h1 x hx
    simp [this]
  rw [h2, List.map_cons, List.find?_cons]
  simp
theorem at_miss {l : List Ent} {k : Int} (hk : k ∉ l.map Ent.key) : valueAt (kvsOf l) k = none := by
  unfold valueAt kvsOf
  have h2 : List.find? (fun kv : Int × Value => decide (kv.1 = k)) (l.map fun e => (e.key, Value.ref e.tup)) = none := by
    rw [List.find?_eq_none]
    intro d hd
    obtain ⟨x, hx, rfl⟩ := List.mem_map.mp hd
    have : x.key ≠ k := fun q => hk (q ▸ List.mem_map_of_mem hx)
    simp [this]
  rw [h2]; rfl

section
variable {prog : Program} {w : World} {A : Around} {E : Value → Shared → Prop} {s : Shared} {h₀ : Heap} {L : Addr} {m : Str → Option Value} {news : List (Addr × Obj)} {d : Addr} {o : Obj} {kvs : List (Int × Value)} {k : Int} {t : Tok} {v : Value} {Q : Value → Shared → Prop}
theorem dictOf_led (N : News h₀ L s.heap news) (hm : (d, o) ∈ news) (hd : o.IsDictOf (intKind prog w) kvs) : s.heap.DictOf (intKind prog w) d kvs := Heap.dictOf_iff.mpr ⟨o, (N _ hm).1, hd⟩
theorem getm_dget {pl : Sem Bool} {Q : Value × List Value → Shared → Prop} (N : News h₀ L s.heap news) (hm : (d, o) ∈ news) (hd : o.IsDictOf (intKind prog w) kvs) (h : Q (.builtin "dict.get", [.ref d]) s) : wpAny (model prog w) A (getMethod (.ref d) (Str.ofString "get") pl) Q E s :=
  have hD := dictOf_led N hm hd
  getMethod_builtin hD.typeIs PySem.F.plainAttrs_dict PySem.F.slot_dict_get PySem.F.type_dict_get hD.mapOf.noDict h
theorem dget_hit (N : News h₀ L s.heap news) (hm : (d, o) ∈ news) (hd : o.IsDictOf (intKind prog w) kvs) (lo : (d == sysModules) = false) (hf : valueAt kvs k = some v)
    (h : Q v { s with toks := s.toks + 1 }) : wpAny (model prog w) A (call (.builtin "dict.get") [.ref d, .int k t]) Q E s := by
  have hD := dictOf_led N hm hd
  refine call_meetsIn PySem.F.slot_dict_get hD.typeIs PySem.F.entry_dict_get (PySem.F.args_dict_get_2 _ _) (meets_dict_get (intKind prog w) d (k := k) (by simp [intKind, Value.isInt]) lo) ⟨_, hD.mapOf, ?_⟩
  rw [hf]; exact h
theorem dget_miss (N : News h₀ L s.heap news) (hm : (d, o) ∈ news) (hd : o.IsDictOf (intKind prog w) kvs) (lo : (d == sysModules) = false) (hf : valueAt kvs k = none)
    (h : Q .none { s with toks := s.toks + 1 }) : wpAny (model prog w) A (call (.builtin "dict.get") [.ref d, .int k t]) Q E s := by
  have hD := dictOf_led N hm hd
  refine call_meetsIn PySem.F.slot_dict_get hD.typeIs PySem.F.entry_dict_get (PySem.F.args_dict_get_2 _ _) (meets_dict_get (intKind prog w) d (k := k) (by simp [intKind, Value.isInt]) lo) ⟨_, hD.mapOf, ?_⟩
  rw [hf]; exact h
theorem dlen_led (N : News h₀ L s.heap news) (hm : (d, o) ∈ news) (hd : o.IsDictOf (intKind prog w) kvs) (lo : (d == sysModules) = false) (hl : kvs.length ≤ 20)
    (h : ∀ t, Q (.int (kvs.length : Int) t) { s with toks := s.toks + 1 + 1 }) : wpAny (model prog w) A (call (.builtin "len") [.ref d]) Q E s :=
  call_len_dict lo (dictOf_led N hm hd) (by omega) (h _)
/-- d[k] = v, a new key or not -/
theorem dset_led {g : Obj → List (Addr × Obj)} {Q : Unit → Shared → Prop} (F : Fr h₀ L s.heap m) (N : News h₀ L s.heap news) (U : UpdF d o news g) (hd : o.IsDictOf (intKind prog w) kvs) (hl : kvs.length ≤ 20)
    (h : ∀ h' o', Fr h₀ L h' m → News h₀ L h' (g o') → o'.IsDictOf (intKind prog w) (stored kvs k v) → Q () { s with heap := h', toks := s.toks + 1 }) :
    wpAny (model prog w) A (setItem (.ref d) (.int k t) v) Q E s := by
  obtain ⟨pre, post, rfl, hg, a, b⟩ := U.split
  have hm := N (d, o) (List.mem_append_right _ (.head _))
  have hD : s.heap.DictOf (intKind prog w) d kvs := Heap.dictOf_iff.mpr ⟨o, hm.1, hd⟩
  refine wpAny_setItem_pairs (k := k) (by simp [intKind, Value.isInt]) hD ?_ (by rw [sizeLine_eq]; omega)
  intro h' hmm hs
  obtain ⟨o', ho', hd'⟩ := Heap.dictOf_iff.mp hmm
  exact h h' o' (F.change hs hm.2.1 hm.2.2) (hg o' ▸ N.setIn a b hs ho') hd'
theorem ddel_led {g : Obj → List (Addr × Obj)} {Q : Unit → Shared → Prop} (F : Fr h₀ L s.heap m) (N : News h₀ L s.heap news) (U : UpdF d o news g) (hd : o.IsDictOf (intKind prog w) kvs) (hl : kvs.length ≤ 20) (hk : (valueAt kvs k).isSome = true)
    (h : ∀ h' o', Fr h₀ L h' m → News h₀ L h' (g o') → o'.IsDictOf (intKind prog w) (without kvs k) → Q () { s with heap := h', toks := s.toks + 1 }) :
    wpAny (model prog w) A (delItem (.ref d) (.int k t)) Q E s := by
  obtain ⟨pre, post, rfl, hg, a, b⟩ := U.split
  have hm := N (d, o) (List.mem_append_right _ (.head _))
  have hD : s.heap.DictOf (intKind prog w) d kvs := Heap.dictOf_iff.mpr ⟨o, hm.1, hd⟩
  unfold delItem
  try with_reducible refine wpAny_holding ?_
  refine wpAny_bind (wpAny_sequenceKey hD.typeIs (by decide) ?_)
  refine wpAny_bind (wpAny_callSpecial?_slot (name := Str.ofString "__delitem__") hD.typeIs PySem.F.slot_dict_delitem
    (call_meetsIn PySem.F.slot_dict_delitem hD.typeIs PySem.F.entry_dict_delitem (PySem.F.args_dict_delitem_2 _ _) (meets_dict_delitem_pairs (intKind prog w) d (k := k) (by simp [intKind, Value.isInt])) ⟨kvs, hD, (by rw [sizeLine_eq]; omega), hk, fun h' hmm hs => ?_⟩))
  obtain ⟨o', ho', hd'⟩ := Heap.dictOf_iff.mp hmm
  exact wpAny_pure (h h' o' (F.change hs hm.2.1 hm.2.2) (hg o' ▸ N.setIn a b hs ho') hd')
end
end Mine

namespace Mine
section
local macro_rules | `(tactic| walk_at "RESET") => `(tactic| trivial)
local macro_rules | `(tactic| walk_at "RESET") => `(tactic| trivial)
local macro_rules | `(tactic| walk_at "RESET") => `(tactic| trivial)
local macro_rules | `(tactic| walk_at "RESET") => `(tactic| trivial)
local macro_rules | `(tactic| walk_at "RESET") => `(tactic| trivial)
local macro_rules | `(tactic| walk_at "RESET") => `(tactic| trivial)
local macro_rules | `(tactic| walk_at "RESET") => `(tactic| trivial)
local macro_rules | `(tactic| walk_at "RESET") => `(tactic| trivial)
local macro_rules | `(tactic| walk_at "RESET") => `(tactic| trivial)
local macro_rules | `(tactic| walk_at "RESET") => `(tactic| trivial)
local macro_rules | `(tactic| walk_at "RESET") => `(tactic| trivial)
local macro_rules | `(tactic| walk_at "RESET") => `(tactic| trivial)
local macro_rules | `(tactic| walk_at "RESET") => `(tactic| trivial)
local macro_rules | `(tactic| walk_at "RESET") => `(tactic| trivial)
local macro_rules | `(tactic| walk_at "RESET") => `(tactic| trivial)
local macro_rules | `(tactic| walk_at "RESET") => `(tactic| trivial)
local macro_rules | `(tactic| walk_at "RESET") => `(tactic| trivial)
local macro_rules | `(tactic| walk_at "RESET") => `(tactic| trivial)
local macro_rules | `(tactic| walk_at "RESET") => `(tactic| trivial)
local macro_rules | `(tactic| walk_at "RESET") => `(tactic| trivial)
local macro_rules | `(tactic| walk_at "RESET") => `(tactic| trivial)
local macro_rules | `(tactic| walk_at "RESET") => `(tactic| trivial)
local macro_rules | `(tactic| walk_at "RESET") => `(tactic| trivial)
local macro_rules | `(tactic| walk_at "RESET") => `(tactic| trivial)
theorem resetL1 : True := by
  w_top off
  first | walk1 | trivial
end
end Mine

namespace Mine
local macro_rules | `(tactic| k_room) => `(tactic| (show _ < _; (try simp only [depth_under_make, depth_under_kw, depth_in1, depth_deeper, depth_caller]); (try unfold recursionLimit); omega))
local macro_rules | `(tactic| k_units) => `(tactic| (show _ < _; (try simp only [units_deeper, units_in1]); (try unfold cLine); omega))
local macro_rules | `(tactic| walk_at "FILL") => `(tactic| (have _fill : (fun (_ : OpenLaw) (_ : Params → Frag) => True) PySem.Challenge.rw_bn5031_01 hd.heap_39 := by k_fill; trivial))
/-- enter by the frame rule: the ledger's facts N, NR, dis stand in the context -/
local macro_rules | `(tactic| walk_at "ENTER") => `(tactic| (
  refine' callF ?k1 ?k2 ?k3 ?k4 ?k4r ?k4d ?k5 ?kA ?kF ?kK ?k6 ?k7 ?k8 ?k9 ?kB ?_ ?c2 ?c3 ?c4 ?c5; (case kA => exact rfl); (case kF => assumption); (case kK => assumption); (case k4d => assumption); (case k1 => assumption); (case k2 => assumption); (case k3 => assumption); (case k4 => assumption); (case k4r => assumption); (case k5 => assumption); (case k6 => k_is); (case k7 => k_is); (case k8 => k_room); (case k9 => first | exact BindsTo.of_eq rfl | exact binds_K (by k_in) rfl (by k_is) rfl rfl rfl | fail "k_enter: no rule for these arguments"); (case c5 => decide); (case kB => exact locs rfl); (case c2 => exact rfl); (case c3 => exact rfl); (case c4 => exact rfl); k_whole))

local macro_rules | `(tactic| walk_at "getMethod ref") => `(tactic| (k_here; (with_reducible show wpAny _ _ (getMethod (Value.ref _) (Str.ofString "get") _) _ _ _); k_dflt (refine' getm_dget ?N ?hm ?hd ?_; (case hd => assumption); (case N => k_asm); (case hm => k_mem); k_whole)))
local macro_rules | `(tactic| walk_at "call builtin:dict.get") => `(tactic| (k_here; (with_reducible show wpAny _ _ (call (Value.builtin "dict.get") [Value.ref _, Value.int _ _]) _ _ _); k_dflt (first | (refine' dget_hit ?N ?hm ?hk ?lo ?hf ?_; (case hk => assumption); (case N => k_asm); (case hm => k_mem); (case lo => assumption); (case hf => assumption); k_whole) | (refine' dget_miss ?N ?hm ?hk ?lo ?hf ?_; (case hk => assumption); (case N => k_asm); (case hm => k_mem); (case lo => assumption); (case hf => assumption); k_whole))))
theorem inc_spec {w : World} {A₀ : Around} {base h₀ : Heap} {env : Env} {outer : List Env} {L : Addr} {m : Str → Option Value} {p : Program} {loose : List Str} {mean : ExcName → Option Value} {mg mb : Str → Option Value} {s : Shared} {E : Value → Shared → Prop} {Q : Value → Shared → Prop}
    {dp un : Nat} {gd : Option (List Code)} {rest : List (Addr × Obj)} {c dd d mu : Nat} {cap ctr : Int} {tc tt : Tok} {thr : Value}
    (B : Below A₀ base outer h₀) (F : Fr h₀ L s.heap m) (X₀ : (hd.heap_39 w.params).In h₀) (N : Led h₀ L s.heap ([(c, lru dd d mu cap tc thr ctr tt), (dd, dictOf [] 0)] ++ rest))
    (T : Top p loose mean mg mb h₀) (hf : env.frame = some L) (hke : env.scope.kind = .function) (hdp : dp < 900) (_hun : un < 5000)
    (h : ∀ h' tk t' t'', Fr h₀ L h' m → Led h₀ L h' ([(c, lru dd d mu cap tc thr (ctr + 1) t'), (dd, dictOf [] 0)] ++ rest) → Q (.int (ctr + 1) t'') { s with heap := h', toks := tk }) :
    wpAny (MO w) (Ar dp (env :: outer) gd un) (call (.ref 123) [.ref c]) Q E s := by
  walk_at "FILL"
  have N1 := N.left
  have N2 := N.right
  have dis := N.dis
  have hne : @Ne Nat c dd := by have := N.nodup; simp at this; exact this
  refine wpAny_call ?_
  walk_at "ENTER"
  intro g L' h₁ FG F' N' B' X' T' hr' l1 l2
  dsimp only
  k_steps
  exact h _ _ _ _ (by assumption) (N.of2 (by assumption) (by assumption) rfl)

theorem led_mid {w : World} {h₀ h : Heap} {L : Nat} {rest : List (Addr × Obj)} {c dd d mu dm : Nat} {cap ctr : Int} {tc tt : Tok} {thr : Value} {dobj : Obj} {ht : Tok} {e1 e2 : List Ent} {e : Ent}
    (N : Led h₀ L h ([(c, lru dd d mu cap tc thr ctr tt), (dd, dictOf [] 0), (d, dobj), (e.tup, e.tobj), (e.lst, e.lobj)] ++ (([(mu, instObj 53 dm), (dm, heldD w ht false)] ++ e1.flatMap Ent.led ++ e2.flatMap Ent.led) ++ rest))) :
    Led h₀ L h (Cache.led ⟨c, dd, d, mu, dm, cap, tc, thr, ctr, tt, e1 ++ e :: e2, dobj, ht⟩ w ++ rest) := by
  have H := N.perm (perm5 [_, _, _] [_, _] _ [_, _] _ _).symm
  unfold Cache.led
  simp only [List.flatMap_append, List.flatMap_cons]
  rw [← List.append_assoc (e1.flatMap Ent.led)]
  exact H
theorem get_hit {w : World} {A₀ : Around} {base h₀ : Heap} {env : Env} {outer : List Env} {L : Addr} {m : Str → Option Value} {p : Program} {loose : List Str} {mean : ExcName → Option Value} {mg mb : Str → Option Value} {s : Shared} {E : Value → Shared → Prop} {Q : Value → Shared → Prop}
    {dp un : Nat} {gd : Option (List Code)} {rest : List (Addr × Obj)} {C : Cache} {e1 e2 : List Ent} {e : Ent} {t : Tok}
    (B : Below A₀ base outer h₀) (F : Fr h₀ L s.heap m) (X₀ : (hd.heap_39 w.params).In h₀) (N : Led h₀ L s.heap (C.led w ++ rest))
    (T : Top p loose mean mg mb h₀) (hf : env.frame = some L) (hke : env.scope.kind = .function) (hdp : dp < 800) (_hun : un < 4000)
    (he : C.ents = e1 ++ e :: e2) (ok : C.Ok w)
    (h : ∀ h' tk t1 t2 n, Fr h₀ L h' m → Led h₀ L h' (Cache.led { C with ctr := C.ctr + 1, tt := t1, ents := e1 ++ { e with cnt := C.ctr + 1, ct := t2, ln := n } :: e2 } w ++ rest) → Q (.str e.sv e.vt) { s with heap := h', toks := tk }) :
    wpAny (MO w) (Ar dp (env :: outer) gd un) (call (.ref 131) [.ref C.c, .int e.key t]) Q E s := by
  walk_at "FILL"
  have nk := ok.nodup
  obtain ⟨hik, lo⟩ := ok
  obtain ⟨c, dd, d, mu, dm, cap, tc, thr, ctr, tt, ents, dobj, ht⟩ := C
  dsimp only at he nk lo h hik ⊢
  have hit := at_hit he nk
  subst he
  have N0 : Led h₀ L s.heap ([(c, lru dd d mu cap tc thr ctr tt), (dd, dictOf [] 0), (d, dobj), (e.tup, e.tobj), (e.lst, e.lobj)] ++ (([(mu, instObj 53 dm), (dm, heldD w ht false)] ++ e1.flatMap Ent.led ++ e2.flatMap Ent.led) ++ rest)) := by
    refine N.perm ?_
    unfold Cache.led
    simp only [List.flatMap_append, List.flatMap_cons]
    rw [← List.append_assoc (e1.flatMap Ent.led)]
    exact perm5 _ _ _ _ _ _
  have N1 := N0.left
  have N2 := N0.right
  have dis := N0.dis
  have hnd := N0.nodup
  simp only [List.map_append, List.map_cons, List.map_nil, List.nodup_cons, List.mem_cons, List.not_mem_nil, or_false, not_or, List.nodup_nil, and_true, not_false_eq_true] at hnd
  refine wpAny_call ?_
  walk_at "ENTER"
  intro g L' h₁ FG F' N' B' X' T' hr' l1 l2
  dsimp only
  k_steps
  rename News h₀ L _ _ => NR; revert NR; rename News h₀ L _ _ => NL; intro NR
  refine' h _ _ _ _ _ (by assumption) (led_mid (e := Ent.mk e.key e.kt e.sv e.vt (ctr + 1) _ e.tup e.lst e.tn _) (N0.of2 NL NR rfl))

theorem get_miss {w : World} {A₀ : Around} {base h₀ : Heap} {env : Env} {outer : List Env} {L : Addr} {m : Str → Option Value} {p : Program} {loose : List Str} {mean : ExcName → Option Value} {mg mb : Str → Option Value} {s : Shared} {E : Value → Shared → Prop} {Q : Value → Shared → Prop}
    {dp un : Nat} {gd : Option (List Code)} {rest : List (Addr × Obj)} {C : Cache} {k : Int} {t : Tok}
    (B : Below A₀ base outer h₀) (F : Fr h₀ L s.heap m) (X₀ : (hd.heap_39 w.params).In h₀) (N : Led h₀ L s.heap (C.led w ++ rest))
    (T : Top p loose mean mg mb h₀) (hf : env.frame = some L) (hke : env.scope.kind = .function) (hdp : dp < 800) (_hun : un < 4000)
    (hk : k ∉ C.ents.map Ent.key) (ok : C.Ok w)
    (h : ∀ h' tk, Fr h₀ L h' m → Led h₀ L h' (C.led w ++ rest) → Q .none { s with heap := h', toks := tk }) :
    wpAny (MO w) (Ar dp (env :: outer) gd un) (call (.ref 131) [.ref C.c, .int k t]) Q E s := by
  walk_at "FILL"
  have hit := at_miss hk
  obtain ⟨hik, lo⟩ := ok
  have N0 : Led h₀ L s.heap (C.top ++ ((C.lock w ++ C.ents.flatMap Ent.led) ++ rest)) := by
    refine N.perm ?_
    unfold Cache.led
    rw [List.append_assoc, List.append_assoc, List.append_assoc]
  have N1 := N0.left
  have N2 := N0.right
  have dis := N0.dis
  refine wpAny_call ?_
  walk_at "ENTER"
  intro g L' h₁ FG F' N' B' X' T' hr' l1 l2
  dsimp only
  k_steps
  rename News h₀ L _ _ => NR; revert NR; rename News h₀ L _ _ => NL; intro NR
  refine h _ _ (by assumption) ((N0.of2 NL NR rfl).perm ?_)
  unfold Cache.led
  rw [List.append_assoc, List.append_assoc, List.append_assoc]
end Mine

namespace Mine
section
local macro_rules | `(tactic| walk_at "RESET") => `(tactic| trivial)
local macro_rules | `(tactic| walk_at "RESET") => `(tactic| trivial)
local macro_rules | `(tactic| walk_at "RESET") => `(tactic| trivial)
local macro_rules | `(tactic| walk_at "RESET") => `(tactic| trivial)
local macro_rules | `(tactic| walk_at "RESET") => `(tactic| trivial)
local macro_rules | `(tactic| walk_at "RESET") => `(tactic| trivial)
local macro_rules | `(tactic| walk_at "RESET") => `(tactic| trivial)
local macro_rules | `(tactic| walk_at "RESET") => `(tactic| trivial)
local macro_rules | `(tactic| walk_at "RESET") => `(tactic| trivial)
local macro_rules | `(tactic| walk_at "RESET") => `(tactic| trivial)
local macro_rules | `(tactic| walk_at "RESET") => `(tactic| trivial)
local macro_rules | `(tactic| walk_at "RESET") => `(tactic| trivial)
local macro_rules | `(tactic| walk_at "RESET") => `(tactic| trivial)
local macro_rules | `(tactic| walk_at "RESET") => `(tactic| trivial)
local macro_rules | `(tactic| walk_at "RESET") => `(tactic| trivial)
local macro_rules | `(tactic| walk_at "RESET") => `(tactic| trivial)
local macro_rules | `(tactic| walk_at "RESET") => `(tactic| trivial)
local macro_rules | `(tactic| walk_at "RESET") => `(tactic| trivial)
local macro_rules | `(tactic| walk_at "RESET") => `(tactic| trivial)
local macro_rules | `(tactic| walk_at "RESET") => `(tactic| trivial)
local macro_rules | `(tactic| walk_at "RESET") => `(tactic| trivial)
local macro_rules | `(tactic| walk_at "RESET") => `(tactic| trivial)
local macro_rules | `(tactic| walk_at "RESET") => `(tactic| trivial)
local macro_rules | `(tactic| walk_at "RESET") => `(tactic| trivial)
theorem resetL2 : True := by
  w_top off
  first | walk1 | trivial
end
end Mine

namespace Mine
local macro_rules | `(tactic| k_room) => `(tactic| (show _ < _; (try simp only [depth_under_make, depth_under_kw, depth_in1, depth_deeper, depth_caller]); (try unfold recursionLimit); omega))
local macro_rules | `(tactic| k_units) => `(tactic| (show _ < _; (try simp only [units_deeper, units_in1]); (try unfold cLine); omega))
local macro_rules | `(tactic| walk_at "FILL") => `(tactic| (have _fill : (fun (_ : OpenLaw) (_ : Params → Frag) => True) PySem.Challenge.rw_bn5031_01 hd.heap_39 := by k_fill; trivial))
local macro_rules | `(tactic| walk_at "ENTER") => `(tactic| (
  refine' callF ?k1 ?k2 ?k3 ?k4 ?k4r ?k4d ?k5 ?kA ?kF ?kK ?k6 ?k7 ?k8 ?k9 ?kB ?_ ?c2 ?c3 ?c4 ?c5; (case kA => exact rfl); (case kF => assumption); (case kK => assumption); (case k4d => assumption); (case k1 => assumption); (case k2 => assumption); (case k3 => assumption); (case k4 => assumption); (case k4r => assumption); (case k5 => assumption); (case k6 => k_is); (case k7 => k_is); (case k8 => k_room); (case k9 => first | exact BindsTo.of_eq rfl | exact binds_K (by k_in) rfl (by k_is) rfl rfl rfl | fail "k_enter: no rule for these arguments"); (case c5 => decide); (case kB => exact locs rfl); (case c2 => exact rfl); (case c3 => exact rfl); (case c4 => exact rfl); k_whole))

/-- what cap + cap * thr is, seen by «len > ..» -/
structure Thr (w : World) (cap : Int) (thr : Value) (lim : Nat → Bool) where
  handed : handedIn thr = true
  Y : Value → Prop
  Z : Value → Prop
  mul : ∀ {A : Around} {E : Value → Shared → Prop} {s : Shared} {Q : Value → Shared → Prop} {t : Tok}, (∀ y tk, Y y → Q y { s with toks := tk }) → wpAny (MO w) A (binaryOp .Mult (.int cap t) thr) Q E s
  add : ∀ {A : Around} {E : Value → Shared → Prop} {s : Shared} {Q : Value → Shared → Prop} {t : Tok} {y : Value}, Y y → (∀ z tk, Z z → Q z { s with toks := tk }) → wpAny (MO w) A (binaryOp .Add (.int cap t) y) Q E s
  gt : ∀ {A : Around} {E : Value → Shared → Prop} {s : Shared} {Q : Value → Shared → Prop} {t : Tok} {z : Value} {n : Nat}, Z z → n ≤ 20 → (∀ tk, Q (.bool (lim n)) { s with toks := tk }) → wpAny (MO w) A (compareOp .Gt (.int (n : Int) t) z) Q E s
section
variable {w : World} {cap : Int} {thr : Value} {lim : Nat → Bool} {A : Around} {E : Value → Shared → Prop} {s : Shared} {Q : Value → Shared → Prop} {t : Tok} {n : Nat} {y z : Value} {b : Bool}
theorem Thr.mulK (T : Thr w cap thr lim) (h : ∀ y tk, T.Y y → Q y { s with toks := tk }) : wpAny (MO w) A (binaryOp .Mult (.int cap t) thr) Q E s := T.mul h
theorem Thr.addK (T : Thr w cap thr lim) (hy : T.Y y) (h : ∀ z tk, T.Z z → Q z { s with toks := tk }) : wpAny (MO w) A (binaryOp .Add (.int cap t) y) Q E s := T.add hy h
theorem Thr.gtK (T : Thr w cap thr lim) (hz : T.Z z) (hn : n ≤ 20) (hb : lim n = b) (h : ∀ tk, Q (.bool b) { s with toks := tk }) : wpAny (MO w) A (compareOp .Gt (.int (n : Int) t) z) Q E s := T.gt hz hn (hb ▸ h)
end
local macro_rules | `(tactic| k_handed) => `(tactic| assumption)
local macro_rules | `(tactic| walk_at "binaryOp Mult") => `(tactic| (k_here; k_dflt (refine' Thr.mulK ?T ?_; (case T => assumption); k_whole); intro y' tk' hy'))
local macro_rules | `(tactic| walk_at "binaryOp Add") => `(tactic| (k_here; k_dflt (refine' Thr.addK ?T ?y ?_; (case T => assumption); (case y => assumption); k_whole); intro z' tk' hz'))
local macro_rules | `(tactic| walk_at "compareOp Gt") => `(tactic| (k_here; k_dflt (refine' Thr.gtK ?T ?z ?n ?b ?_; (case T => assumption); (case z => assumption); (case n => assumption); (case b => assumption); k_whole); intro tk'))
local macro_rules | `(tactic| walk_at "call builtin:len") => `(tactic| (k_here; (with_reducible show wpAny _ _ (call (Value.builtin "len") [Value.ref _]) _ _ _); k_dflt (refine' dlen_led ?N ?hm ?hd ?lo ?hl ?_; (case hd => assumption); (case N => k_asm); (case hm => k_mem); (case lo => assumption); (case hl => assumption); k_whole); intro t'))

theorem kvs_len (l : List Ent) : (kvsOf l).length = l.length := List.length_map ..
theorem manage_fit {w : World} {A₀ : Around} {base h₀ : Heap} {env : Env} {outer : List Env} {L : Addr} {m : Str → Option Value} {p : Program} {loose : List Str} {mean : ExcName → Option Value} {mg mb : Str → Option Value} {s : Shared} {E : Value → Shared → Prop} {Q : Value → Shared → Prop}
    {dp un : Nat} {gd : Option (List Code)} {rest : List (Addr × Obj)} {C : Cache} {lim : Nat → Bool}
    (B : Below A₀ base outer h₀) (F : Fr h₀ L s.heap m) (X₀ : (hd.heap_39 w.params).In h₀) (N : Led h₀ L s.heap (C.led w ++ rest))
    (T : Top p loose mean mg mb h₀) (hf : env.frame = some L) (hke : env.scope.kind = .function) (hdp : dp < 700) (_hun : un < 3000)
    (hT : Thr w C.cap C.thr lim) (h20 : C.ents.length ≤ 20) (hlim : lim C.ents.length = false) (ok : C.Ok w)
    (h : ∀ h' tk, Fr h₀ L h' m → Led h₀ L h' (C.led w ++ rest) → Q .none { s with heap := h', toks := tk }) :
    wpAny (MO w) (Ar dp (env :: outer) gd un) (call (.ref 181) [.ref C.c]) Q E s := by
  walk_at "FILL"
  have hth := hT.handed
  obtain ⟨hik, lo⟩ := ok
  obtain ⟨c, dd, d, mu, dm, cap, tc, thr, ctr, tt, ents, dobj, ht⟩ := C
  dsimp only at hT h20 hlim lo h hik hth ⊢
  rw [← kvs_len] at h20 hlim
  have N0 : Led h₀ L s.heap ([(c, lru dd d mu cap tc thr ctr tt), (dd, dictOf [] 0), (d, dobj), (mu, instObj 53 dm), (dm, heldD w ht false)] ++ (ents.flatMap Ent.led ++ rest)) := by
    refine N.perm ?_
    unfold Cache.led
    rw [List.append_assoc]
    exact List.Perm.refl _
  have N1 := N0.left
  have N2 := N0.right
  have dis := N0.dis
  have hnd := N0.nodup
  simp only [List.map_append, List.map_cons, List.map_nil, List.nodup_cons, List.mem_cons, List.not_mem_nil, or_false, not_or, List.nodup_nil, and_true, not_false_eq_true] at hnd
  refine wpAny_call ?_
  walk_at "ENTER"
  intro g L' h₁ FG F' N' B' X' T' hr' l1 l2
  dsimp only
  k_steps
  rename News h₀ L _ _ => NR; revert NR; rename News h₀ L _ _ => NL; intro NR
  refine h _ _ (by assumption) ((N0.of2 NL NR rfl).perm ?_)
  unfold Cache.led
  rw [List.append_assoc]
  exact List.Perm.refl _
end Mine

namespace Mine
section
local macro_rules | `(tactic| walk_at "RESET") => `(tactic| trivial)
local macro_rules | `(tactic| walk_at "RESET") => `(tactic| trivial)
local macro_rules | `(tactic| walk_at "RESET") => `(tactic| trivial)
local macro_rules | `(tactic| walk_at "RESET") => `(tactic| trivial)
local macro_rules | `(tactic| walk_at "RESET") => `(tactic| trivial)
local macro_rules | `(tactic| walk_at "RESET") => `(tactic| trivial)
local macro_rules | `(tactic| walk_at "RESET") => `(tactic| trivial)
local macro_rules | `(tactic| walk_at "RESET") => `(tactic| trivial)
local macro_rules | `(tactic| walk_at "RESET") => `(tactic| trivial)
local macro_rules | `(tactic| walk_at "RESET") => `(tactic| trivial)
local macro_rules | `(tactic| walk_at "RESET") => `(tactic| trivial)
local macro_rules | `(tactic| walk_at "RESET") => `(tactic| trivial)
local macro_rules | `(tactic| walk_at "RESET") => `(tactic| trivial)
local macro_rules | `(tactic| walk_at "RESET") => `(tactic| trivial)
local macro_rules | `(tactic| walk_at "RESET") => `(tactic| trivial)
local macro_rules | `(tactic| walk_at "RESET") => `(tactic| trivial)
local macro_rules | `(tactic| walk_at "RESET") => `(tactic| trivial)
local macro_rules | `(tactic| walk_at "RESET") => `(tactic| trivial)
local macro_rules | `(tactic| walk_at "RESET") => `(tactic| trivial)
local macro_rules | `(tactic| walk_at "RESET") => `(tactic| trivial)
local macro_rules | `(tactic| walk_at "RESET") => `(tactic| trivial)
local macro_rules | `(tactic| walk_at "RESET") => `(tactic| trivial)
local macro_rules | `(tactic| walk_at "RESET") => `(tactic| trivial)
local macro_rules | `(tactic| walk_at "RESET") => `(tactic| trivial)
theorem resetL3 : True := by
  w_top off
  first | walk1 | trivial
end
end Mine

namespace Mine
/-! the sort's tree of questions, answered by a strict order of apart numbers -/
section
variable {N : Nat} {f : Nat → Int} {cmp : Nat → Nat → (Bool → Shared → Prop) → Shared → Prop} {P : Shared → Prop}
structure PermR (N : Nat) (p : Array Nat) : Prop where
  perm : p.toList.Perm (List.range N)
theorem PermR.size {p : Array Nat} (h : PermR N p) : p.size = N := by
  have := h.perm.length_eq
  rw [Array.length_toList, List.length_range] at this; exact this
theorem PermR.lt {p : Array Nat} (h : PermR N p) (h0 : 0 < N) (i : Nat) : p.getD i 0 < N := by
  by_cases hi : i < p.size
  · have e : p.getD i 0 = p[i] := by simp [Array.getD, hi]
    rw [e]
    have hm : p[i] ∈ p.toList := Array.getElem_mem_toList hi
    exact List.mem_range.mp (h.perm.mem_iff.mp hm)
  · have e : p.getD i 0 = 0 := by simp [Array.getD, hi]
    rw [e]; exact h0
theorem PermR.inj {p : Array Nat} (h : PermR N p) {i j : Nat} (hi : i < N) (hj : j < N) (e : p.getD i 0 = p.getD j 0) : i = j := by
  have hs := h.size
  have e1 : p.getD i 0 = p.toList[i]'(by rw [Array.length_toList]; omega) := by simp [Array.getD, hs, hi]
  have e2 : p.getD j 0 = p.toList[j]'(by rw [Array.length_toList]; omega) := by simp [Array.getD, hs, hj]
  have nd : p.toList.Nodup := h.perm.nodup_iff.mpr List.nodup_range
  rw [e1, e2] at e
  exact (List.getElem_inj nd).mp e
theorem PermR.of_perm {p q : Array Nat} (h : PermR N p) (hq : q.Perm p) : PermR N q := ⟨(Array.perm_iff_toList_perm.mp hq).trans h.perm⟩
theorem PermR.rev {p : Array Nat} (h : PermR N p) (i j : Nat) : PermR N (kas_rev p i j) := h.of_perm (mirror_perm _ _ _ _)
theorem PermR.bub {p : Array Nat} (h : PermR N p) (i j : Nat) : PermR N (bubble p i j) := h.of_perm (bubble_perm _ _ _)
theorem PermR.range : PermR N (List.toArray (List.range N)) := ⟨by simp⟩
def gk (f : Nat → Int) (p : Array Nat) (i : Nat) : Int := f (p.getD i 0)
theorem getD_of {p q : Array Nat} {i j : Nat} (h : p[i]? = q[j]?) : p.getD i 0 = q.getD j 0 := by
  have e1 : ∀ (x : Array Nat) k, x.getD k 0 = (x[k]?).getD 0 := fun x k => by simp [Array.getD_eq_getD_getElem?]
  rw [e1, e1, h]
theorem gk_rev {p : Array Nat} {i j : Nat} (hj : j ≤ p.size) (k : Nat) : gk f (kas_rev p i j) k = if i ≤ k ∧ k < j then gk f p (i + j - 1 - k) else gk f p k := by
  have h := getElem?_mirror_all (xs := p) (i := i) hj k
  by_cases c : i ≤ k ∧ k < j
  · rw [if_pos c] at h ⊢; exact congrArg f (getD_of h)
  · rw [if_neg c] at h ⊢; exact congrArg f (getD_of h)
theorem gk_bub {p : Array Nat} {src d : Nat} (hs : src < p.size) (hd : d ≤ src) (k : Nat) : gk f (bubble p src d) k = if k = src - d then gk f p src else if src - d < k ∧ k ≤ src then gk f p (k - 1) else gk f p k := by
  have h := getElem?_bubble hs d hd k
  by_cases c : k = src - d
  · rw [if_pos c] at h ⊢; exact congrArg f (getD_of h)
  · rw [if_neg c] at h ⊢
    by_cases c2 : src - d < k ∧ k ≤ src
    · rw [if_pos c2] at h ⊢; exact congrArg f (getD_of h)
    · rw [if_neg c2] at h ⊢; exact congrArg f (getD_of h)
/-- strictly up, below k -/
def Up (f : Nat → Int) (p : Array Nat) (k : Nat) : Prop := ∀ i j, i < j → j < k → gk f p i < gk f p j
def Down (f : Nat → Int) (p : Array Nat) (k : Nat) : Prop := ∀ i j, i < j → j < k → gk f p j < gk f p i
theorem Up.snoc {p : Array Nat} {k : Nat} (h : Up f p k) (hk : k = 0 ∨ gk f p (k - 1) < gk f p k) : Up f p (k + 1) := by
  intro i j hij hj
  by_cases e : j = k
  · subst e
    rcases hk with rfl | hk
    · omega
    · by_cases e2 : i = j - 1
      · subst e2; exact hk
      · exact Int.lt_trans (h i (j - 1) (by omega) (by omega)) hk
  · exact h i j hij (by omega)
theorem Down.snoc {p : Array Nat} {k : Nat} (h : Down f p k) (hk : k = 0 ∨ gk f p k < gk f p (k - 1)) : Down f p (k + 1) := by
  intro i j hij hj
  by_cases e : j = k
  · subst e
    rcases hk with rfl | hk
    · omega
    · by_cases e2 : i = j - 1
      · subst e2; exact hk
      · exact Int.lt_trans hk (h i (j - 1) (by omega) (by omega))
  · exact h i j hij (by omega)

variable (hN : 0 < N) (inj : ∀ i j, i < N → j < N → f i = f j → i = j)
  (hc : ∀ i j, i < N → j < N → i ≠ j → ∀ (C : Bool → Shared → Prop) (s : Shared), P s → (∀ s', P s' → C (decide (f i < f j)) s') → cmp i j C s)
include hN hc in
theorem ask_ {α : Type} {p : Array Nat} (hp : PermR N p) {i j : Nat} {k : Bool → KasT α} {Q : α → Shared → Prop} {s : Shared} (hs : P s) (hi : i < N) (hj : j < N) (hij : i ≠ j)
    (h : ∀ s', P s' → (k (decide (gk f p i < gk f p j))).kasWp cmp Q s') : (KasT.ask (p.getD i 0) (p.getD j 0) k).kasWp cmp Q s :=
  hc _ _ (hp.lt hN i) (hp.lt hN j) (fun q => hij (hp.inj hi hj q)) _ _ hs h
include inj in
theorem gk_ne {p : Array Nat} (hN : 0 < N) (hp : PermR N p) {i j : Nat} (hi : i < N) (hj : j < N) (hij : i ≠ j) : gk f p i ≠ gk f p j := fun e =>
  hij (hp.inj hi hj (inj _ _ (hp.lt hN i) (hp.lt hN j) e))
include hN inj hc in
theorem asc_ {p : Array Nat} (hp : PermR N p) {Q : Nat → Shared → Prop} : ∀ (fu n : Nat) (s : Shared), P s → 1 ≤ n → n + fu ≤ N → Up f p n →
    (∀ m s', P s' → n ≤ m → m ≤ n + fu → Up f p m → (m < n + fu → gk f p m < gk f p (m - 1)) → Q m s') → (kas_asc p fu n).kasWp cmp Q s
  | 0, n, s, hs, _, _, hu, h => h n s hs (Nat.le_refl _) (Nat.le_refl _) hu (fun q => by omega)
  | fu + 1, n, s, hs, h1, hle, hu, h => by
    refine ask_ hN hc hp hs (by omega) (by omega) (by omega) fun s' hs' => ?_
    by_cases c : gk f p n < gk f p (n - 1)
    · rw [decide_eq_true c, if_pos rfl]
      exact h n s' hs' (Nat.le_refl _) (by omega) hu (fun _ => c)
    · rw [decide_eq_false c, if_neg Bool.false_ne_true]
      have hne := gk_ne inj hN hp (i := n - 1) (j := n) (by omega) (by omega) (by omega)
      refine asc_ hp fu (n + 1) s' hs' (by omega) (by omega) (hu.snoc (.inr (by omega))) fun m s2 hs2 a1 a2 a3 a4 => h m s2 hs2 (by omega) (by omega) a3 fun q => a4 (by omega)
include hN inj hc in
theorem desc_ {p : Array Nat} (hp : PermR N p) {Q : Array Nat × Nat × Nat → Shared → Prop} : ∀ (fu n : Nat) (s : Shared), P s → 1 ≤ n → n + fu ≤ N → Down f p n →
    (∀ m s', P s' → n ≤ m → m ≤ n + fu → Down f p m → (m < n + fu → gk f p (m - 1) < gk f p m) → Q (p, m, 0) s') → (kas_desc fu p n 0).kasWp cmp Q s
  | 0, n, s, hs, _, _, hu, h => h n s hs (Nat.le_refl _) (Nat.le_refl _) hu (fun q => by omega)
  | fu + 1, n, s, hs, h1, hle, hu, h => by
    refine ask_ hN hc hp hs (by omega) (by omega) (by omega) fun s' hs' => ?_
    by_cases c : gk f p n < gk f p (n - 1)
    · rw [decide_eq_true c, if_pos rfl, if_neg (by omega)]
      exact desc_ hp fu (n + 1) s' hs' (by omega) (by omega) (hu.snoc (.inr c)) fun m s2 hs2 a1 a2 a3 a4 => h m s2 hs2 (by omega) (by omega) a3 fun q => a4 (by omega)
    · rw [decide_eq_false c, if_neg Bool.false_ne_true]
      have hne := gk_ne inj hN hp (i := n - 1) (j := n) (by omega) (by omega) (by omega)
      have c2 : gk f p (n - 1) < gk f p n := by omega
      refine ask_ hN hc hp hs' (by omega) (by omega) (by omega) fun s2 hs2 => ?_
      rw [decide_eq_true c2, if_pos rfl]
      exact h n s2 hs2 (Nat.le_refl _) (by omega) hu (fun _ => c2)
include hN inj hc in
theorem count_ {p : Array Nat} (hp : PermR N p) {Q : Nat × Array Nat → Shared → Prop} {s : Shared} (hs : P s) (h2 : 2 ≤ N)
    (h : ∀ m p' s', P s' → 1 ≤ m → m ≤ N → PermR N p' → Up f p' m → Q (m, p') s') : (kas_count N p).kasWp cmp Q s := by
  have hsz := hp.size
  unfold kas_count
  rw [KasT.kasWp_bind]
  refine asc_ hN inj hc hp (N - 1) 1 s hs (Nat.le_refl 1) (by omega) (fun i j _ _ => by omega) fun n s1 hs1 a1 a2 a3 a4 => ?_
  by_cases e1 : (n == N) = true
  · rw [if_pos e1]
    exact h n p s1 hs1 a1 (by omega) hp a3
  · rw [if_neg e1]
    have hne : n ≠ N := fun q => e1 (by rw [q]; exact beq_self_eq_true _)
    by_cases e2 : n > 1
    · rw [if_pos e2]
      refine ask_ hN hc hp hs1 (by omega) (by omega) (by omega) fun s2 hs2 => ?_
      rw [decide_eq_true (a3 0 (n - 1) (by omega) (by omega)), if_pos rfl]
      exact h n p s2 hs2 a1 (by omega) hp a3
    · rw [if_neg e2]
      obtain rfl : n = 1 := by omega
      have c := a4 (by omega)
      unfold kas_descPart
      rw [KasT.kasWp_bind]
      have hd2 : Down f p 2 := by
        intro i j hij hj
        obtain rfl : i = 0 := by omega
        obtain rfl : j = 1 := by omega
        exact c
      refine desc_ hN inj hc hp (N - (1 + 1)) (1 + 1) s1 hs1 (by omega) (by omega) hd2 fun m s2 hs2 b1 b2 b3 b4 => ?_
      rw [if_neg (by simp)]
      unfold kas_tail3
      rw [KasT.kasWp_bind]
      have hup : Up f (kas_rev p 0 m) m := by
        intro i j hij hj
        rw [gk_rev (by omega), gk_rev (by omega), if_pos ⟨Nat.zero_le _, by omega⟩, if_pos ⟨Nat.zero_le _, hj⟩]
        exact b3 _ _ (by omega) (by omega)
      exact asc_ hN inj hc (hp.rev 0 m) (N - m) m s2 hs2 (by omega) (by omega) hup fun m' s3 hs3 d1 d2 d3 _ => h m' _ s3 hs3 (by omega) (by omega) (hp.rev 0 m) d3
include hN inj hc in
theorem place_ {p : Array Nat} (hp : PermR N p) {k : Nat} (hk : k < N) (hu : Up f p k) {Q : Nat → Shared → Prop} : ∀ (fu l r : Nat) (s : Shared), P s → l ≤ r → r ≤ k → r - l ≤ fu → (∀ i, i < l → gk f p i < gk f p k) → (∀ i, r ≤ i → i < k → gk f p k < gk f p i) →
    (∀ l s', P s' → l ≤ k → (∀ i, i < l → gk f p i < gk f p k) → (∀ i, l ≤ i → i < k → gk f p k < gk f p i) → Q l s') → (kas_place p k fu l r).kasWp cmp Q s
  | 0, l, r, s, hs, hlr, hrk, hf, a1, a2, h => by
    obtain rfl : l = r := by omega
    exact h l s hs hrk a1 a2
  | fu + 1, l, r, s, hs, hlr, hrk, hf, a1, a2, h => by
    unfold kas_place
    by_cases e : l ≥ r
    · rw [if_pos e]
      obtain rfl : l = r := by omega
      exact h l s hs hrk a1 a2
    · rw [if_neg e]
      refine ask_ hN hc hp hs (by omega) (by omega) (by omega) fun s' hs' => ?_
      have hne := gk_ne inj hN hp (i := k) (j := (l + r) / 2) hk (by omega) (by omega)
      by_cases c : gk f p k < gk f p ((l + r) / 2)
      · rw [decide_eq_true c, if_pos rfl]
        refine place_ hp hk hu fu l ((l + r) / 2) s' hs' (by omega) (by omega) (by omega) a1 (fun i b1 b2 => ?_) h
        by_cases q : i = (l + r) / 2
        · rw [q]; exact c
        · exact Int.lt_trans c (hu _ _ (by omega) b2)
      · rw [decide_eq_false c, if_neg Bool.false_ne_true]
        refine place_ hp hk hu fu ((l + r) / 2 + 1) r s' hs' (by omega) (by omega) (by omega) (fun i b1 => ?_) a2 h
        by_cases q : i = (l + r) / 2
        · rw [q]; omega
        · have := hu i ((l + r) / 2) (by omega) (by omega)
          omega
include hN inj hc in
theorem bin_ {Q : Array Nat → Shared → Prop} : ∀ (fu : Nat) (p : Array Nat) (k : Nat) (s : Shared), PermR N p → P s → k + fu = N → Up f p k →
    (∀ p' s', P s' → PermR N p' → Up f p' N → Q p' s') → (kas_bin fu p k).kasWp cmp Q s
  | 0, p, k, s, hp, hs, hk, hu, h => by
    obtain rfl : k = N := by omega
    exact h p s hs hp hu
  | fu + 1, p, k, s, hp, hs, hk, hu, h => by
    rw [show kas_bin (fu + 1) p k = (kas_place p k k 0 k).bind fun l => kas_bin fu (bubble p k (k - l)) (k + 1) from rfl, KasT.kasWp_bind]
    have hsz := hp.size
    refine place_ hN inj hc hp (by omega) hu k 0 k s hs (Nat.zero_le _) (Nat.le_refl _) (by omega) (fun i hi => by omega) (fun i a b => by omega) fun l s' hs' hl a1 a2 => ?_
    refine bin_ fu _ (k + 1) s' (hp.bub _ _) hs' (by omega) ?_ h
    intro i j hij hj
    have e : k - (k - l) = l := by omega
    rw [gk_bub (by omega) (by omega), gk_bub (by omega) (by omega), e]
    by_cases q1 : i = l
    · rw [if_pos q1, if_neg (by omega), if_pos (by omega)]
      exact a2 (j - 1) (by omega) (by omega)
    · rw [if_neg q1]
      by_cases q2 : j = l
      · rw [if_pos q2, if_neg (by omega)]
        exact a1 i (by omega)
      · rw [if_neg q2]
        by_cases q3 : l < i ∧ i ≤ k
        · rw [if_pos q3, if_pos (by omega)]
          exact hu _ _ (by omega) (by omega)
        · rw [if_neg q3]
          by_cases q4 : l < j ∧ j ≤ k
          · rw [if_pos q4]
            by_cases q5 : i = j - 1
            · omega
            · exact hu _ _ (by omega) (by omega)
          · rw [if_neg q4]
            exact hu _ _ hij (by omega)
include inj hc in
theorem sort_ {Q : Array Nat → Shared → Prop} {s : Shared} (h2 : 2 ≤ N) (hs : P s) (h : ∀ p' s', P s' → PermR N p' → Up f p' N → Q p' s') : (kas_sort N).kasWp cmp Q s := by
  unfold kas_sort
  rw [KasT.kasWp_bind]
  refine count_ (by omega) inj hc PermR.range hs h2 fun m p s1 hs1 a1 a2 a3 a4 => ?_
  by_cases e : m < N
  · show (if m < N then kas_bin (N - max m 1) p (max m 1) else KasT.ret p).kasWp cmp Q s1
    rw [if_pos e]
    have e2 : max m 1 = m := by omega
    rw [e2]
    exact bin_ (by omega) inj hc (N - m) p m s1 a3 hs1 (by omega) a4 h
  · show (if m < N then kas_bin (N - max m 1) p (max m 1) else KasT.ret p).kasWp cmp Q s1
    rw [if_neg e]
    obtain rfl : m = N := by omega
    exact h p s1 hs1 a3 a4
end
end Mine

namespace Mine
theorem lt_loop1 (l b : Addr) (items items2 : Array Value) (i j : Int) (t u : Tok) (n n2 : Nat) (hij : i ≠ j) (hi1 : items[Int.toNat 0]? = some (.int i t)) (hi2 : items2[Int.toNat 0]? = some (.int j u)) :
    Meets (Builtin.«list.__eq__.loop» ⟨[.ref l, .ref b, rawInt 0, rawInt 0], []⟩)
      (fun A R s => s.heap.get? l = some (seqObj "list" items n) ∧ s.heap.get? b = some (seqObj "list" items2 n2) ∧ R (.ok (.ret (.bool (decide (i < j))))) s) := by
  intro prog w A R s h
  obtain ⟨hp, g, d, tk, os⟩ := s; obtain ⟨hl, hb, h⟩ := h
  wp_walk using wpAny_loadPart' hl, wpAny_loadPart' hb
  rw [hi1, hi2]
  have hne : (i == j) = false := beq_eq_false_iff_ne.mpr hij
  refine wpAny_bind (wpAny_eqBool_int ?_)
  rw [hne]
  wp_walk using wpAny_loadPart' hl, wpAny_loadPart' hb
  rw [hi1, hi2]
  dsimp only
  exact wpAny_bind (wpAny_lt_int (wpAny_pure h))
theorem list_lt1 (l b : Addr) (items items2 : Array Value) (i j : Int) (t u : Tok) (n n2 : Nat) (hij : i ≠ j) (hi1 : items[Int.toNat 0]? = some (.int i t)) (hi2 : items2[Int.toNat 0]? = some (.int j u)) :
    Meets (Builtin.«list.__lt__» ⟨[.ref l, .ref b], []⟩)
      (fun A R s => s.heap.get? l = some (seqObj "list" items n) ∧ s.heap.get? b = some (seqObj "list" items2 n2) ∧ R (.ok (.ret (.bool (decide (i < j))))) s) := by
  intro prog w A R s h
  obtain ⟨hp, g, d, tk, os⟩ := s; obtain ⟨hl, hb, h⟩ := h
  have f3 := AutoSeq1.sub_list_list
  wp_walk using wpAny_loadPart' hl, wpAny_loadPart' hb
  exact ⟨plainId_quiet PySem.MeetsSeq3.plain_eq_loop _, codeAny_builtin PySem.MeetsSeq3.entry_eq_loop (by
    rw [Around.under_plainId PySem.MeetsSeq3.plain_eq_loop _]
    exact lt_loop1 l b items items2 i j t u n n2 hij hi1 hi2 prog w A R _ ⟨hl, hb, h⟩)⟩

section
variable {prog : Program} {w : World} {A : Around} {E : Value → Shared → Prop} {s : Shared} {x y : Addr} {i j : Int} {t u : Tok} {n n2 : Nat}
/-- the sort's question of two lists of one int each -/
theorem keyLt_one {Q : Bool → Shared → Prop} (hu : A.units < cLine) (hx : s.heap.get? x = some (seqObj "list" (List.toArray [.int i t]) n)) (hy : s.heap.get? y = some (seqObj "list" (List.toArray [.int j u]) n2)) (hij : i ≠ j)
    (h : Q (decide (i < j)) s) : wpAny (model prog w) A (keyLt' oneType' (.ref x) (.ref y)) Q E s := by
  rw [keyLt'_oneType, oneLt'_eq]
  simp only [if_true]
  refine wpAny_bind (wpAny_cRoomFor hu ?_)
  refine wpAny_bind (wpAny_callSpecialIfBound?_slot (T := "list") ⟨_, hx, rfl⟩ PySem.F.slot_list_lt (call_meets PySem.F.slot_list_lt ⟨_, hx, rfl⟩ PySem.F.entry_list_lt (PySem.F.args_list_lt_2 _ _) (list_lt1 x y _ _ i j t u n n2 hij rfl rfl) ⟨hx, hy, ?_⟩))
  exact wpAny_truthy_bool h
end

section
variable {prog : Program} {w : World} {A : Around} {E : Value → Shared → Prop} {s : Shared} {T : String} {r d : Addr} {n : Nat} {P : Nat → Value → Prop} {OK : Heap → Prop}
theorem collect_code {R : Result → Shared → Prop} (K : KdlSrc prog w T r d n P OK) (hh : A.handled = none) (hok : OK s.heap) (hn : n ≤ sizeLine)
    (hR : ∀ h' tk acc' c', (∀ b o, s.heap.get? b = some o → h'.get? b = some o) → h'.get? s.heap.objs.size = some (seqObj "list" acc' c') → ItemsOf P acc' n → R (.ok (.ret (.ref s.heap.objs.size))) { s with heap := h', toks := tk }) :
    codeAny (model prog w) A (.builtin "proto.collect" ⟨[.ref r], []⟩) R s := by
  have hlt := K.there _ hok
  have hS : (s.heap.push (seqObj "list" #[] 0)).get? s.heap.objs.size = some (seqObj "list" #[] 0) := Heap.get?_push_size _ rfl
  refine codeAny_builtin entry_proto_collect' ?_
  show wpAny _ _ (do again (.builtin "list.__iadd__" ⟨[← newList [], .ref r], []⟩)) _ _ s
  refine wpAny_bind (wpAny_newList (wpAny_pure ⟨Code.quiet_builtin _ (by decide +kernel), codeAny_builtin entry_list_iadd' ?_⟩))
  rw [Around.under_plainId (by decide +kernel)]
  show wpAny _ A.in1 (Builtin.List.listExtendWith (.ref s.heap.objs.size) (.ref r) (.ref s.heap.objs.size)) _ _ { s with heap := s.heap.push (seqObj "list" #[] 0) }
  exact kdl_extend (s := { s with heap := s.heap.push (seqObj "list" #[] 0) }) K hh (K.keep _ _ hok fun b _ o e => Heap.get?_push_of_some _ e) s.heap.objs.size (Nat.ne_of_gt hlt.1) (Nat.ne_of_gt hlt.2) _ _ hS (fun h' tk acc' c' hk hS' hacc =>
    hR h' tk acc' c' (fun b o e => hk b o (Nat.ne_of_lt (Heap.lt_size e)) (Heap.get?_push_of_some _ e)) hS' hacc) hn
theorem collect_src {Q : List Value → Shared → Prop} (K : KdlSrc prog w T r d n P OK) (hh : A.handled = none) (hok : OK s.heap) (hn : n ≤ sizeLine)
    (hQ : ∀ h' tk (vs : List Value), (∀ b o, s.heap.get? b = some o → h'.get? b = some o) → vs.length = n → (∀ j v, vs[j]? = some v → P j v) → Q vs { s with heap := h', toks := tk }) :
    wpAny (model prog w) A (collect (.ref r)) Q E s := by
  unfold collect
  refine wpAny_bind (wpAny_runValue (collect_code K hh hok hn fun h' tk acc' c' hk hS' hacc => ?_))
  show wpAny (model prog w) A (do
      let o ← load s.heap.objs.size
      match o.data with
      | .seq xs _ => pure xs.toList
      | _ => unsupported "internal:collect") Q E { s with heap := h', toks := tk }
  refine wpAny_bind (wpAny_load hS' ?_)
  exact wpAny_pure (hQ h' tk acc'.toList hk (by rw [Array.length_toList]; exact hacc.1) fun j v e => hacc.2 j v (by rw [← Array.getElem?_toList]; exact e))
end
end Mine

namespace Mine
abbrev tupV (l : List Ent) : List Value := l.map fun e => Value.ref e.tup
abbrev lstV (l : List Ent) : List Value := l.map fun e => Value.ref e.lst
def itemsR (l : List Ent) : Array Keyed := (l.map fun e => (Value.ref e.lst, Value.ref e.tup)).toArray
theorem items_zip (l : List Ent) : ((lstV l).toArray.zip (tupV l).toArray).reverse = itemsR l.reverse := by
  unfold itemsR
  apply Array.toList_inj.mp
  rw [Array.toList_reverse, Array.toList_zip, List.toList_toArray, List.toList_toArray, List.toList_toArray, List.map_reverse, List.zip_map', ]
theorem item_at (l : List Ent) {i : Nat} {e : Ent} (h : l[i]? = some e) : kas_item (itemsR l) i = (Value.ref e.lst, Value.ref e.tup) := by
  unfold kas_item itemsR
  rw [Array.getD_eq_getD_getElem?, List.getElem?_toArray, List.getElem?_map, h]; rfl
def cntF (l : List Ent) (i : Nat) : Int := ((l.map Ent.cnt)[i]?).getD 0
theorem cntF_at (l : List Ent) {i : Nat} {e : Ent} (h : l[i]? = some e) : cntF l i = e.cnt := by
  unfold cntF; rw [List.getElem?_map, h]; rfl

/-- the sorted entries, read off the places -/
def readE (l : List Ent) (p : Array Nat) : List Ent := p.toList.filterMap fun i => l[i]?
theorem readE_perm {l : List Ent} {p : Array Nat} (h : PermR l.length p) : (readE l p).Perm l := by
  unfold readE
  refine (h.perm.filterMap _).trans ?_
  have : (List.range l.length).filterMap (fun i => l[i]?) = l := by
    apply List.ext_getElem?
    intro i
    have e1 : (List.range l.length).filterMap (fun i => l[i]?) = (List.range l.length).pmap (fun i hi => l[i]'hi) (fun i hi => List.mem_range.mp hi) := by
      rw [List.pmap_eq_map_attach]
      have : ∀ (L : List Nat) (hL : ∀ i ∈ L, i < l.length), L.filterMap (fun i => l[i]?) = L.pmap (fun i hi => l[i]'hi) hL := by
        intro L
        induction L with
        | nil => intro _; rfl
        | cons a L ih =>
          intro hL
          rw [List.filterMap_cons, List.getElem?_eq_getElem (hL a (List.mem_cons_self)), List.pmap_cons, ih fun i hi => hL i (List.mem_cons_of_mem _ hi)]
      rw [this _ fun i hi => List.mem_range.mp hi, List.pmap_eq_map_attach]
    rw [e1]
    simp only [List.getElem?_pmap]
    by_cases hi : i < l.length
    · simp [hi]
    · simp [hi]
  rw [this]
theorem readE_map {l : List Ent} {p : Array Nat} (h : PermR l.length p) : (p.map (kas_item (itemsR l))).toList.map (·.2) = tupV (readE l p) := by
  rw [Array.toList_map, List.map_map]
  unfold readE tupV
  rw [List.map_filterMap]
  have hlt : ∀ i ∈ p.toList, i < l.length := fun i hi => List.mem_range.mp (h.perm.mem_iff.mp hi)
  revert hlt
  generalize p.toList = L
  intro hlt
  induction L with
  | nil => rfl
  | cons a L ih =>
    have ha := hlt a List.mem_cons_self
    have e : l[a]? = some l[a] := List.getElem?_eq_getElem ha
    rw [List.map_cons, List.filterMap_cons, e, ih fun i hi => hlt i (List.mem_cons_of_mem _ hi)]
    show (kas_item (itemsR l) a).2 :: _ = _
    rw [item_at l e]; rfl
theorem readE_up {l : List Ent} {p : Array Nat} (h : PermR l.length p) (hu : Up (cntF l) p l.length) : (readE l p).Pairwise fun x y => x.cnt < y.cnt := by
  unfold readE
  rw [List.pairwise_filterMap, List.pairwise_iff_getElem]
  intro i j hi hj hij b hb c hc
  have hs := h.size
  rw [Array.length_toList] at hi hj
  have e1 : p.toList[i] = p.getD i 0 := by simp [Array.getD, hi]
  have e2 : p.toList[j] = p.getD j 0 := by simp [Array.getD, hj]
  have := hu i j hij (by omega)
  unfold gk at this
  rw [← e1, ← e2, cntF_at l hb, cntF_at l hc] at this
  exact this

section
variable {prog : Program} {w : World} {A : Around} {E : Value → Shared → Prop} {s : Shared} {h₀ : Heap} {L : Addr} {m : Str → Option Value} {news : List (Addr × Obj)} {a kS : Addr} {l : List Ent} {e e1 : Nat} {P : PySem.Fin → Shared → Prop}
theorem looks_typeOf_at {M : Model} {h : Heap} {a : Addr} {o : Obj} {v : Value} (ho : h.get? a = some o) (hc : o.cls = v) : Looks M h (typeOf (.ref a)) v := by
  subst hc
  exact (Looks.ld ho).andThen .now
theorem srt_end (hu : A.units < cLine) (F : Fr h₀ L s.heap m) (N : News h₀ L s.heap (news ++ [(kS, seqObj "list" (lstV l).toArray e), (a, seqObj "list" #[] e1)])) (hka : kS ≠ a) (hnk : ∀ p ∈ news, p.1 ≠ kS) (hna : ∀ p ∈ news, p.1 ≠ a)
    (hb : ∀ x ∈ l, h₀.get? x.lst = some x.lobj) (nd : (l.map Ent.cnt).Nodup) (h2 : 2 ≤ l.length) (h64 : l.length < 64)
    (h : ∀ h' tk sd c, sd.Perm l → sd.Pairwise (fun x y => y.cnt < x.cnt) → Fr h₀ L h' m → News h₀ L h' ((a, seqObj "list" (tupV sd).toArray c) :: news) → P (.done (.ret .none)) { s with heap := h', toks := tk }) :
    wpAny (model prog w) A (ksk_end a true (tupV l).toArray e1 (.ref kS) (lstV l).toArray) P E s := by
  have nk := N (kS, seqObj "list" (lstV l).toArray e) (List.mem_append_right _ (.head _))
  have na := N (a, seqObj "list" #[] e1) (List.mem_append_right _ (.tail _ (.head _)))
  have Nn : News h₀ L s.heap news := fun p hp => N p (List.mem_append_left _ hp)
  have hn2 : ¬ (tupV l).toArray.size < 2 := by rw [List.size_toArray, List.length_map]; omega
  have hrl : l.reverse.length = l.length := List.length_reverse
  unfold ksk_end
  dsimp only
  rw [if_pos rfl, if_pos rfl, if_neg hn2, if_neg hn2]
  refine wpAny_bind (wpAny_rule ?_)
  refine wpAny_bind (kas_kind (T := .type "list") (by rw [List.length_map]; exact h2) (fun v hv => ?_) (by decide) (by decide) ?_)
  · obtain ⟨x, hx, rfl⟩ := List.mem_map.mp hv
    exact looks_typeOf_at (F.keep _ _ (hb x hx)) rfl
  rw [items_zip]
  have hsz : (itemsR l.reverse).size = l.reverse.length := by unfold itemsR; rw [List.size_toArray, List.length_map]
  have est : SortSt.mk' oneType' (itemsR l.reverse) #[] 7 none = kas_st oneType' (itemsR l.reverse) (List.toArray (List.range l.reverse.length)) := by
    have q := kas_range (itemsR l.reverse)
    rw [hsz] at q
    show _ = SortSt.mk' oneType' ((List.toArray (List.range l.reverse.length)).map (kas_item (itemsR l.reverse))) #[] 7 none
    rw [q]
  have inj : ∀ i j, i < l.reverse.length → j < l.reverse.length → cntF l.reverse i = cntF l.reverse j → i = j := fun i j hi hj q => by
    rw [cntF_at _ (List.getElem?_eq_getElem hi), cntF_at _ (List.getElem?_eq_getElem hj)] at q
    have nd' : (l.reverse.map Ent.cnt).Nodup := by rw [List.map_reverse]; exact (List.reverse_perm _).nodup_iff.mpr nd
    have hi' : i < (l.reverse.map Ent.cnt).length := by rw [List.length_map]; exact hi
    have hj' : j < (l.reverse.map Ent.cnt).length := by rw [List.length_map]; exact hj
    have q' : (l.reverse.map Ent.cnt)[i] = (l.reverse.map Ent.cnt)[j] := by rw [List.getElem_map, List.getElem_map]; exact q
    exact (List.getElem_inj nd').mp q'
  have hcmp : ∀ i j, i < l.reverse.length → j < l.reverse.length → i ≠ j → ∀ (C : Bool → Shared → Prop) (s₁ : Shared), s₁ = s → (∀ s', s' = s → C (decide (cntF l.reverse i < cntF l.reverse j)) s') → kas_cmp prog w A oneType' (itemsR l.reverse) i j C s₁ := by
    rintro i j hi hj hij C s₁ rfl hC
    unfold kas_cmp
    have ei : l.reverse[i]? = some l.reverse[i] := List.getElem?_eq_getElem hi
    have ej : l.reverse[j]? = some l.reverse[j] := List.getElem?_eq_getElem hj
    rw [item_at _ ei, item_at _ ej]
    have hmi : l.reverse[i] ∈ l := List.mem_reverse.mp (List.getElem_mem hi)
    have hmj : l.reverse[j] ∈ l := List.mem_reverse.mp (List.getElem_mem hj)
    have hC' := hC s₁ rfl
    rw [cntF_at _ ei, cntF_at _ ej] at hC'
    exact keyLt_one hu (F.keep _ _ (hb _ hmi)) (F.keep _ _ (hb _ hmj)) (fun q => hij (inj i j hi hj (by rw [cntF_at _ ei, cntF_at _ ej]; exact q))) hC'
  have run := kas_runs (prog := prog) (w := w) (A := A) (E := E) (κ := oneType') (it := itemsR l.reverse) (n := l.reverse.length) (s := s)
    (G := fun p s' => s' = s ∧ PermR l.reverse.length p ∧ Up (cntF l.reverse) p l.reverse.length)
    (Q := fun _ st' s' => s' = s ∧ ∃ p : Array Nat, PermR l.reverse.length p ∧ Up (cntF l.reverse) p l.reverse.length ∧ arrOf st' = p.map (kas_item (itemsR l.reverse)) ∧ failedOf st' = none)
    (by omega) (by omega) (fun p' st' s' a1 a2 a3 a4 => ⟨a4.1, p', a4.2.1, a4.2.2, a2, a3⟩)
    (sort_ (P := fun s' => s' = s) inj hcmp (by omega) rfl fun p' s' b1 b2 b3 => ⟨b1, b2, b3⟩)
  rw [← est] at run
  refine wpAny_bind (wpAny_mono run ?_ fun _ _ q => q)
  rintro ⟨⟨⟩, st'⟩ s' ⟨rfl, p, hp, hup, har, hfl⟩
  dsimp only
  have hpl := readE_perm hp
  have hup' := readE_up hp hup
  have hmp := readE_map hp
  have hout : ((arrOf st').map (·.2)).reverse = (tupV (readE l.reverse p).reverse).toArray := by
    apply Array.toList_inj.mp
    rw [Array.toList_reverse, Array.toList_map, har, hmp, List.toList_toArray]; exact List.map_reverse.symm
  have hlen : (readE l.reverse p).reverse.length = l.length := by rw [List.length_reverse, hpl.length_eq, hrl]
  have s1 := Heap.SameBut.update s'.heap kS (Obj.mapSeq fun _ => (#[] : Array Value))
  have na1 : (s'.heap.update kS (Obj.mapSeq fun _ => (#[] : Array Value))).get? a = some (seqObj "list" #[] e1) := (s1.2 a hka.symm).trans na.1
  have s2 := Heap.SameBut.update (s'.heap.update kS (Obj.mapSeq fun _ => (#[] : Array Value))) a (Obj.mapSeq fun _ => (tupV (readE l.reverse p).reverse).toArray)
  obtain ⟨c2, hc2⟩ : ∃ c2, ((s'.heap.update kS (Obj.mapSeq fun _ => (#[] : Array Value))).update a (Obj.mapSeq fun _ => (tupV (readE l.reverse p).reverse).toArray)).get? a = some (seqObj "list" (tupV (readE l.reverse p).reverse).toArray c2) :=
    ⟨_, get?_update_seq na1 fun _ => (tupV (readE l.reverse p).reverse).toArray⟩
  have N2 := ksk_news (ksk_news Nn s1 hnk) s2 hna
  unfold ksk_tail
  dsimp only
  rw [if_pos rfl, hout]
  refine wpAny_bind (listUpdate_at nk.1 rfl ?_ (by rw [List.size_toArray, List.length_map, sizeLine_eq]; omega) (Nat.zero_le _))
  refine wpAny_bind (wpAny_letGo ?_)
  refine wpAny_bind (seqEpoch_at na1 rfl ?_)
  refine wpAny_bind (listUpdate_at na1 rfl ?_ (Nat.zero_le _) (by rw [List.size_toArray, List.length_map, hlen, sizeLine_eq]; omega))
  rw [hfl]
  simp only [bne_self_eq_false, Bool.false_eq_true, if_false]
  refine wpAny_pure (h _ _ (readE l.reverse p).reverse c2 ((List.reverse_perm _).trans (hpl.trans (List.reverse_perm _))) (List.pairwise_reverse.mpr hup') (ksk_fr (ksk_fr F s1 nk.2.1 nk.2.2) s2 na.2.1 na.2.2) (fun p hp => ?_))
  rcases List.mem_cons.mp hp with rfl | hp
  · exact ⟨hc2, na.2⟩
  · exact N2 p hp
end
end Mine

namespace Mine
section
variable {prog : Program} {w : World} {A : Around} {E : Value → Shared → Prop} {s : Shared} {h₀ : Heap} {L : Addr} {m : Str → Option Value} {news : List (Addr × Obj)} {a kS : Addr} {l : List Ent} {e e1 : Nat} {P : PySem.Fin → Shared → Prop}
/-- what a key call does: the entry's list, nothing else turned -/
def KeyOk (prog : Program) (w : World) (A : Around) (h₀ : Heap) (L : Addr) (m : Str → Option Value) (f : Value) (l : List Ent) (news : List (Addr × Obj)) (s : Shared) : Prop :=
  ∀ x ∈ l, ∀ (h : Heap) (tk : Nat) (own : List (Addr × Obj)), Fr h₀ L h m → News h₀ L h (news ++ own) → ∀ (Q' : Value → Shared → Prop),
    (∀ h' tk', Fr h₀ L h' m → News h₀ L h' (news ++ own) → Q' (.ref x.lst) { s with heap := h', toks := tk' }) → wpAny (model prog w) A (call f [.ref x.tup]) Q' (fun _ _ => False) { s with heap := h, toks := tk }

theorem srt_rest {f : Value} (hu : A.units < cLine) (F : Fr h₀ L s.heap m) (N : News h₀ L s.heap (news ++ [(kS, seqObj "list" #[] 0), (a, seqObj "list" #[] e1)])) (hka : kS ≠ a) (hnk : ∀ p ∈ news, p.1 ≠ kS) (hna : ∀ p ∈ news, p.1 ≠ a)
    (hb : ∀ x ∈ l, h₀.get? x.lst = some x.lobj) (nd : (l.map Ent.cnt).Nodup) (h2 : 2 ≤ l.length) (h64 : l.length < 64)
    (turn : KeyOk prog w A h₀ L m f l news s)
    (h : ∀ h' tk sd c, sd.Perm l → sd.Pairwise (fun x y => y.cnt < x.cnt) → Fr h₀ L h' m → News h₀ L h' ((a, seqObj "list" (tupV sd).toArray c) :: news) → P (.done (.ret .none)) { s with heap := h', toks := tk }) :
    wpAny (model prog w) A (ksk_rest a f true (tupV l).toArray e1 (.ref kS)) P E s := by
  unfold ksk_rest
  refine wpAny_bind (wpAny_rule ?_)
  rw [List.forIn_toArray]
  have hvl : (tupV l).length = l.length := List.length_map ..
  refine wpAny_bind (ksk_fold (fun i s' => ∃ h' tk e, s' = { s with heap := h', toks := tk } ∧ Fr h₀ L h' m ∧ News h₀ L h' (news ++ [(kS, seqObj "list" (lstV (l.take i)).toArray e), (a, seqObj "list" #[] e1)])) (tupV l) 0 s
    ⟨s.heap, s.toks, 0, rfl, F, by simpa using N⟩ ?step ?done)
  case step =>
    rintro j x s' hx ⟨h', tk, e, rfl, F', N'⟩
    simp only [Nat.zero_add] at N' ⊢
    have hj : j < l.length := by have := (List.getElem?_eq_some_iff.mp hx).1; omega
    have el : l[j]? = some l[j] := List.getElem?_eq_getElem hj
    have ex : x = .ref l[j].tup := by
      unfold tupV at hx
      rw [List.getElem?_map, el] at hx
      exact (Option.some.inj hx).symm
    subst ex
    refine wpAny_bind (wpAny_attempt (wpAny_mono (turn l[j] (List.getElem_mem hj) h' tk _ F' N' (fun v s'' => v = .ref l[j].lst ∧ ∃ g tk', s'' = { s with heap := g, toks := tk' } ∧ Fr h₀ L g m ∧ News h₀ L g (news ++ [(kS, seqObj "list" (lstV (l.take j)).toArray e), (a, seqObj "list" #[] e1)])) fun g tk' F2 N2 => ⟨rfl, g, tk', rfl, F2, N2⟩) (fun v s'' he => ?_) fun _ _ hF => hF.elim))
    obtain ⟨rfl, g, tk2, rfl, F2, N2⟩ := he
    dsimp only
    have nk := N2 (kS, seqObj "list" (lstV (l.take j)).toArray e) (List.mem_append_right _ (.head _))
    have na := N2 (a, seqObj "list" #[] e1) (List.mem_append_right _ (.tail _ (.head _)))
    have s1 := Heap.SameBut.update g kS (Obj.mapSeq (·.push (Value.ref l[j].lst)))
    have ea : (lstV (l.take j)).toArray.push (Value.ref l[j].lst) = (lstV (l.take (j + 1))).toArray := by
      rw [List.push_toArray]
      congr 1
      rw [List.take_add_one, el]
      unfold lstV
      rw [List.map_append]; rfl
    obtain ⟨c2, hc2⟩ : ∃ c2, (g.update kS (Obj.mapSeq (·.push (Value.ref l[j].lst)))).get? kS = some (seqObj "list" ((lstV (l.take j)).toArray.push (Value.ref l[j].lst)) c2) := ⟨_, get?_update_seq nk.1 (·.push (Value.ref l[j].lst))⟩
    have hz : (lstV (l.take j)).toArray.size ≤ 64 := by rw [List.size_toArray, List.length_map, List.length_take]; omega
    refine wpAny_bind (listUpdate_at nk.1 rfl ?_ (by rw [sizeLine_eq]; omega) (Nat.le_trans (Nat.le_of_eq (Array.size_push ..)) (by rw [sizeLine_eq]; omega)))
    rw [ea] at hc2
    refine wpAny_pure ⟨rfl, _, _, c2, rfl, ksk_fr F2 s1 nk.2.1 nk.2.2, fun p hp => ?_⟩
    rcases List.mem_append.mp hp with hp | hp
    · exact ksk_news (fun q hq => N2 q (List.mem_append_left _ hq)) s1 hnk p hp
    · rcases List.mem_cons.mp hp with rfl | hp
      · exact ⟨hc2, nk.2⟩
      · rw [List.mem_singleton.mp hp]
        exact ⟨(s1.2 a hka.symm).trans na.1, na.2⟩
  case done =>
    rintro s' ⟨h', tk, e, rfl, F', N'⟩
    have e3 : l.take (0 + (tupV l).length) = l := List.take_of_length_le (by omega)
    rw [e3] at N'
    have nk := N' (kS, seqObj "list" (lstV l).toArray e) (List.mem_append_right _ (.head _))
    refine wpAny_bind (listItems_at nk.1 rfl ?_)
    exact srt_end hu F' N' hka hnk hna hb nd h2 h64 fun h3 tk3 sd c a1 a2 F3 N3 => h h3 tk3 sd c a1 a2 F3 N3

theorem srt_sort {f : Value} {n : Nat} (hu : A.units < cLine) (F : Fr h₀ L s.heap m) (N : News h₀ L s.heap news) (ho : s.heap.get? a = some (seqObj "list" (tupV l).toArray n)) (haL : a ≠ L) (ha0 : h₀.get? a = none) (hna : ∀ p ∈ news, p.1 ≠ a)
    (hb : ∀ x ∈ l, h₀.get? x.lst = some x.lobj) (nd : (l.map Ent.cnt).Nodup) (h2 : 2 ≤ l.length) (h64 : l.length < 64)
    (turn : KeyOk prog w A h₀ L m f l news s)
    (h : ∀ h' tk sd c, sd.Perm l → sd.Pairwise (fun x y => y.cnt < x.cnt) → Fr h₀ L h' m → News h₀ L h' ((a, seqObj "list" (tupV sd).toArray c) :: news) → P (.done (.ret .none)) { s with heap := h', toks := tk }) :
    wpAny (model prog w) A (ksk_tree a f true) P E s := by
  have hvl : (tupV l).length = l.length := List.length_map ..
  have ha : a < s.heap.objs.size := Heap.lt_size ho
  have s1 := Heap.SameBut.update s.heap a (Obj.mapSeq fun _ => (#[] : Array Value))
  obtain ⟨e1, ho1⟩ : ∃ e1, (s.heap.update a (Obj.mapSeq fun _ => (#[] : Array Value))).get? a = some (seqObj "list" #[] e1) := ⟨_, get?_update_seq ho fun _ => #[]⟩
  have F1 := ksk_fr F s1 haL ha0
  have N1 := ksk_news N s1 hna
  have hkS : ((s.heap.update a (Obj.mapSeq fun _ => (#[] : Array Value))).push (seqObj "tuple" (tupV l).toArray 0)).objs.size = s.heap.objs.size + 1 := by rw [size_push', Heap.size_update]
  have hLk : L < ((s.heap.update a (Obj.mapSeq fun _ => (#[] : Array Value))).push (seqObj "tuple" (tupV l).toArray 0)).objs.size := (F1.push _).ns.lt
  unfold ksk_tree
  refine wpAny_bind (listItems_at ho rfl ?_)
  refine wpAny_bind (listUpdate_at ho rfl ?_ (by rw [List.size_toArray, sizeLine_eq]; omega) (Nat.zero_le _))
  refine wpAny_bind (seqEpoch_at ho1 rfl ?_)
  refine wpAny_bind (wpAny_newTuple ?_ (by show (tupV l).length ≤ _; rw [sizeLine_eq]; omega))
  refine wpAny_bind (wpAny_newList ?_ (Nat.zero_le _))
  refine wpAny_holding ?_
  refine srt_rest (s := { s with heap := ((s.heap.update a (Obj.mapSeq fun _ => (#[] : Array Value))).push (seqObj "tuple" (tupV l).toArray 0)).push (seqObj "list" #[] 0) }) (kS := ((s.heap.update a (Obj.mapSeq fun _ => (#[] : Array Value))).push (seqObj "tuple" (tupV l).toArray 0)).objs.size)
    hu ((F1.push _).push _) (fun p hp => ?_) (by rw [hkS]; exact Nat.ne_of_gt (Nat.lt_succ_of_lt ha)) (fun p hp => by rw [hkS]; exact Nat.ne_of_lt (Nat.lt_succ_of_lt (Heap.lt_size (N p hp).1))) hna hb nd h2 h64 turn h
  rcases List.mem_append.mp hp with hp | hp
  · exact ⟨Heap.get?_push_of_some _ (Heap.get?_push_of_some _ (N1 p hp).1), (N1 p hp).2⟩
  · rcases List.mem_cons.mp hp with rfl | hp
    · exact ⟨Heap.get?_push_size _ rfl, Nat.ne_of_gt hLk, Heap.get?_none_of_le (Nat.le_trans F.above (Nat.le_of_lt hLk))⟩
    · rw [List.mem_singleton.mp hp]
      exact ⟨Heap.get?_push_of_some _ (Heap.get?_push_of_some _ ho1), haL, ha0⟩

theorem srt_sorted {r d q : Addr} {o : Obj} {Q : Value → Shared → Prop} (hh : A.handled = none) (hu : A.units + 2 < cLine) (F : Fr h₀ L s.heap m) (N : News h₀ L s.heap news)
    (hv : (r, ({ cls := .type "dict_values", data := .fields #[.ref d] } : Obj)) ∈ news) (hp : (d, o) ∈ news) (hd : o.IsDictOf (intKind prog w) (kvsOf l))
    (hb : ∀ x ∈ l, h₀.get? x.lst = some x.lobj) (nd : (l.map Ent.cnt).Nodup) (h2 : 2 ≤ l.length) (h64 : l.length < 64)
    (turn : KeyOk prog w A.in1.in1 h₀ L m (.ref q) l news s)
    (h : ∀ D h' tk sd c, sd.Perm l → sd.Pairwise (fun x y => y.cnt < x.cnt) → Fr h₀ L h' m → News h₀ L h' ((D, listOf (tupV sd).toArray c) :: news) → (∀ q ∈ news, q.1 < D) → Q (.ref D) { s with heap := h', toks := tk }) :
    wpAny (model prog w) A (call (.builtin "sorted") [.ref r] [(Str.ofString "key", .ref q), (Str.ofString "reverse", .bool true)]) Q E s := by
  have hvl : (tupV l).length = l.length := List.length_map ..
  obtain ⟨ep, hat⟩ := (kda_dict N hp hd).dictAt
  refine call_function_entry_kw kind_sorted plain_sorted entry_sorted (ksk_s2 _ _ _) ?_
  unfold Builtin.«sorted»
  refine wpAny_bind (m := checkCount "sorted" 1 1 _) (wpAny_pure ?_)
  refine wpAny_bind (collect_src (kdl_values (knd := intKind prog w) (kvs := kvsOf l) (ep := ep)) hh ⟨⟨_, (N _ hv).1, rfl, rfl⟩, hat⟩ (by rw [List.length_map, sizeLine_eq]; omega) fun h' tk vs hk hl hvs => ?_)
  rw [kdl_vals_eq vs hl hvs]
  have ev : (kvsOf l).map (·.2) = tupV l := by rw [List.map_map]; rfl
  rw [ev]
  have F' := F.keeps hk
  have N' := N.grown hk
  refine wpAny_bind (wpAny_newList ?_ (by rw [sizeLine_eq]; omega))
  have hoL : (h'.push (seqObj "list" (tupV l).toArray 0)).get? h'.objs.size = some (seqObj "list" (tupV l).toArray 0) := Heap.get?_push_size _ rfl
  have keep : ∀ b o, h'.get? b = some o → (h'.push (seqObj "list" (tupV l).toArray 0)).get? b = some o := fun b o e => Heap.get?_push_of_some _ e
  have hL : L < h'.objs.size := F'.ns.lt
  show wpAny _ _ _ _ _ { s with heap := h'.push (seqObj "list" (tupV l).toArray 0), toks := tk }
  refine wpAny_bind (wpAny_holding (wpAny_call_entry_kw slot_list_sort ⟨_, hoL, rfl⟩ entry_list_sort ?body (ksk_l2 _ _ _)))
  case body =>
    show wpAny (model prog w) A.in1.in1 (Builtin.«list.sort» ⟨[.ref h'.objs.size], [(Str.ofString "key", .ref q), (Str.ofString "reverse", .bool true)]⟩) _ _ _
    rw [ksk_t2]
    refine srt_sort (s := { s with heap := h'.push (seqObj "list" (tupV l).toArray 0), toks := tk }) (by show A.units + 1 + 1 < cLine; omega)
      (F'.keeps keep) (N'.grown keep) hoL (Nat.ne_of_gt hL) (Heap.get?_none_of_le (Nat.le_trans F.above (Nat.le_of_lt hL)))
      (fun p hp => Nat.ne_of_lt (Heap.lt_size (N' p hp).1)) hb nd h2 h64 turn fun h'' tk' sd c a1 a2 F'' N'' => ⟨_, rfl, ?_⟩
    exact wpAny_pure ⟨_, rfl, h _ h'' tk' sd c a1 a2 F'' N'' (fun q hq => Heap.lt_size (N' q hq).1)⟩
end
end Mine

namespace Mine
local macro_rules | `(tactic| k_room) => `(tactic| (show _ < _; (try simp only [depth_under_make, depth_under_kw, depth_in1, depth_deeper, depth_caller]); (try unfold recursionLimit); omega))
local macro_rules | `(tactic| k_units) => `(tactic| (show _ < _; (try simp only [units_deeper, units_in1]); (try unfold cLine); omega))
local macro_rules | `(tactic| walk_at "FILL") => `(tactic| (have _fill : (fun (_ : OpenLaw) (_ : Params → Frag) => True) PySem.Challenge.rw_bn5031_01 hd.heap_39 := by k_fill; trivial))
local macro_rules | `(tactic| walk_at "ENTER") => `(tactic| (
  refine' callF ?k1 ?k2 ?k3 ?k4 ?k4r ?k4d ?k5 ?kA ?kF ?kK ?k6 ?k7 ?k8 ?k9 ?kB ?_ ?c2 ?c3 ?c4 ?c5; (case kA => exact rfl); (case kF => assumption); (case kK => assumption); (case k4d => assumption); (case k1 => assumption); (case k2 => assumption); (case k3 => assumption); (case k4 => assumption); (case k4r => assumption); (case k5 => assumption); (case k6 => k_is); (case k7 => k_is); (case k8 => k_room); (case k9 => first | exact BindsTo.of_eq rfl | exact binds_K (by k_in) rfl (by k_is) rfl rfl rfl | fail "k_enter: no rule for these arguments"); (case c5 => decide); (case kB => exact locs rfl); (case c2 => exact rfl); (case c3 => exact rfl); (case c4 => exact rfl); k_whole))
local macro_rules | `(tactic| walk_at "subscriptTail") => `(tactic| (k_here; (with_reducible show wpAny _ _ (subscriptTail _ _ (Value.ref _) (Value.int _ _)) _ _ _); k_dflt (refine' item_tupleT ?t ?a ?b ?c ?d ?_; (case t => exact IsTup.keeps (by assumption) (Fr.keep (by assumption))); (case a => decide); (case b => decide); (case c => rfl); (case d => rfl); k_whole)))

def others (l mine : List (Addr × Obj)) : List (Addr × Obj) := l.filter fun p => decide (p.1 ∉ mine.map (·.1))
section
variable {h₀ h : Heap} {L : Addr} {l mine : List (Addr × Obj)}
theorem news_others (N : News h₀ L h l) : News h₀ L h (others l mine) := news_sub N fun p hp => (List.mem_filter.mp hp).1
theorem dis_others : ∀ p ∈ others l mine, p.1 ∉ mine.map (·.1) := fun p hp => of_decide_eq_true (List.mem_filter.mp hp).2
theorem news_back (N : News h₀ L h l) (hm : ∀ p ∈ mine, p ∈ l) {h' : Heap} (N1 : News h₀ L h' mine) (N2 : News h₀ L h' (others l mine)) : News h₀ L h' l := fun p hp => by
  by_cases q : p.1 ∈ mine.map (·.1)
  · obtain ⟨r, hr, e⟩ := List.mem_map.mp q
    have e1 := (N p hp).1
    have e2 := (N r (hm r hr)).1
    rw [e] at e2
    have e3 : r.2 = p.2 := Option.some.inj (e2.symm.trans e1)
    have : r = p := Prod.ext e e3
    exact N1 p (this ▸ hr)
  · exact N2 p (List.mem_filter.mpr ⟨hp, decide_eq_true q⟩)
end

theorem ig_call {w : World} {A₀ : Around} {base h₀ : Heap} {env : Env} {outer : List Env} {L : Addr} {m : Str → Option Value} {p : Program} {loose : List Str} {mean : ExcName → Option Value} {mg mb : Str → Option Value} {s : Shared} {Q : Value → Shared → Prop}
    {dp un : Nat} {gd : Option (List Code)} {news : List (Addr × Obj)} {x dx D : Nat} {t : Tok} {e : Ent}
    (B : Below A₀ base outer h₀) (F : Fr h₀ L s.heap m) (X₀ : (hd.heap_39 w.params).In h₀) (N : News h₀ L s.heap news)
    (T : Top p loose mean mg mb h₀) (hf : env.frame = some L) (hke : env.scope.kind = .function) (hdp : dp < 800) (_hun : un < 4000)
    (g1 : (x, (⟨.ref 97, some dx, .plain, List.toArray [some (.ref D)]⟩ : Obj)) ∈ news) (g2 : (dx, dictOf [] 0) ∈ news) (g3 : (D, seqObj "tuple" (List.toArray [.int 2 t]) 0) ∈ news)
    (htup : h₀.get? e.tup = some e.tobj)
    (h : ∀ h' tk, Fr h₀ L h' m → News h₀ L h' news → Q (.ref e.lst) { s with heap := h', toks := tk }) :
    wpAny (MO w) (Ar dp (env :: outer) gd un) (call (.ref x) [.ref e.tup]) Q (fun _ _ => False) s := by
  walk_at "FILL"
  have hsub : ∀ q ∈ [(x, (⟨.ref 97, some dx, .plain, List.toArray [some (.ref D)]⟩ : Obj)), (dx, dictOf [] 0), (D, seqObj "tuple" (List.toArray [.int 2 t]) 0)], q ∈ news := fun q hq => by
    rcases List.mem_cons.mp hq with rfl | hq
    · exact g1
    · rcases List.mem_cons.mp hq with rfl | hq
      · exact g2
      · rw [List.mem_singleton.mp hq]; exact g3
  have N1 : News h₀ L s.heap [(x, (⟨.ref 97, some dx, .plain, List.toArray [some (.ref D)]⟩ : Obj)), (dx, dictOf [] 0), (D, seqObj "tuple" (List.toArray [.int 2 t]) 0)] := news_sub N hsub
  have N2 := news_others (mine := [(x, (⟨.ref 97, some dx, .plain, List.toArray [some (.ref D)]⟩ : Obj)), (dx, dictOf [] 0), (D, seqObj "tuple" (List.toArray [.int 2 t]) 0)]) N
  have dis := dis_others (l := news) (mine := [(x, (⟨.ref 97, some dx, .plain, List.toArray [some (.ref D)]⟩ : Obj)), (dx, dictOf [] 0), (D, seqObj "tuple" (List.toArray [.int 2 t]) 0)])
  have I : InstAt s.heap x (⟨.ref 97, some dx, .plain, List.toArray [some (.ref D)]⟩ : Obj) 97 (some (dictOf [] 0)) := InstAt.of_news N1 (.head _) (.tail _ (.head _))
  refine wpAny_call ?_
  refine' kco_code ?k1 I rfl ?k4 ?k5 ?k6 ?_
  case k1 => exact X₀.keeps F.keep
  case k4 => k_is
  case k5 => k_is
  case k6 => k_is
  dsimp only
  walk_at "ENTER"
  intro g L' h₁ FG F' N' B' X' T' hr' l1 l2
  have htg : IsTup g e.tup (List.toArray [.int e.key e.kt, .str e.sv e.vt, .ref e.lst]) := ⟨_, FG.keep _ _ htup, rfl, _, rfl⟩
  dsimp only
  k_steps
  rename News h₀ L _ _ => NR; revert NR; rename News h₀ L _ _ => NL; intro NR
  exact h _ _ (by assumption) (news_back N hsub NL NR)
end Mine

namespace Mine
section
local macro_rules | `(tactic| walk_at "RESET") => `(tactic| trivial)
local macro_rules | `(tactic| walk_at "RESET") => `(tactic| trivial)
local macro_rules | `(tactic| walk_at "RESET") => `(tactic| trivial)
local macro_rules | `(tactic| walk_at "RESET") => `(tactic| trivial)
local macro_rules | `(tactic| walk_at "RESET") => `(tactic| trivial)
local macro_rules | `(tactic| walk_at "RESET") => `(tactic| trivial)
local macro_rules | `(tactic| walk_at "RESET") => `(tactic| trivial)
local macro_rules | `(tactic| walk_at "RESET") => `(tactic| trivial)
local macro_rules | `(tactic| walk_at "RESET") => `(tactic| trivial)
local macro_rules | `(tactic| walk_at "RESET") => `(tactic| trivial)
local macro_rules | `(tactic| walk_at "RESET") => `(tactic| trivial)
local macro_rules | `(tactic| walk_at "RESET") => `(tactic| trivial)
local macro_rules | `(tactic| walk_at "RESET") => `(tactic| trivial)
local macro_rules | `(tactic| walk_at "RESET") => `(tactic| trivial)
local macro_rules | `(tactic| walk_at "RESET") => `(tactic| trivial)
local macro_rules | `(tactic| walk_at "RESET") => `(tactic| trivial)
local macro_rules | `(tactic| walk_at "RESET") => `(tactic| trivial)
local macro_rules | `(tactic| walk_at "RESET") => `(tactic| trivial)
local macro_rules | `(tactic| walk_at "RESET") => `(tactic| trivial)
local macro_rules | `(tactic| walk_at "RESET") => `(tactic| trivial)
local macro_rules | `(tactic| walk_at "RESET") => `(tactic| trivial)
local macro_rules | `(tactic| walk_at "RESET") => `(tactic| trivial)
local macro_rules | `(tactic| walk_at "RESET") => `(tactic| trivial)
local macro_rules | `(tactic| walk_at "RESET") => `(tactic| trivial)
theorem resetL4 : True := by
  w_top off
  first | walk1 | trivial
end
end Mine

namespace Mine
section
variable {prog : Program} {w : World} {A : Around} {E : Value → Shared → Prop} {s : Shared} {env : Env} {h₀ : Heap} {x : Str} {body : List Stmt} {Q : Flow → Shared → Prop}
/-- a turn's end -/
def TurnEnd (h₀ : Heap) (L : Addr) (J : (Str → Option Value) → List (Addr × Obj) → Prop) (own : List (Addr × Obj)) (s₁ s₂ : Shared) : Prop :=
  ∃ h' tk m' news', s₂ = { s₁ with heap := h', toks := tk } ∧ Fr h₀ L h' m' ∧ News h₀ L h' (news' ++ own) ∧ (∀ p ∈ news', ∀ q ∈ own, p.1 ≠ q.1) ∧ J m' news'
def TurnPost (h₀ : Heap) (L : Addr) (J : (Str → Option Value) → List (Addr × Obj) → Prop) (own : List (Addr × Obj)) (s₁ : Shared) (Q : Flow → Shared → Prop) (f : Flow) (s₂ : Shared) : Prop :=
  match f with
  | .ret v => Q (.ret v) s₂
  | .brk => Q .next s₂
  | _ => TurnEnd h₀ L J own s₁ s₂
theorem TurnEnd.intro {L : Addr} {J : (Str → Option Value) → List (Addr × Obj) → Prop} {own news' : List (Addr × Obj)} {s₁ : Shared} {h' : Heap} {tk : Nat} {m' : Str → Option Value} (F : Fr h₀ L h' m') (N : News h₀ L h' (news' ++ own))
    (ha : ∀ p ∈ news', ∀ q ∈ own, p.1 ≠ q.1) (hj : J m' news') : TurnEnd h₀ L J own s₁ { s₁ with heap := h', toks := tk } := ⟨h', tk, m', news', rfl, F, N, ha, hj⟩

theorem iter_led {l : Addr} {vs : List Value} {c : Nat} {m₀ : Str → Option Value} {news : List (Addr × Obj)} (J : Nat → (Str → Option Value) → List (Addr × Obj) → Prop)
    (hh : A.handled = none) (F : Fr h₀ env.locals s.heap m₀) (N : News h₀ env.locals s.heap news) (hJl : ∀ i m n, J i m n → (l, listOf vs.toArray c) ∈ n) (hj : J 0 m₀ news)
    (turn : ∀ i v m₁ news₁ h tk it oi, vs[i]? = some v → J i m₁ news₁ → Fr h₀ env.locals h (fun y => if y = x then some v else m₁ y) → News h₀ env.locals h (news₁ ++ [(it, oi)]) → (∀ p ∈ news₁, p.1 ≠ it) →
      wpAny (model prog w) A (execs body env) (TurnPost h₀ env.locals (J (i + 1)) [(it, oi)] { s with heap := h, toks := tk } Q) E { s with heap := h, toks := tk })
    (done : ∀ m₁ news₁ h tk, J vs.length m₁ news₁ → Fr h₀ env.locals h m₁ → News h₀ env.locals h news₁ → Q .next { s with heap := h, toks := tk }) :
    wpAny (model prog w) A (pyIter (.ref l)) (fun it s₂ => LoopAtV prog w A h₀ env x body Q E it s₂) E s := by
  have hml := N _ (hJl _ _ _ hj)
  have hol := hml.1
  have hls : s.heap.IsList l vs.toArray := ⟨_, hol, rfl, c, rfl⟩
  have hlt : l < s.heap.objs.size := Heap.lt_size hol
  have hne : l ≠ s.heap.objs.size := Nat.ne_of_lt hlt
  have hlL : l ≠ env.locals := hml.2.1
  have hl0 : h₀.get? l = none := hml.2.2
  have hLs : env.locals < s.heap.objs.size := F.ns.lt
  have h0s : h₀.get? s.heap.objs.size = none := Heap.get?_none_of_le (Nat.le_trans F.above (Nat.le_of_lt hLs))
  refine wpAny_pyIter_list hls ?_
  have W := Walks.list (prog := prog) (w := w) hh s.heap.objs.size l hne vs.toArray
  have hlen : vs.toArray.size = vs.length := List.size_toArray
  rw [hlen] at W
  refine ⟨_, _, _, vs.length, _, _, m₀, news, J, rfl, W, ?_, ?_, ?_, ⟨⟨_, Heap.get?_push_size _ rfl, rfl, rfl⟩, hls.at fun o e => Heap.get?_push_of_some _ e⟩, F.push _, (fun p hp => ⟨Heap.get?_push_of_some _ (N p hp).1, (N p hp).2⟩), hj, ?_, ?_⟩
  · intro hm
    rcases List.mem_cons.mp hm with e | hm
    · exact Nat.ne_of_lt hLs e
    · exact hlL (List.mem_singleton.mp hm).symm
  · intro b hb
    rw [List.mem_singleton.mp hb]
    exact h0s
  · intro p hp hI
    exact Nat.ne_of_lt (Heap.lt_size (N p hp).1) (List.mem_singleton.mp hI)
  · rintro i v m₁ news₁ s₁ own ⟨hh', tk', rfl⟩ hin hP hJ hoff hown hat hall st F₁ N₁
    have hv : vs[i]? = some v := by simpa using hP
    obtain ⟨⟨oi, hoi, _⟩, _⟩ := st
    have hIown : (s.heap.objs.size, oi) ∈ own := hall _ (List.mem_cons_self) h0s _ hoi
    have hap : ∀ p ∈ news₁, p.1 ≠ s.heap.objs.size := fun p hp q => hoff p hp (q ▸ List.mem_singleton.mpr rfl)
    have Nr : News h₀ env.locals hh' news₁ := fun p hp => N₁ p (List.mem_append_right _ hp)
    have N₂ : News h₀ env.locals hh' (news₁ ++ [(s.heap.objs.size, oi)]) := fun p hp => by
      rcases List.mem_append.mp hp with hp | hp
      · exact N₁ p (List.mem_append_right _ hp)
      · rw [List.mem_singleton.mp hp]; exact N₁ _ (List.mem_append_left _ hIown)
    have hlo : ∀ p ∈ own, p = (s.heap.objs.size, oi) ∨ p = (l, listOf vs.toArray c) := fun p hp => by
      have e1 := (N₁ p (List.mem_append_left _ hp)).1
      rcases List.mem_cons.mp (hown p hp) with q | q
      · left
        rw [q] at e1
        exact Prod.ext q (Option.some.inj (e1.symm.trans hoi))
      · right
        have q' := List.mem_singleton.mp q
        rw [q'] at e1
        exact Prod.ext q' (Option.some.inj (e1.symm.trans (Nr _ (hJl _ _ _ hJ)).1))
    refine wpAny_mono (turn i v m₁ news₁ hh' tk' s.heap.objs.size oi hv hJ F₁ N₂ hap) (fun f s₂ p => ?_) fun _ _ e => e
    have fin : TurnEnd h₀ env.locals (J (i + 1)) [(s.heap.objs.size, oi)] { s with heap := hh', toks := tk' } s₂ → LoopStepU h₀ env.locals [s.heap.objs.size] own (J (i + 1)) { s with heap := hh', toks := tk' } .next s₂ := by
      rintro ⟨h', tk, m', news', e, F', N', ha, hm⟩
      refine ⟨rfl, h', tk, m', news', e, F', fun p hp => ?_, fun p hp hq => ?_, hm⟩
      · rcases List.mem_append.mp hp with hp | hp
        · rcases hlo p hp with rfl | rfl
          · exact N' _ (List.mem_append_right _ (List.mem_singleton.mpr rfl))
          · exact N' _ (List.mem_append_left _ (hJl _ _ _ hm))
        · exact N' p (List.mem_append_left _ hp)
      · exact ha p hp _ (List.mem_singleton.mpr rfl) (List.mem_singleton.mp hq)
    cases f with
    | ret v => exact .ret p
    | brk => exact .brk p
    | next => exact .next (fin p)
    | cont => exact .cont (fin p)
  · rintro h' tk m' news' F' N' _ hJ
    exact done m' news' h' tk hJ F' N'
theorem iter_ledU {l : Addr} {vs : List Value} {c : Nat} {m₀ : Str → Option Value} {news : List (Addr × Obj)} (J : Nat → (Str → Option Value) → List (Addr × Obj) → Prop)
    (hh : A.handled = none) (F : Fr h₀ env.locals s.heap m₀) (N : News h₀ env.locals s.heap news) (hJl : ∀ i m n, J i m n → (l, listOf vs.toArray c) ∈ n) (hj : J 0 m₀ news)
    (turn : ∀ i v m₁ news₁ (s₁ : Shared) it oi, vs[i]? = some v → J i m₁ news₁ → Fr h₀ env.locals s₁.heap (fun y => if y = x then some v else m₁ y) → News h₀ env.locals s₁.heap (news₁ ++ [(it, oi)]) → (∀ p ∈ news₁, p.1 ≠ it) →
      wpAny (model prog w) A (execs body env) (fun f s₂ => f = .next ∧ TurnEnd h₀ env.locals (J (i + 1)) [(it, oi)] s₁ s₂) E s₁)
    (done : ∀ m₁ news₁ h tk, J vs.length m₁ news₁ → Fr h₀ env.locals h m₁ → News h₀ env.locals h news₁ → Q .next { s with heap := h, toks := tk }) :
    wpAny (model prog w) A (pyIter (.ref l)) (fun it s₂ => LoopAtU prog w A h₀ env x body Q E it s₂) E s := by
  have hml := N _ (hJl _ _ _ hj)
  have hol := hml.1
  have hls : s.heap.IsList l vs.toArray := ⟨_, hol, rfl, c, rfl⟩
  have hlt : l < s.heap.objs.size := Heap.lt_size hol
  have hne : l ≠ s.heap.objs.size := Nat.ne_of_lt hlt
  have hlL : l ≠ env.locals := hml.2.1
  have hl0 : h₀.get? l = none := hml.2.2
  have hLs : env.locals < s.heap.objs.size := F.ns.lt
  have h0s : h₀.get? s.heap.objs.size = none := Heap.get?_none_of_le (Nat.le_trans F.above (Nat.le_of_lt hLs))
  refine wpAny_pyIter_list hls ?_
  have W := Walks.list (prog := prog) (w := w) hh s.heap.objs.size l hne vs.toArray
  have hlen : vs.toArray.size = vs.length := List.size_toArray
  rw [hlen] at W
  refine ⟨_, _, _, vs.length, _, _, m₀, news, J, rfl, W, ?_, ?_, ?_, ⟨⟨_, Heap.get?_push_size _ rfl, rfl, rfl⟩, hls.at fun o e => Heap.get?_push_of_some _ e⟩, F.push _, (fun p hp => ⟨Heap.get?_push_of_some _ (N p hp).1, (N p hp).2⟩), hj, ?_, ?_⟩
  · intro hm
    rcases List.mem_cons.mp hm with e | hm
    · exact Nat.ne_of_lt hLs e
    · exact hlL (List.mem_singleton.mp hm).symm
  · intro b hb
    rw [List.mem_singleton.mp hb]
    exact h0s
  · intro p hp hI
    exact Nat.ne_of_lt (Heap.lt_size (N p hp).1) (List.mem_singleton.mp hI)
  · rintro i v m₁ news₁ s₁ own hin hP hJ hoff hown hat hall st F₁ N₁
    have hv : vs[i]? = some v := by simpa using hP
    obtain ⟨⟨oi, hoi, _⟩, _⟩ := st
    have hIown : (s.heap.objs.size, oi) ∈ own := hall _ (List.mem_cons_self) h0s _ hoi
    have hap : ∀ p ∈ news₁, p.1 ≠ s.heap.objs.size := fun p hp q => hoff p hp (q ▸ List.mem_singleton.mpr rfl)
    have Nr : News h₀ env.locals s₁.heap news₁ := fun p hp => N₁ p (List.mem_append_right _ hp)
    have N₂ : News h₀ env.locals s₁.heap (news₁ ++ [(s.heap.objs.size, oi)]) := fun p hp => by
      rcases List.mem_append.mp hp with hp | hp
      · exact N₁ p (List.mem_append_right _ hp)
      · rw [List.mem_singleton.mp hp]; exact N₁ _ (List.mem_append_left _ hIown)
    have hlo : ∀ p ∈ own, p = (s.heap.objs.size, oi) ∨ p = (l, listOf vs.toArray c) := fun p hp => by
      have e1 := (N₁ p (List.mem_append_left _ hp)).1
      rcases List.mem_cons.mp (hown p hp) with q | q
      · left
        rw [q] at e1
        exact Prod.ext q (Option.some.inj (e1.symm.trans hoi))
      · right
        have q' := List.mem_singleton.mp q
        rw [q'] at e1
        exact Prod.ext q' (Option.some.inj (e1.symm.trans (Nr _ (hJl _ _ _ hJ)).1))
    refine wpAny_mono (turn i v m₁ news₁ s₁ s.heap.objs.size oi hv hJ F₁ N₂ hap) (fun f s₂ p => ?_) fun _ _ e => e
    have fin : TurnEnd h₀ env.locals (J (i + 1)) [(s.heap.objs.size, oi)] s₁ s₂ → LoopStepU h₀ env.locals [s.heap.objs.size] own (J (i + 1)) s₁ .next s₂ := by
      rintro ⟨h', tk, m', news', e, F', N', ha, hm⟩
      refine ⟨rfl, h', tk, m', news', e, F', fun p hp => ?_, fun p hp hq => ?_, hm⟩
      · rcases List.mem_append.mp hp with hp | hp
        · rcases hlo p hp with rfl | rfl
          · exact N' _ (List.mem_append_right _ (List.mem_singleton.mpr rfl))
          · exact N' _ (List.mem_append_left _ (hJl _ _ _ hm))
        · exact N' p (List.mem_append_left _ hp)
      · exact ha p hp _ (List.mem_singleton.mpr rfl) (List.mem_singleton.mp hq)
    obtain ⟨rfl, p⟩ := p
    exact fin p
  · rintro h' tk m' news' F' N' _ hJ
    exact done m' news' h' tk hJ F' N'
end
section
variable {prog : Program} {w : World} {A : Around} {E : Value → Shared → Prop} {s : Shared} {h₀ : Heap} {L l : Addr} {m : Str → Option Value} {news : List (Addr × Obj)} {vs : List Value} {x : Int} {Q : Value → Shared → Prop}
theorem pick_from (vs : List Value) {x : Int} (h : 0 ≤ x) : (slicePick vs.toArray (some x) none none).toList = vs.drop x.toNat := by
  have e : sliceBounds (some x) none none vs.toArray.size = (((min x.toNat vs.toArray.size : Nat) : Int), ((vs.toArray.size : Nat) : Int), 1) := by
    simp only [sliceBounds, Option.getD_none, show (1 : Int) > 0 by decide, if_true, if_neg (show ¬ (x < 0) by omega)]
    congr 1
    omega
  rw [kmk_pick_nat _ e]
  show (vs.drop (min x.toNat vs.toArray.size)).take (vs.toArray.size - min x.toNat vs.toArray.size) = _
  rw [List.size_toArray, kmk_drop_min, List.take_of_length_le (by rw [List.length_drop]; omega)]
end
end Mine

namespace Mine
/-- the entries left when the keys ks go -/
def rem (l : List Ent) (ks : List Int) : List Ent := l.filter fun x => decide (x.key ∉ ks)
theorem rem_nil (l : List Ent) : rem l [] = l := by unfold rem; rw [List.filter_eq_self]; intro a _; simp
theorem rem_snoc (l : List Ent) (ks : List Int) (k : Int) : without (kvsOf (rem l ks)) k = kvsOf (rem l (ks ++ [k])) := by
  unfold without rem kvsOf
  rw [List.filter_map, List.filter_filter]
  congr 1
  apply List.filter_congr
  intro x _
  show (decide (x.key ≠ k) && decide (x.key ∉ ks)) = decide (x.key ∉ ks ++ [k])
  by_cases h1 : x.key = k <;> by_cases h2 : x.key ∈ ks <;> simp [h1, h2]
theorem rem_sub (l : List Ent) (ks : List Int) : (rem l ks).Sublist l := List.filter_sublist
theorem at_mem {l : List Ent} {e : Ent} (he : e ∈ l) (nk : (l.map Ent.key).Nodup) : valueAt (kvsOf l) e.key = some (.ref e.tup) := by
  obtain ⟨a, b, rfl⟩ := List.append_of_mem he
  exact at_hit rfl nk
theorem at_rem {l : List Ent} {e : Ent} {ks : List Int} (he : e ∈ l) (nk : (l.map Ent.key).Nodup) (hk : e.key ∉ ks) : (valueAt (kvsOf (rem l ks)) e.key).isSome = true := by
  have h1 : e ∈ rem l ks := List.mem_filter.mpr ⟨he, decide_eq_true hk⟩
  have h2 : ((rem l ks).map Ent.key).Nodup := nk.sublist ((rem_sub l ks).map _)
  rw [at_mem h1 h2]; rfl
theorem rem_len (l : List Ent) (ks : List Int) : (rem l ks).length ≤ l.length := (rem_sub l ks).length_le
theorem mem_key_inj {l : List Ent} (nk : (l.map Ent.key).Nodup) {x y : Ent} (hx : x ∈ l) (hy : y ∈ l) (e : x.key = y.key) : x = y := by
  obtain ⟨i, hi, rfl⟩ := List.mem_iff_getElem.mp hx
  obtain ⟨j, hj, rfl⟩ := List.mem_iff_getElem.mp hy
  have hi' : i < (l.map Ent.key).length := by rw [List.length_map]; exact hi
  have hj' : j < (l.map Ent.key).length := by rw [List.length_map]; exact hj
  have q : (l.map Ent.key)[i] = (l.map Ent.key)[j] := by rw [List.getElem_map, List.getElem_map]; exact e
  have : i = j := (List.getElem_inj nk).mp q
  subst this; rfl
/-- what is left, when all but the first n of the sorted go -/
theorem rem_drop {l sd : List Ent} (hp : sd.Perm l) (nk : (l.map Ent.key).Nodup) (n : Nat) : (rem l ((sd.drop n).map Ent.key)).Perm (sd.take n) := by
  have nks : (sd.map Ent.key).Nodup := (hp.map _).nodup_iff.mpr nk
  have h1 : (rem l ((sd.drop n).map Ent.key)).Perm (rem sd ((sd.drop n).map Ent.key)) := (hp.symm.filter _)
  have h2 : rem sd ((sd.drop n).map Ent.key) = sd.take n := by
    unfold rem
    have e : sd.filter (fun x => decide (x.key ∉ (sd.drop n).map Ent.key)) = (sd.take n).filter (fun x => decide (x.key ∉ (sd.drop n).map Ent.key)) ++ (sd.drop n).filter (fun x => decide (x.key ∉ (sd.drop n).map Ent.key)) := by
      rw [← List.filter_append, List.take_append_drop]
    rw [e]
    have e2 : (sd.drop n).filter (fun x => decide (x.key ∉ (sd.drop n).map Ent.key)) = [] := by
      rw [List.filter_eq_nil_iff]
      intro a ha
      simp only [decide_eq_true_eq, Decidable.not_not]
      exact List.mem_map_of_mem ha
    have e1 : (sd.take n).filter (fun x => decide (x.key ∉ (sd.drop n).map Ent.key)) = sd.take n := by
      rw [List.filter_eq_self]
      intro a ha
      refine decide_eq_true fun hm => ?_
      rw [← List.take_append_drop n sd, List.map_append, List.nodup_append] at nks
      exact nks.2.2 _ (List.mem_map_of_mem ha) _ hm rfl
    rw [e1, e2, List.append_nil]
  rw [h2] at h1; exact h1
theorem key_not_taken {l : List Ent} (nk : (l.map Ent.key).Nodup) {i : Nat} {e : Ent} (he : l[i]? = some e) : e.key ∉ (l.take i).map Ent.key := fun hm => by
  obtain ⟨x, hx, q⟩ := List.mem_map.mp hm
  obtain ⟨j, hj, rfl⟩ := List.mem_iff_getElem.mp hx
  obtain ⟨hi, rfl⟩ := List.getElem?_eq_some_iff.mp he
  rw [List.length_take] at hj
  have hj2 : j < l.length := by omega
  rw [List.getElem_take] at q
  have hi' : i < (l.map Ent.key).length := by rw [List.length_map]; exact hi
  have hj' : j < (l.map Ent.key).length := by rw [List.length_map]; exact hj2
  have q' : (l.map Ent.key)[j] = (l.map Ent.key)[i] := by rw [List.getElem_map, List.getElem_map]; exact q
  have : j = i := (List.getElem_inj nk).mp q'
  omega
theorem Led.sublist {h₀ h : Heap} {L : Nat} {l l' : List (Addr × Obj)} (H : Led h₀ L h l) (hs : l'.Sublist l) : Led h₀ L h l' := ⟨fun p hp => H.1 p (hs.subset hp), H.2.sublist (hs.map _)⟩
theorem rem_flat (ks : List Int) : ∀ l : List Ent, ((rem l ks).flatMap Ent.led).Sublist (l.flatMap Ent.led)
  | [] => List.Sublist.refl _
  | x :: l => by
    unfold rem
    rw [List.filter_cons]
    split
    · rw [List.flatMap_cons, List.flatMap_cons]
      exact (List.Sublist.refl _).append (rem_flat ks l)
    · rw [List.flatMap_cons]
      exact (rem_flat ks l).trans (List.sublist_append_right _ _)
end Mine

namespace Mine
/-- a turn of the letting go -/
def EvEnd {prog : Program} {w : World} (kn : KeyKind prog w Int) (h₀ : Heap) (L : Addr) (c : Nat) (nw : Obj → List (Addr × Obj)) (kvs : List (Int × Value)) (s₁ : Shared) (f : Flow) (s₂ : Shared) : Prop :=
  f = .next ∧ ∃ (h' : Heap) (tk : Nat) (m' : Str → Option Value) (o' : Obj), s₂ = { s₁ with heap := h', toks := tk } ∧ Fr h₀ L h' m' ∧ m' (Str.ofString "self") = some (.ref c) ∧ News h₀ L h' (nw o') ∧ o'.IsDictOf kn kvs
theorem EvEnd.intro {prog : Program} {w : World} {kn : KeyKind prog w Int} {h₀ : Heap} {L : Addr} {c : Nat} {nw : Obj → List (Addr × Obj)} {kvs : List (Int × Value)} {s₁ : Shared} {h' : Heap} {tk : Nat} {m' : Str → Option Value} {o' : Obj}
    (hd : o'.IsDictOf kn kvs) (N : News h₀ L h' (nw o')) (F : Fr h₀ L h' m') (hs : m' (Str.ofString "self") = some (.ref c)) : EvEnd kn h₀ L c nw kvs s₁ .next { s₁ with heap := h', toks := tk } := ⟨rfl, h', tk, m', o', rfl, F, hs, N, hd⟩
section
variable {prog : Program} {w : World} {A : Around} {E : Value → Shared → Prop} {s : Shared} {env : Env} {h₀ : Heap} {body : List Stmt} {Q : Flow → Shared → Prop}
/-- the loop that lets the last of the sorted go -/
theorem evict_loop {x : Str} {l c dd d mu dm : Nat} {c0 : Nat} {lo : Obj} {dmo : Obj} {dobj : Obj} {news : List (Addr × Obj)} {m₀ : Str → Option Value} {ents sd : List Ent} {n : Nat} (hsx : Str.ofString "self" ≠ x)
    (hh : A.handled = none) (F : Fr h₀ env.locals s.heap m₀) (N : News h₀ env.locals s.heap news) (hself : m₀ (Str.ofString "self") = some (.ref c))
    (k1 : (l, listOf ((tupV sd).drop n).toArray c0) ∈ news) (k2 : (c, lo) ∈ news) (k3 : (dd, dictOf [] 0) ∈ news) (k4 : (d, dobj) ∈ news) (k5 : (mu, instObj 53 dm) ∈ news) (k6 : (dm, dmo) ∈ news)
    (hd : dobj.IsDictOf (intKind prog w) (kvsOf ents))
    (turn : ∀ (i : Nat) (e : Ent) (m₁ : Str → Option Value) (o : Obj) (s₁ : Shared) (it : Nat) (oi : Obj), (sd.drop n)[i]? = some e → m₁ (Str.ofString "self") = some (.ref c) → o.IsDictOf (intKind prog w) (kvsOf (rem ents (((sd.drop n).take i).map Ent.key))) →
      Fr h₀ env.locals s₁.heap (fun y => if y = x then some (.ref e.tup) else m₁ y) → News h₀ env.locals s₁.heap [(l, listOf ((tupV sd).drop n).toArray c0), (c, lo), (dd, dictOf [] 0), (d, o), (mu, instObj 53 dm), (dm, dmo), (it, oi)] →
      (∀ q ∈ ([(l, listOf ((tupV sd).drop n).toArray c0), (c, lo), (dd, dictOf [] 0), (d, o), (mu, instObj 53 dm), (dm, dmo)] : List (Addr × Obj)), @Ne Nat q.1 it) →
      wpAny (model prog w) A (execs body env) (EvEnd (intKind prog w) h₀ env.locals c (fun o' => [(l, listOf ((tupV sd).drop n).toArray c0), (c, lo), (dd, dictOf [] 0), (d, o'), (mu, instObj 53 dm), (dm, dmo), (it, oi)]) (without (kvsOf (rem ents (((sd.drop n).take i).map Ent.key))) e.key) s₁) E s₁)
    (done : ∀ (m₁ : Str → Option Value) (o : Obj) (h : Heap) (tk : Nat), m₁ (Str.ofString "self") = some (.ref c) → o.IsDictOf (intKind prog w) (kvsOf (rem ents ((sd.drop n).map Ent.key))) → Fr h₀ env.locals h m₁ → News h₀ env.locals h [(c, lo), (dd, dictOf [] 0), (d, o), (mu, instObj 53 dm), (dm, dmo)] → Q .next { s with heap := h, toks := tk }) :
    wpAny (model prog w) A (pyIter (.ref l)) (fun it s₂ => LoopAtU prog w A h₀ env x body Q E it s₂) E s := by
  have hdl : (tupV sd).drop n = tupV (sd.drop n) := List.map_drop.symm
  refine iter_ledU (vs := (tupV sd).drop n) (c := c0) (m₀ := m₀) (news := [(l, listOf ((tupV sd).drop n).toArray c0), (c, lo), (dd, dictOf [] 0), (d, dobj), (mu, instObj 53 dm), (dm, dmo)])
    (fun i m₁ n₁ => m₁ (Str.ofString "self") = some (.ref c) ∧ ∃ o, o.IsDictOf (intKind prog w) (kvsOf (rem ents (((sd.drop n).take i).map Ent.key))) ∧ n₁ = [(l, listOf ((tupV sd).drop n).toArray c0), (c, lo), (dd, dictOf [] 0), (d, o), (mu, instObj 53 dm), (dm, dmo)])
    hh F ?_ ?_ ⟨hself, dobj, ?_, rfl⟩ ?_ ?_
  · refine news_sub N fun p hp => ?_
    simp only [List.mem_cons, List.not_mem_nil, or_false] at hp
    rcases hp with rfl | rfl | rfl | rfl | rfl | rfl <;> assumption
  · rintro i m₁ n₁ ⟨_, o, _, rfl⟩
    exact .head _
  · rw [List.take_zero, List.map_nil, rem_nil]; exact hd
  · rintro i v m₁ news₁ s₁ it oi hv ⟨hs1, o, ho, rfl⟩ F₁ N₁ hap
    rw [hdl] at hv
    obtain ⟨e, he, rfl⟩ : ∃ e, (sd.drop n)[i]? = some e ∧ v = .ref e.tup := by
      unfold tupV at hv
      rw [List.getElem?_map] at hv
      cases q : (sd.drop n)[i]? with
      | none => rw [q] at hv; cases hv
      | some e => rw [q] at hv; exact ⟨e, rfl, (Option.some.inj hv).symm⟩
    refine wpAny_mono (turn i e m₁ o s₁ it oi he hs1 ho F₁ N₁ hap) ?_ fun _ _ q => q
    rintro f s₂ ⟨rfl, h', tk, m', o', rfl, F', hs', N', ho'⟩
    refine ⟨rfl, .intro (news' := [(l, listOf ((tupV sd).drop n).toArray c0), (c, lo), (dd, dictOf [] 0), (d, o'), (mu, instObj 53 dm), (dm, dmo)]) F' N' (fun p hp q hq => ?_) ⟨hs', o', ?_, rfl⟩⟩
    · rw [List.mem_singleton.mp hq]
      simp only [List.mem_cons, List.not_mem_nil, or_false] at hp hap
      rcases hp with rfl | rfl | rfl | rfl | rfl | rfl
      · exact hap _ (.inl rfl)
      · exact hap _ (.inr (.inl rfl))
      · exact hap _ (.inr (.inr (.inl rfl)))
      · exact hap (d, o) (.inr (.inr (.inr (.inl rfl))))
      · exact hap _ (.inr (.inr (.inr (.inr (.inl rfl)))))
      · exact hap _ (.inr (.inr (.inr (.inr (.inr rfl)))))
    · rw [rem_snoc] at ho'
      have e2 : ((sd.drop n).take (i + 1)).map Ent.key = ((sd.drop n).take i).map Ent.key ++ [e.key] := by
        rw [List.take_add_one, he, List.map_append]; rfl
      rw [e2]; exact ho'
  · rintro m₁ news₁ h tk ⟨hs1, o, ho, rfl⟩ F₁ N₁
    have e3 : (sd.drop n).take ((tupV sd).drop n).length = sd.drop n := by rw [hdl, List.length_map]; exact List.take_length
    rw [e3] at ho
    exact done m₁ o h tk hs1 ho F₁ (news_sub N₁ fun p hp => .tail _ hp)
end
end Mine

namespace Mine
local macro_rules | `(tactic| k_room) => `(tactic| (show _ < _; (try simp only [depth_under_make, depth_under_kw, depth_in1, depth_deeper, depth_caller]); (try unfold recursionLimit); omega))
local macro_rules | `(tactic| k_units) => `(tactic| (show _ < _; (try simp only [units_deeper, units_in1]); (try unfold cLine); omega))
local macro_rules | `(tactic| walk_at "FILL") => `(tactic| (have _fill : (fun (_ : OpenLaw) (_ : Params → Frag) => True) PySem.Challenge.rw_bn5031_01 hd.heap_39 := by k_fill; trivial))
local macro_rules | `(tactic| walk_at "ENTER") => `(tactic| (
  refine' callF ?k1 ?k2 ?k3 ?k4 ?k4r ?k4d ?k5 ?kA ?kF ?kK ?k6 ?k7 ?k8 ?k9 ?kB ?_ ?c2 ?c3 ?c4 ?c5; (case kA => exact rfl); (case kF => assumption); (case kK => assumption); (case k4d => assumption); (case k1 => assumption); (case k2 => assumption); (case k3 => assumption); (case k4 => assumption); (case k4r => assumption); (case k5 => assumption); (case k6 => k_is); (case k7 => k_is); (case k8 => k_room); (case k9 => first | exact BindsTo.of_eq rfl | exact binds_K (by k_in) rfl (by k_is) rfl rfl rfl | fail "k_enter: no rule for these arguments"); (case c5 => decide); (case kB => exact locs rfl); (case c2 => exact rfl); (case c3 => exact rfl); (case c4 => exact rfl); k_whole))

local macro_rules | `(tactic| k_handed) => `(tactic| assumption)
local macro_rules | `(tactic| walk_at "binaryOp Mult") => `(tactic| (k_here; k_dflt (refine' Thr.mulK ?T ?_; (case T => assumption); k_whole); intro y' tk' hy'))
local macro_rules | `(tactic| walk_at "binaryOp Add") => `(tactic| (k_here; k_dflt (refine' Thr.addK ?T ?y ?_; (case T => assumption); (case y => assumption); k_whole); intro z' tk' hz'))
local macro_rules | `(tactic| walk_at "compareOp Gt") => `(tactic| (k_here; k_dflt (refine' Thr.gtK ?T ?z ?n ?b ?_; (case T => assumption); (case z => assumption); (case n => assumption); (case b => assumption); k_whole); intro tk'))
local macro_rules | `(tactic| walk_at "call builtin:len") => `(tactic| (k_here; (with_reducible show wpAny _ _ (call (Value.builtin "len") [Value.ref _]) _ _ _); k_dflt (refine' dlen_led ?N ?hm ?hd ?lo ?hl ?_; (case hd => assumption); (case N => k_asm); (case hm => k_mem); (case lo => assumption); (case hl => assumption); k_whole); intro t'))

local macro_rules | `(tactic| walk_at "subscriptTail Name Slice ref ref") => `(tactic| (k_here; (with_reducible show wpAny _ _ (subscriptTail _ (PySem.Expr.Slice _ _ none _) (Value.ref _) (Value.ref _)) _ _ _); k_dflt (refine' kmk_slice_lit ?F ?N ?l ?p ?q ?e ?_ ?s ?t ?z; (case F => k_asm); (case N => k_asm); (case l => kmk_list); (case p => kmk_part); (case q => kmk_part); (case e => assumption); (case s => with_unfolding_all rfl); (case t => kmk_pure); (case z => (rw [List.size_toArray, sizeLine_eq]; omega))); intro D' h' F' N' l1; (try k_lt l1); (try k_sweep)))
local macro_rules | `(tactic| walk_at "eval Name") => `(tactic| (k_here; k_dflt (refine' ld ?k1 ?k2 ?_; (case k1 => k_asm); (case k2 => assumption); k_whole)))
local macro_rules | `(tactic| walk_at "subscriptTail") => `(tactic| (k_here; (with_reducible show wpAny _ _ (subscriptTail _ _ (Value.ref _) (Value.int _ _)) _ _ _); k_dflt (refine' item_tupleT ?t ?a ?b ?c ?d ?_; (case t => exact IsTup.keeps (by assumption) (Fr.keep (by assumption))); (case a => decide); (case b => decide); (case c => rfl); (case d => rfl); k_whole)))
local macro_rules | `(tactic| walk_at "delItem") => `(tactic| (k_here; k_dflt (refine' ddel_led ?F ?N ?U ?hd ?hl ?hk ?_; (case hd => assumption); (case F => k_asm); (case N => k_asm); (case U => k_updF); (case hl => assumption); (case hk => assumption); k_whole); intro h' o' F' N' hd'))
theorem manage_evict {w : World} {A₀ : Around} {base h₀ : Heap} {env : Env} {outer : List Env} {L : Addr} {m : Str → Option Value} {p : Program} {loose : List Str} {mean : ExcName → Option Value} {mg mb : Str → Option Value} {s : Shared} {E : Value → Shared → Prop} {Q : Value → Shared → Prop}
    {dp un : Nat} {gd : Option (List Code)} {rest : List (Addr × Obj)} {C : Cache} {lim : Nat → Bool}
    (B : Below A₀ base outer h₀) (F : Fr h₀ L s.heap m) (X₀ : (hd.heap_39 w.params).In h₀) (N : Led h₀ L s.heap (C.led w ++ rest))
    (T : Top p loose mean mg mb h₀) (hf : env.frame = some L) (hke : env.scope.kind = .function) (hdp : dp < 700) (_hun : un < 3000)
    (hT : Thr w C.cap C.thr lim) (h20 : C.ents.length ≤ 20) (hlim : lim C.ents.length = true) (nc : (C.ents.map Ent.cnt).Nodup) (h2 : 2 ≤ C.ents.length) (hc0 : 0 ≤ C.cap) (hlim2 : lim (min C.cap.toNat C.ents.length) = false) (ok : C.Ok w)
    (h : ∀ (h' : Heap) (tk : Nat) (sd : List Ent) (o : Obj), sd.Perm C.ents → sd.Pairwise (fun x y => y.cnt < x.cnt) → o.IsDictOf (IK w) (kvsOf (rem C.ents ((sd.drop C.cap.toNat).map Ent.key))) → Fr h₀ L h' m →
      Led h₀ L h' (Cache.led { C with ents := rem C.ents ((sd.drop C.cap.toNat).map Ent.key), dobj := o } w ++ rest) → Q .none { s with heap := h', toks := tk }) :
    wpAny (MO w) (Ar dp (env :: outer) gd un) (call (.ref 181) [.ref C.c]) Q E s := by
  walk_at "FILL"
  have hth := hT.handed
  have nk := ok.nodup
  obtain ⟨hik, lo⟩ := ok
  obtain ⟨c, dd, d, mu, dm, cap, tc, thr, ctr, tt, ents, dobj, ht⟩ := C
  dsimp only at nc nk h2 hc0 hlim2 hT h20 hlim lo h hik hth ⊢
  have h64 : ents.length < 64 := by omega
  have h20e : ents.length ≤ 20 := h20
  rw [← kvs_len] at h20 hlim
  have N0 : Led h₀ L s.heap ([(c, lru dd d mu cap tc thr ctr tt), (dd, dictOf [] 0), (d, dobj), (mu, instObj 53 dm), (dm, heldD w ht false)] ++ (ents.flatMap Ent.led ++ rest)) := by
    refine N.perm ?_
    unfold Cache.led
    rw [List.append_assoc]
    exact List.Perm.refl _
  have N1 := N0.left
  have N2 := N0.right
  have dis := N0.dis
  have hnd := N0.nodup
  simp only [List.map_append, List.map_cons, List.map_nil, List.nodup_cons, List.mem_cons, List.not_mem_nil, or_false, not_or, List.nodup_nil, and_true, not_false_eq_true] at hnd
  refine wpAny_call ?_
  walk_at "ENTER"
  intro g L' h₁ FG F' N' B' X' T' hr' l1 l2
  dsimp only
  have hbl : ∀ x ∈ ents, g.get? x.lst = some x.lobj := fun x hx => hr' (x.lst, x.lobj) (List.mem_append_left _ (List.mem_flatMap.mpr ⟨x, hx, .tail _ (.head _)⟩))
  have hbt : ∀ x ∈ ents, g.get? x.tup = some x.tobj := fun x hx => hr' (x.tup, x.tobj) (List.mem_append_left _ (List.mem_flatMap.mpr ⟨x, hx, .head _⟩))
  k_steps
  with_unfolding_all refine' srt_sorted (l := ents) ?hh ?hu ?F ?N ?hv ?hp ?hd hbl nc h2 h64 ?turn ?_
  case hh => exact rfl
  case hu => (show un + 3 + 2 < _); (unfold cLine); omega
  case F => assumption
  case N => assumption
  case hv => k_mem
  case hp => k_mem
  case hd => assumption
  case turn =>
    intro x hx h3 tk3 own F3 N3 Q3 hQ3
    with_unfolding_all refine' ig_call (dp := dp + 1) (un := un + 3 + 1 + 1) B' F3 X' N3 T' rfl rfl (by omega) (by omega) ?g1 ?g2 ?g3 (hbt x hx) (fun h' tk' a b => hQ3 h' tk' a b)
    case g1 => (refine List.mem_append_left _ ?_); k_mem
    case g2 => (refine List.mem_append_left _ ?_); k_mem
    case g3 => (refine List.mem_append_left _ ?_); k_mem
  intro D2 h4 tk4 sd c2 hperm hpair F4 N4 l4
  k_lt l4
  have hsl : (tupV sd).length ≤ 20 := by rw [List.length_map, hperm.length_eq]; omega
  have hpk := pick_from (tupV sd) hc0
  dsimp only
  k_steps
  with_unfolding_all refine' evict_loop (c := c) (dd := dd) (d := d) (mu := mu) (dm := dm) (ents := ents) (sd := sd) (n := cap.toNat) ?hsx ?hh ?F ?N ?hself ?k1 ?k2 ?k3 ?k4 ?k5 ?k6 hik ?turn ?done
  case hsx => decide
  case hh => exact rfl
  case F => assumption
  case N => assumption
  case hself => exact rfl
  case k1 => k_mem
  case k2 => k_mem
  case k3 => k_mem
  case k4 => k_mem
  case k5 => k_mem
  case k6 => k_mem
  case turn =>
    intro i e m₁ o s₁ it oi he hs1 ho F₁ N₁ hap
    replace F₁ : Fr g L' s₁.heap _ := F₁
    replace N₁ : News g L' s₁.heap _ := N₁
    have hee : e ∈ ents := hperm.mem_iff.mp (List.mem_of_mem_drop (List.mem_of_getElem? he))
    have htg : IsTup g e.tup (List.toArray [.int e.key e.kt, .str e.sv e.vt, .ref e.lst]) := ⟨_, hbt e hee, rfl, _, rfl⟩
    have nkd : ((sd.drop cap.toNat).map Ent.key).Nodup := ((hperm.map _).nodup_iff.mpr nk).sublist ((List.drop_sublist _ _).map _)
    have hkk := at_rem hee nk (key_not_taken nkd he)
    have hlr : (kvsOf (rem ents (((sd.drop cap.toNat).take i).map Ent.key))).length ≤ 20 := by rw [List.length_map]; exact Nat.le_trans (rem_len _ _) h20e
    simp only [List.mem_cons, List.not_mem_nil, or_false, forall_eq_or_imp, forall_eq] at hap
    k_steps
    refine EvEnd.intro (by assumption) (by assumption) (by assumption) (by assumption)
  case done =>
    intro m₁ o h5 tk5 hs1 ho F₁ N₁
    replace F₁ : Fr g L' h5 _ := F₁
    replace N₁ : News g L' h5 _ := N₁
    have hlr : (kvsOf (rem ents ((sd.drop cap.toNat).map Ent.key))).length ≤ 20 := by rw [List.length_map]; exact Nat.le_trans (rem_len _ _) h20e
    have hl2 : lim (kvsOf (rem ents ((sd.drop cap.toNat).map Ent.key))).length = false := by
      rw [List.length_map, (rem_drop hperm nk cap.toNat).length_eq, List.length_take, hperm.length_eq]; exact hlim2
    dsimp only
    k_steps
    rename News h₀ L _ _ => NR; revert NR; rename News h₀ L _ _ => NL; intro NR
    refine h _ _ sd o hperm hpair ho (by assumption) (((N0.of2 (x := [(c, lru dd d mu cap tc thr ctr tt), (dd, dictOf [] 0), (d, o), (mu, instObj 53 dm), (dm, heldD w ht false)]) NL NR rfl).sublist (List.Sublist.append (List.Sublist.refl _) (List.Sublist.append (rem_flat ((sd.drop cap.toNat).map Ent.key) ents) (List.Sublist.refl _)))).perm ?_)
    unfold Cache.led
    dsimp only
    rw [List.append_assoc]
    exact List.Perm.refl _
end Mine

namespace Mine
section
local macro_rules | `(tactic| walk_at "RESET") => `(tactic| trivial)
local macro_rules | `(tactic| walk_at "RESET") => `(tactic| trivial)
local macro_rules | `(tactic| walk_at "RESET") => `(tactic| trivial)
local macro_rules | `(tactic| walk_at "RESET") => `(tactic| trivial)
local macro_rules | `(tactic| walk_at "RESET") => `(tactic| trivial)
local macro_rules | `(tactic| walk_at "RESET") => `(tactic| trivial)
local macro_rules | `(tactic| walk_at "RESET") => `(tactic| trivial)
local macro_rules | `(tactic| walk_at "RESET") => `(tactic| trivial)
local macro_rules | `(tactic| walk_at "RESET") => `(tactic| trivial)
local macro_rules | `(tactic| walk_at "RESET") => `(tactic| trivial)
local macro_rules | `(tactic| walk_at "RESET") => `(tactic| trivial)
local macro_rules | `(tactic| walk_at "RESET") => `(tactic| trivial)
local macro_rules | `(tactic| walk_at "RESET") => `(tactic| trivial)
local macro_rules | `(tactic| walk_at "RESET") => `(tactic| trivial)
local macro_rules | `(tactic| walk_at "RESET") => `(tactic| trivial)
local macro_rules | `(tactic| walk_at "RESET") => `(tactic| trivial)
local macro_rules | `(tactic| walk_at "RESET") => `(tactic| trivial)
local macro_rules | `(tactic| walk_at "RESET") => `(tactic| trivial)
local macro_rules | `(tactic| walk_at "RESET") => `(tactic| trivial)
local macro_rules | `(tactic| walk_at "RESET") => `(tactic| trivial)
local macro_rules | `(tactic| walk_at "RESET") => `(tactic| trivial)
local macro_rules | `(tactic| walk_at "RESET") => `(tactic| trivial)
local macro_rules | `(tactic| walk_at "RESET") => `(tactic| trivial)
local macro_rules | `(tactic| walk_at "RESET") => `(tactic| trivial)
theorem resetL5 : True := by
  w_top off
  first | walk1 | trivial
end
end Mine

namespace Mine
local macro_rules | `(tactic| k_room) => `(tactic| (show _ < _; (try simp only [depth_under_make, depth_under_kw, depth_in1, depth_deeper, depth_caller]); (try unfold recursionLimit); omega))
local macro_rules | `(tactic| k_units) => `(tactic| (show _ < _; (try simp only [units_deeper, units_in1]); (try unfold cLine); omega))
local macro_rules | `(tactic| walk_at "FILL") => `(tactic| (have _fill : (fun (_ : OpenLaw) (_ : Params → Frag) => True) PySem.Challenge.rw_bn5031_01 hd.heap_39 := by k_fill; trivial))
local macro_rules | `(tactic| walk_at "ENTER") => `(tactic| (
  refine' callF ?k1 ?k2 ?k3 ?k4 ?k4r ?k4d ?k5 ?kA ?kF ?kK ?k6 ?k7 ?k8 ?k9 ?kB ?_ ?c2 ?c3 ?c4 ?c5; (case kA => exact rfl); (case kF => assumption); (case kK => assumption); (case k4d => assumption); (case k1 => assumption); (case k2 => assumption); (case k3 => assumption); (case k4 => assumption); (case k4r => assumption); (case k5 => assumption); (case k6 => k_is); (case k7 => k_is); (case k8 => k_room); (case k9 => first | exact BindsTo.of_eq rfl | exact binds_K (by k_in) rfl (by k_is) rfl rfl rfl | fail "k_enter: no rule for these arguments"); (case c5 => decide); (case kB => exact locs rfl); (case c2 => exact rfl); (case c3 => exact rfl); (case c4 => exact rfl); k_whole))


/-- held back from the walk -/
def Hold (P : Prop) : Prop := P
theorem hold {P : Prop} (h : Hold P) : P := h
local macro_rules | `(tactic| walk_at "call ref") => `(tactic| ((with_reducible show wpAny _ _ (call (Value.ref 181) _) _ _ _); refine hold ?_))
local macro_rules | `(tactic| k_all) => `(tactic| with_reducible assumption)
local macro_rules | `(tactic| walk_at "setItem ref int ref") => `(tactic| (k_here; k_dflt (refine' dset_led ?F ?N ?U ?hd ?hl ?_; (case hd => assumption); (case F => k_asm); (case N => k_asm); (case U => k_updF); (case hl => assumption); k_whole); intro h' o' F' N' hd'))

/-- what a store of a new key does -/
def SetTo (w : World) (lim : Nat → Bool) (C : Cache) (k : Int) (sv : Str) (C' : Cache) : Prop :=
  ∃ (e : Ent) (t1 : Tok) (o1 : Obj), e.key = k ∧ e.sv = sv ∧ e.cnt = C.ctr + 1 ∧ o1.IsDictOf (IK w) (kvsOf (C.ents ++ [e])) ∧
    ((lim (C.ents.length + 1) = false ∧ C' = { C with ctr := C.ctr + 1, tt := t1, ents := C.ents ++ [e], dobj := o1 }) ∨
     (lim (C.ents.length + 1) = true ∧ ∃ (sd : List Ent) (o : Obj), sd.Perm (C.ents ++ [e]) ∧ sd.Pairwise (fun x y => y.cnt < x.cnt) ∧ o.IsDictOf (IK w) (kvsOf (rem (C.ents ++ [e]) ((sd.drop C.cap.toNat).map Ent.key))) ∧
        C' = { C with ctr := C.ctr + 1, tt := t1, ents := rem (C.ents ++ [e]) ((sd.drop C.cap.toNat).map Ent.key), dobj := o }))
theorem stored_new {l : List Ent} {k : Int} {v : Value} (hk : k ∉ l.map Ent.key) : stored (kvsOf l) k v = kvsOf l ++ [(k, v)] := by
  unfold stored
  rw [if_neg]
  intro h
  rw [List.any_eq_true] at h
  obtain ⟨x, hx, q⟩ := h
  obtain ⟨e, he, rfl⟩ := List.mem_map.mp hx
  exact hk (of_decide_eq_true q ▸ List.mem_map_of_mem he)

theorem led_new {w : World} {g h : Heap} {L' : Nat} {c dd d mu dm : Nat} {cap ctr : Int} {tc tt : Tok} {thr : Value} {dobj : Obj} {ht : Tok} {ents : List Ent} {e : Ent} {tl : List (Addr × Obj)} (htl : tl = ents.flatMap Ent.led)
    (N : News g L' h ((e.tup, e.tobj) :: (e.lst, e.lobj) :: (c, lru dd d mu cap tc thr ctr tt) :: (dd, dictOf [] 0) :: (d, dobj) :: (mu, instObj 53 dm) :: (dm, heldD w ht false) :: tl))
    (nd : (((c, lru dd d mu cap tc thr ctr tt) :: (dd, dictOf [] 0) :: (d, dobj) :: (mu, instObj 53 dm) :: (dm, heldD w ht false) :: tl).map (·.1) : List Nat).Nodup)
    (l1 : c < e.lst ∧ dd < e.lst ∧ d < e.lst ∧ mu < e.lst ∧ dm < e.lst ∧ AllLt e.lst tl)
    (l2 : e.lst < e.tup ∧ c < e.tup ∧ dd < e.tup ∧ d < e.tup ∧ mu < e.tup ∧ dm < e.tup ∧ AllLt e.tup tl) :
    Led g L' h (Cache.led ⟨c, dd, d, mu, dm, cap, tc, thr, ctr, tt, ents ++ [e], dobj, ht⟩ w ++ []) := by
  have al : ∀ {b : Nat} {l : List (Addr × Obj)}, AllLt b l → ∀ x ∈ l.map (·.1), @LT.lt Nat _ x b := by
    intro b l
    induction l with
    | nil => intro _ x hx; cases hx
    | cons p r ih =>
      rintro ⟨q1, q2⟩ x hx
      rcases List.mem_cons.mp hx with rfl | hx
      · exact q1
      · exact ih q2 x hx
  have H : Led g L' h ((e.tup, e.tobj) :: (e.lst, e.lobj) :: (c, lru dd d mu cap tc thr ctr tt) :: (dd, dictOf [] 0) :: (d, dobj) :: (mu, instObj 53 dm) :: (dm, heldD w ht false) :: tl) := by
    refine ⟨N, ?_⟩
    obtain ⟨p1, p2, p3, p4, p5, p6⟩ := l1
    obtain ⟨q0, q1, q2, q3, q4, q5, q6⟩ := l2
    have r1 := al p6
    have r2 := al q6
    simp only [List.map_cons] at nd ⊢
    refine List.nodup_cons.mpr ⟨?_, List.nodup_cons.mpr ⟨?_, nd⟩⟩
    · simp only [List.mem_cons, not_or]
      exact ⟨Nat.ne_of_gt q0, Nat.ne_of_gt q1, Nat.ne_of_gt q2, Nat.ne_of_gt q3, Nat.ne_of_gt q4, Nat.ne_of_gt q5, fun hm => Nat.lt_irrefl _ (r2 _ hm)⟩
    · simp only [List.mem_cons, not_or]
      exact ⟨Nat.ne_of_gt p1, Nat.ne_of_gt p2, Nat.ne_of_gt p3, Nat.ne_of_gt p4, Nat.ne_of_gt p5, fun hm => Nat.lt_irrefl _ (r1 _ hm)⟩
  subst htl
  rw [List.append_nil]
  refine H.perm ?_
  unfold Cache.led
  dsimp only
  rw [List.flatMap_append, List.flatMap_cons, List.flatMap_nil, List.append_nil]
  exact (List.perm_append_comm (l₁ := [(e.tup, e.tobj), (e.lst, e.lobj)]) (l₂ := (c, lru dd d mu cap tc thr ctr tt) :: (dd, dictOf [] 0) :: (d, dobj) :: (mu, instObj 53 dm) :: (dm, heldD w ht false) :: ents.flatMap Ent.led)).trans (List.Perm.refl _)
theorem kvs_snoc (l : List Ent) (e : Ent) : kvsOf (l ++ [e]) = kvsOf l ++ [(e.key, .ref e.tup)] := List.map_append
theorem led_join {h₀ g h : Heap} {L L' : Nat} {a rest : List (Addr × Obj)} (H1 : Led g L' h (a ++ [])) (N1 : News h₀ L h (a ++ [])) (NR : News h₀ L h rest) (ndr : (rest.map (·.1) : List Nat).Nodup) (hg : ∀ p ∈ rest, g.get? p.1 = some p.2) : Led h₀ L h (a ++ rest) := by
  rw [List.append_nil] at H1 N1
  refine ⟨news_app N1 NR, ?_⟩
  rw [List.map_append, List.nodup_append]
  refine ⟨H1.2, ndr, fun x hx y hy q => ?_⟩
  obtain ⟨p, hp, rfl⟩ := List.mem_map.mp hx
  obtain ⟨p', hp', rfl⟩ := List.mem_map.mp hy
  have e1 := (H1.1 p hp).2.2
  rw [q, hg p' hp'] at e1
  cases e1

theorem set_spec {w : World} {A₀ : Around} {base h₀ : Heap} {env : Env} {outer : List Env} {L : Addr} {m : Str → Option Value} {p : Program} {loose : List Str} {mean : ExcName → Option Value} {mg mb : Str → Option Value} {s : Shared} {E : Value → Shared → Prop} {Q : Value → Shared → Prop}
    {dp un : Nat} {gd : Option (List Code)} {rest : List (Addr × Obj)} {C : Cache} {lim : Nat → Bool} {k : Int} {t vt : Tok} {sv : Str}
    (B : Below A₀ base outer h₀) (F : Fr h₀ L s.heap m) (X₀ : (hd.heap_39 w.params).In h₀) (N : Led h₀ L s.heap (C.led w ++ rest))
    (T : Top p loose mean mg mb h₀) (hf : env.frame = some L) (hke : env.scope.kind = .function) (hdp : dp < 600) (_hun : un < 2000)
    (hT : Thr w C.cap C.thr lim) (h20 : C.ents.length + 1 ≤ 20) (hk : k ∉ C.ents.map Ent.key) (nc : (C.ents.map Ent.cnt).Nodup) (hct : ∀ x ∈ C.ents, x.cnt ≤ C.ctr) (h1 : lim (C.ents.length + 1) = true → 1 ≤ C.ents.length ∧ lim (min C.cap.toNat (C.ents.length + 1)) = false) (hc0 : 0 ≤ C.cap) (ok : C.Ok w)
    (h : ∀ (h' : Heap) (tk : Nat) (C' : Cache), SetTo w lim C k sv C' → Fr h₀ L h' m → Led h₀ L h' (C'.led w ++ rest) → Q .none { s with heap := h', toks := tk }) :
    wpAny (MO w) (Ar dp (env :: outer) gd un) (call (.ref 159) [.ref C.c, .int k t, .str sv vt]) Q E s := by
  walk_at "FILL"
  have nk := ok.nodup
  obtain ⟨hik, lo⟩ := ok
  obtain ⟨c, dd, d, mu, dm, cap, tc, thr, ctr, tt, ents, dobj, ht⟩ := C
  dsimp only at nk hk nc hct h1 hc0 hT h20 lo h hik ⊢
  have h20k : (kvsOf ents).length ≤ 20 := by rw [List.length_map]; omega
  have N1 := N.left
  have N2 := N.right
  have dis := N.dis
  have hnd := N.nodup
  obtain ⟨tl, htl⟩ : ∃ tl, tl = ents.flatMap Ent.led := ⟨_, rfl⟩
  have hled : Cache.led ⟨c, dd, d, mu, dm, cap, tc, thr, ctr, tt, ents, dobj, ht⟩ w = (c, lru dd d mu cap tc thr ctr tt) :: (dd, dictOf [] 0) :: (d, dobj) :: (mu, instObj 53 dm) :: (dm, heldD w ht false) :: tl := by subst htl; rfl
  rw [hled] at N1 dis hnd
  have hnd0 := hnd
  simp only [List.map_cons, List.nodup_cons, List.mem_cons, not_or] at hnd
  obtain ⟨⟨a1, a2, a3, a4, a5⟩, ⟨b1, b2, b3, b4⟩, ⟨d1, d2, d3⟩, ⟨e1, e2⟩, e3, hndt⟩ := hnd
  have hoffc : ∀ q ∈ tl, q.1 ≠ c := fun q hq e => a5 (e ▸ List.mem_map_of_mem hq)
  have hoffd : ∀ q ∈ tl, q.1 ≠ d := fun q hq e => d3 (e ▸ List.mem_map_of_mem hq)
  refine wpAny_call ?_
  walk_at "ENTER"
  intro g L' h₁ FG F' N' B' X' T' hr' l1 l2
  dsimp only
  k_steps
  rename Obj.IsDictOf _ _ _ => hd1
  rename News g L' _ _ => NB
  rename Fr g L' _ _ => FB
  rename _ ∧ _ => lD; revert lD; rename _ ∧ _ => lL; intro lD
  rw [stored_new hk] at hd1
  dsimp only at NB FB
  have ndr : (rest.map (·.1) : List Nat).Nodup := by
    have h2 := N.2
    rw [List.map_append, List.nodup_append] at h2
    exact h2.2.1
  have HL := led_new (e := Ent.mk k t sv vt (ctr + 1) _ _ _ _ _) htl NB (by exact hnd0) lL lD
  obtain ⟨e, t1, o1, q1, q2, q3, q4, HL⟩ : ∃ (e : Ent) (t1 : Tok) (o1 : Obj), e.key = k ∧ e.sv = sv ∧ e.cnt = ctr + 1 ∧ o1.IsDictOf (IK w) (kvsOf (ents ++ [e])) ∧
      Led g L' _ (Cache.led ⟨c, dd, d, mu, dm, cap, tc, thr, ctr + 1, t1, ents ++ [e], o1, ht⟩ w ++ []) := ⟨_, _, _, rfl, rfl, rfl, by rw [kvs_snoc]; exact hd1, HL⟩
  have hlen : (ents ++ [e]).length = ents.length + 1 := by rw [List.length_append, List.length_singleton]
  show wpAny _ _ (call (Value.ref 181) [Value.ref c]) _ _ _
  cases hl : lim (ents.length + 1) with
  | false =>
    refine' manage_fit (dp := dp + 1) (un := un + 3) (C := ⟨c, dd, d, mu, dm, cap, tc, thr, ctr + 1, t1, ents ++ [e], o1, ht⟩) (rest := []) B' FB X' HL T' rfl rfl (by omega) (by omega) hT (by show (ents ++ [e]).length ≤ 20; omega) (by show lim (ents ++ [e]).length = false; rw [hlen]; exact hl) ⟨q4, lo⟩ ?_
    intro h5 tk5 F5 L5
    have N5 := L5.1
    dsimp only
    k_steps
    rename News h₀ L _ _ => NR; revert NR; rename News h₀ L _ _ => NL; intro NR
    exact h _ _ _ ⟨e, t1, o1, q1, q2, q3, q4, .inl ⟨hl, rfl⟩⟩ (by assumption) (led_join L5 NL NR ndr hr')
  | true =>
    obtain ⟨h1a, h1b⟩ := h1 hl
    have nc' : ((ents ++ [e]).map Ent.cnt).Nodup := by
      rw [List.map_append, List.nodup_append]
      refine ⟨nc, by simp, fun x hx y hy q => ?_⟩
      obtain ⟨z, hz, rfl⟩ := List.mem_map.mp hx
      rw [List.map_singleton, List.mem_singleton] at hy
      have := hct z hz
      omega
    refine' manage_evict (dp := dp + 1) (un := un + 3) (C := ⟨c, dd, d, mu, dm, cap, tc, thr, ctr + 1, t1, ents ++ [e], o1, ht⟩) (rest := []) B' FB X' HL T' rfl rfl (by omega) (by omega) hT (by show (ents ++ [e]).length ≤ 20; omega) (by show lim (ents ++ [e]).length = true; rw [hlen]; exact hl) nc' (by show 2 ≤ (ents ++ [e]).length; omega) hc0 (by show lim (min cap.toNat (ents ++ [e]).length) = false; rw [hlen]; exact h1b) ⟨q4, lo⟩ ?_
    intro h5 tk5 sd o a1 a2 a3 F5 L5
    have N5 := L5.1
    dsimp only
    k_steps
    rename News h₀ L _ _ => NR; revert NR; rename News h₀ L _ _ => NL; intro NR
    exact h _ _ _ ⟨e, t1, o1, q1, q2, q3, q4, .inr ⟨hl, sd, o, a1, a2, a3, rfl⟩⟩ (by assumption) (led_join L5 NL NR ndr hr')
end Mine

namespace Mine
section
local macro_rules | `(tactic| walk_at "RESET") => `(tactic| trivial)
local macro_rules | `(tactic| walk_at "RESET") => `(tactic| trivial)
local macro_rules | `(tactic| walk_at "RESET") => `(tactic| trivial)
local macro_rules | `(tactic| walk_at "RESET") => `(tactic| trivial)
local macro_rules | `(tactic| walk_at "RESET") => `(tactic| trivial)
local macro_rules | `(tactic| walk_at "RESET") => `(tactic| trivial)
local macro_rules | `(tactic| walk_at "RESET") => `(tactic| trivial)
local macro_rules | `(tactic| walk_at "RESET") => `(tactic| trivial)
local macro_rules | `(tactic| walk_at "RESET") => `(tactic| trivial)
local macro_rules | `(tactic| walk_at "RESET") => `(tactic| trivial)
local macro_rules | `(tactic| walk_at "RESET") => `(tactic| trivial)
local macro_rules | `(tactic| walk_at "RESET") => `(tactic| trivial)
local macro_rules | `(tactic| walk_at "RESET") => `(tactic| trivial)
local macro_rules | `(tactic| walk_at "RESET") => `(tactic| trivial)
local macro_rules | `(tactic| walk_at "RESET") => `(tactic| trivial)
local macro_rules | `(tactic| walk_at "RESET") => `(tactic| trivial)
local macro_rules | `(tactic| walk_at "RESET") => `(tactic| trivial)
local macro_rules | `(tactic| walk_at "RESET") => `(tactic| trivial)
local macro_rules | `(tactic| walk_at "RESET") => `(tactic| trivial)
local macro_rules | `(tactic| walk_at "RESET") => `(tactic| trivial)
local macro_rules | `(tactic| walk_at "RESET") => `(tactic| trivial)
local macro_rules | `(tactic| walk_at "RESET") => `(tactic| trivial)
local macro_rules | `(tactic| walk_at "RESET") => `(tactic| trivial)
local macro_rules | `(tactic| walk_at "RESET") => `(tactic| trivial)
theorem resetL6 : True := by
  w_top off
  first | walk1 | trivial
end
end Mine

namespace Mine
local macro_rules | `(tactic| k_room) => `(tactic| (show _ < _; (try simp only [depth_under_make, depth_under_kw, depth_in1, depth_deeper, depth_caller]); (try unfold recursionLimit); omega))
local macro_rules | `(tactic| k_units) => `(tactic| (show _ < _; (try simp only [units_deeper, units_in1]); (try unfold cLine); omega))
local macro_rules | `(tactic| walk_at "FILL") => `(tactic| (have _fill : (fun (_ : OpenLaw) (_ : Params → Frag) => True) PySem.Challenge.rw_bn5031_01 hd.heap_39 := by k_fill; trivial))
local macro_rules | `(tactic| walk_at "ENTER") => `(tactic| (
  refine' callF ?k1 ?k2 ?k3 ?k4 ?k4r ?k4d ?k5 ?kA ?kF ?kK ?k6 ?k7 ?k8 ?k9 ?kB ?_ ?c2 ?c3 ?c4 ?c5; (case kA => exact rfl); (case kF => assumption); (case kK => assumption); (case k4d => assumption); (case k1 => assumption); (case k2 => assumption); (case k3 => assumption); (case k4 => assumption); (case k4r => assumption); (case k5 => assumption); (case k6 => k_is); (case k7 => k_is); (case k8 => k_room); (case k9 => first | exact BindsTo.of_eq rfl | exact binds_K (by k_in) rfl (by k_is) rfl rfl rfl | fail "k_enter: no rule for these arguments"); (case c5 => decide); (case kB => exact locs rfl); (case c2 => exact rfl); (case c3 => exact rfl); (case c4 => exact rfl); k_whole))


local macro_rules | `(tactic| k_handed) => `(tactic| assumption)
theorem newDict_led {w : World} {A : Around} {E : Value → Shared → Prop} {s : Shared} {h₀ : Heap} {L : Addr} {m : Str → Option Value} {news : List (Addr × Obj)} {env : Env} {pos : Pos} {Q : Value → Shared → Prop} (F : Fr h₀ L s.heap m) (N : News h₀ L s.heap news) (hbig : h₀.NoLimit)
    (k : ∀ d h' o, Fr h₀ L h' m → News h₀ L h' ((d, o) :: news) → (∀ p ∈ news, p.1 < d) → (d == sysModules) = false → o.IsDictOf (IK w) (kvsOf []) → Q (.ref d) { s with heap := h' }) : wpAny (MO w) A (eval (.Dict [] [] pos) env) Q E s :=
  newDict_K F N hbig fun d h' o F' N' l1 lo _ _ hi _ => k d h' o F' N' l1 lo hi
local macro_rules | `(tactic| walk_at "eval Dict nil nil") => `(tactic| (k_here; k_dflt (refine' newDict_led ?k1 ?k2 (TopRead.nolimit (by k_asm)) ?_; (case k1 => k_asm); (case k2 => k_asm); k_whole); intro d' h' o' F' N' l1 lo' hi'; (try k_lt l1)))

theorem init_news {w : World} {g h : Heap} {L' : Nat} {c dd d mu dm : Nat} {cap ctr : Int} {tc tt : Tok} {thr : Value} {o : Obj} {ht : Tok}
    (N : News g L' h [(d, o), (mu, instObj 53 dm), (dm, heldD w ht false), (c, lru dd d mu cap tc thr ctr tt), (dd, dictOf [] 0)]) : News g L' h (Cache.led ⟨c, dd, d, mu, dm, cap, tc, thr, ctr, tt, [], o, ht⟩ w ++ []) := by
  refine news_sub N fun q hq => ?_
  simp only [Cache.led, List.flatMap_nil, List.append_nil, List.cons_append, List.nil_append, List.mem_cons, List.not_mem_nil, or_false] at hq ⊢
  rcases hq with rfl | rfl | rfl | rfl | rfl <;> simp
theorem led_init {w : World} {g h : Heap} {L' : Nat} {c dd d mu dm : Nat} {cap ctr : Int} {tc tt : Tok} {thr : Value} {o : Obj} {ht : Tok}
    (N : News g L' h [(d, o), (mu, instObj 53 dm), (dm, heldD w ht false), (c, lru dd d mu cap tc thr ctr tt), (dd, dictOf [] 0)])
    (l0 : @LT.lt Nat _ dd c) (l1 : c < dm ∧ dd < dm) (l2 : dm < mu) (l3 : mu < d ∧ dm < d ∧ c < d ∧ dd < d) :
    Led g L' h (Cache.led ⟨c, dd, d, mu, dm, cap, tc, thr, ctr, tt, [], o, ht⟩ w ++ []) := by
  refine ⟨init_news N, ?_⟩
  · simp only [Cache.led, List.flatMap_nil, List.append_nil, List.cons_append, List.nil_append, List.map_cons, List.map_nil, List.nodup_cons, List.mem_cons, List.not_mem_nil, or_false, not_or, List.nodup_nil, and_true, not_false_eq_true]
    refine ⟨⟨Nat.ne_of_gt l0, Nat.ne_of_lt l3.2.2.1, Nat.ne_of_lt (Nat.lt_trans l1.1 l2), Nat.ne_of_lt l1.1⟩, ⟨Nat.ne_of_lt l3.2.2.2, Nat.ne_of_lt (Nat.lt_trans l1.2 l2), Nat.ne_of_lt l1.2⟩, ⟨Nat.ne_of_gt l3.1, Nat.ne_of_gt l3.2.1⟩, Nat.ne_of_gt l2⟩
theorem init2 {w : World} {A₀ : Around} {base h₀ : Heap} {env : Env} {outer : List Env} {L : Addr} {m : Str → Option Value} {p : Program} {loose : List Str} {mean : ExcName → Option Value} {mg mb : Str → Option Value} {s : Shared} {E : Value → Shared → Prop} {Q : Value → Shared → Prop}
    {dp un : Nat} {gd : Option (List Code)} {rest : List (Addr × Obj)} {k : Int} {t : Tok} {thr : Value}
    (B : Below A₀ base outer h₀) (F : Fr h₀ L s.heap m) (X₀ : (hd.heap_39 w.params).In h₀) (N : Led h₀ L s.heap rest)
    (T : Top p loose mean mg mb h₀) (hf : env.frame = some L) (hke : env.scope.kind = .function) (hdp : dp < 600) (_hun : un < 2000) (hthr : handedIn thr = true)
    (h : ∀ (h' : Heap) (tk : Nat) (C : Cache), C.ents = [] → C.cap = k → C.thr = thr → C.ctr = 0 → C.Ok w → Fr h₀ L h' m → Led h₀ L h' (C.led w ++ rest) → Q (.ref C.c) { s with heap := h', toks := tk }) :
    wpAny (MO w) (Ar dp (env :: outer) gd un) (call (.ref 185) [.int k t, thr]) Q E s := by
  walk_at "FILL"
  refine' call_cls F X₀ N.1 ?k4 ?k5 ?k6 ?_
  case k4 => k_is
  case k5 => k_is
  case k6 => k_is
  intro x dx h1 F1 N1 lx ldx
  have NR := news_sub N1 fun q hq => List.Mem.tail _ (List.Mem.tail _ hq)
  have NM : News h₀ L h1 [(x, instObj 185 dx), (dx, dictOf [] 0)] := news_sub N1 fun q hq => by
    rcases List.mem_cons.mp hq with rfl | hq
    · exact .head _
    · rw [List.mem_singleton.mp hq]; exact .tail _ (.head _)
  have dis : ∀ q ∈ rest, q.1 ∉ ([(x, instObj 185 dx), (dx, dictOf [] 0)] : List (Addr × Obj)).map (·.1) := fun q hq hm => by
    have hq1 := lx q hq
    simp only [List.map_cons, List.map_nil, List.mem_cons, List.not_mem_nil, or_false] at hm
    rcases hm with e | e
    · rw [e] at hq1; exact Nat.lt_asymm hq1 ldx
    · rw [e] at hq1; exact Nat.lt_irrefl _ hq1
  have hxd : @LT.lt Nat _ dx x := ldx
  walk_at "ENTER"
  intro g L' h₁ FG F' N' B' X' T' hr' l1 l2
  dsimp only
  k_steps
  rename News h₀ L _ rest => NR1
  rename News h₀ L _ (_ :: _) => NL
  rename News g L' _ _ => NB
  rename _ ∧ _ => lD; revert lD; rename _ ∧ _ => lL; intro lD
  rename _ < (_ : Nat) => lM
  have HL := led_init NB hxd lL lM lD
  exact h _ _ _ rfl rfl rfl rfl ⟨by assumption, by assumption⟩ (by assumption) (led_join HL (init_news NL) NR1 N.2 hr')
theorem init1 {w : World} {A₀ : Around} {base h₀ : Heap} {env : Env} {outer : List Env} {L : Addr} {m : Str → Option Value} {p : Program} {loose : List Str} {mean : ExcName → Option Value} {mg mb : Str → Option Value} {s : Shared} {E : Value → Shared → Prop} {Q : Value → Shared → Prop}
    {dp un : Nat} {gd : Option (List Code)} {rest : List (Addr × Obj)} {k : Int} {t : Tok}
    (B : Below A₀ base outer h₀) (F : Fr h₀ L s.heap m) (X₀ : (hd.heap_39 w.params).In h₀) (N : Led h₀ L s.heap rest)
    (T : Top p loose mean mg mb h₀) (hf : env.frame = some L) (hke : env.scope.kind = .function) (hdp : dp < 600) (_hun : un < 2000)
    (h : ∀ (h' : Heap) (tk : Nat) (C : Cache), C.ents = [] → C.cap = k → (∃ u, C.thr = .float 0x3FE0000000000000 u) → C.ctr = 0 → C.Ok w → Fr h₀ L h' m → Led h₀ L h' (C.led w ++ rest) → Q (.ref C.c) { s with heap := h', toks := tk }) :
    wpAny (MO w) (Ar dp (env :: outer) gd un) (call (.ref 185) [.int k t]) Q E s := by
  walk_at "FILL"
  refine' call_cls F X₀ N.1 ?k4 ?k5 ?k6 ?_
  case k4 => k_is
  case k5 => k_is
  case k6 => k_is
  intro x dx h1 F1 N1 lx ldx
  have NR := news_sub N1 fun q hq => List.Mem.tail _ (List.Mem.tail _ hq)
  have NM : News h₀ L h1 [(x, instObj 185 dx), (dx, dictOf [] 0)] := news_sub N1 fun q hq => by
    rcases List.mem_cons.mp hq with rfl | hq
    · exact .head _
    · rw [List.mem_singleton.mp hq]; exact .tail _ (.head _)
  have dis : ∀ q ∈ rest, q.1 ∉ ([(x, instObj 185 dx), (dx, dictOf [] 0)] : List (Addr × Obj)).map (·.1) := fun q hq hm => by
    have hq1 := lx q hq
    simp only [List.map_cons, List.map_nil, List.mem_cons, List.not_mem_nil, or_false] at hm
    rcases hm with e | e
    · rw [e] at hq1; exact Nat.lt_asymm hq1 ldx
    · rw [e] at hq1; exact Nat.lt_irrefl _ hq1
  have hxd : @LT.lt Nat _ dx x := ldx
  walk_at "ENTER"
  intro g L' h₁ FG F' N' B' X' T' hr' l1 l2
  dsimp only
  k_steps
  rename News h₀ L _ rest => NR1
  rename News h₀ L _ (_ :: _) => NL
  rename News g L' _ _ => NB
  rename _ ∧ _ => lD; revert lD; rename _ ∧ _ => lL; intro lD
  rename _ < (_ : Nat) => lM
  have HL := led_init NB hxd lL lM lD
  exact h _ _ _ rfl rfl ⟨_, rfl⟩ rfl ⟨by assumption, by assumption⟩ (by assumption) (led_join HL (init_news NL) NR1 N.2 hr')
end Mine

namespace Mine
section
local macro_rules | `(tactic| walk_at "RESET") => `(tactic| trivial)
local macro_rules | `(tactic| walk_at "RESET") => `(tactic| trivial)
local macro_rules | `(tactic| walk_at "RESET") => `(tactic| trivial)
local macro_rules | `(tactic| walk_at "RESET") => `(tactic| trivial)
local macro_rules | `(tactic| walk_at "RESET") => `(tactic| trivial)
local macro_rules | `(tactic| walk_at "RESET") => `(tactic| trivial)
local macro_rules | `(tactic| walk_at "RESET") => `(tactic| trivial)
local macro_rules | `(tactic| walk_at "RESET") => `(tactic| trivial)
local macro_rules | `(tactic| walk_at "RESET") => `(tactic| trivial)
local macro_rules | `(tactic| walk_at "RESET") => `(tactic| trivial)
local macro_rules | `(tactic| walk_at "RESET") => `(tactic| trivial)
local macro_rules | `(tactic| walk_at "RESET") => `(tactic| trivial)
local macro_rules | `(tactic| walk_at "RESET") => `(tactic| trivial)
local macro_rules | `(tactic| walk_at "RESET") => `(tactic| trivial)
local macro_rules | `(tactic| walk_at "RESET") => `(tactic| trivial)
local macro_rules | `(tactic| walk_at "RESET") => `(tactic| trivial)
local macro_rules | `(tactic| walk_at "RESET") => `(tactic| trivial)
local macro_rules | `(tactic| walk_at "RESET") => `(tactic| trivial)
local macro_rules | `(tactic| walk_at "RESET") => `(tactic| trivial)
local macro_rules | `(tactic| walk_at "RESET") => `(tactic| trivial)
local macro_rules | `(tactic| walk_at "RESET") => `(tactic| trivial)
local macro_rules | `(tactic| walk_at "RESET") => `(tactic| trivial)
local macro_rules | `(tactic| walk_at "RESET") => `(tactic| trivial)
local macro_rules | `(tactic| walk_at "RESET") => `(tactic| trivial)
theorem resetL7 : True := by
  w_top off
  first | walk1 | trivial
end
end Mine

namespace Mine
noncomputable def thr0 (w : World) (cap : Int) (u : Tok) : Thr w cap (.int 0 u) (fun n => decide (cap < (n : Int))) where
  handed := rfl
  Y := fun y => ∃ v, y = .int 0 v
  Z := fun z => ∃ v, z = .int cap v
  mul := fun h => mul_int (h _ _ ⟨_, by rw [Int.mul_zero]⟩) (IntMulOk.of_right (by decide))
  add := fun hy h => by
    obtain ⟨v, rfl⟩ := hy
    exact wpAny_add_int (h _ _ ⟨_, by rw [Int.add_zero]⟩)
  gt := fun hz _ h => by
    obtain ⟨v, rfl⟩ := hz
    exact gt_int (h _)
noncomputable def thr1 (w : World) (cap : Int) (u : Tok) : Thr w cap (.int 1 u) (fun n => decide (cap + cap < (n : Int))) where
  handed := rfl
  Y := fun y => ∃ v, y = .int cap v
  Z := fun z => ∃ v, z = .int (cap + cap) v
  mul := fun h => mul_int (h _ _ ⟨_, by rw [Int.mul_one]⟩) (IntMulOk.of_right (by decide))
  add := fun hy h => by
    obtain ⟨v, rfl⟩ := hy
    exact wpAny_add_int (h _ _ ⟨_, rfl⟩)
  gt := fun hz _ h => by
    obtain ⟨v, rfl⟩ := hz
    exact gt_int (h _)
def halfOf (cap : Int) : UInt64 := Float64.add (Float64.ofInt cap) (Float64.mul (Float64.ofInt cap) 0x3FE0000000000000)
theorem half_cmp : ∀ c : Fin 4, ∀ n : Fin 21, (Float64.cmpInt (halfOf ((c.val : Int) + 1)) ((n.val : Nat) : Int) == some Ordering.lt) = decide (((c.val : Int) + 1) + ((c.val : Int) + 1) / 2 < ((n.val : Nat) : Int)) := by
  decide +kernel
noncomputable def thrH (w : World) (cap : Int) (u : Tok) (h1 : 1 ≤ cap) (h4 : cap ≤ 4) : Thr w cap (.float 0x3FE0000000000000 u) (fun n => decide (cap + cap / 2 < (n : Int))) where
  handed := rfl
  Y := fun y => ∃ v, y = .float (Float64.mul (Float64.ofInt cap) 0x3FE0000000000000) v
  Z := fun z => ∃ v, z = .float (halfOf cap) v
  mul := fun h => mul_if_fits (by have : cap.natAbs < 8 := by omega
                                  exact Nat.lt_of_lt_of_le this (by decide +kernel)) (h _ _ ⟨_, rfl⟩)
  add := fun hy h => by
    obtain ⟨v, rfl⟩ := hy
    refine add_if_fits (by have : cap.natAbs < 8 := by omega
                           exact Nat.lt_of_lt_of_le this (by decide +kernel)) (h _ _ ⟨_, rfl⟩)
  gt := fun {_ _ _ _ _ _ n} hz hn h => by
    obtain ⟨v, rfl⟩ := hz
    refine gt_if ?_
    have q := half_cmp ⟨(cap - 1).toNat, by omega⟩ ⟨n, by omega⟩
    have e : (((cap - 1).toNat : Nat) : Int) + 1 = cap := by omega
    simp only [e] at q
    rw [q]
    exact h _
end Mine

namespace Mine
local macro_rules | `(tactic| k_room) => `(tactic| (show _ < _; (try simp only [depth_under_make, depth_under_kw, depth_in1, depth_deeper, depth_caller]); (try unfold recursionLimit); omega))
local macro_rules | `(tactic| k_units) => `(tactic| (show _ < _; (try simp only [units_deeper, units_in1]); (try unfold cLine); omega))
local macro_rules | `(tactic| walk_at "FILL") => `(tactic| (have _fill : (fun (_ : OpenLaw) (_ : Params → Frag) => True) PySem.Challenge.rw_bn5031_01 hd.heap_39 := by k_fill; trivial))
local macro_rules | `(tactic| walk_at "ENTER") => `(tactic| (
  refine' callF ?k1 ?k2 ?k3 ?k4 ?k4r ?k4d ?k5 ?kA ?kF ?kK ?k6 ?k7 ?k8 ?k9 ?kB ?_ ?c2 ?c3 ?c4 ?c5; (case kA => exact rfl); (case kF => assumption); (case kK => assumption); (case k4d => assumption); (case k1 => assumption); (case k2 => assumption); (case k3 => assumption); (case k4 => assumption); (case k4r => assumption); (case k5 => assumption); (case k6 => k_is); (case k7 => k_is); (case k8 => k_room); (case k9 => first | exact BindsTo.of_eq rfl | exact binds_K (by k_in) rfl (by k_is) rfl rfl rfl | fail "k_enter: no rule for these arguments"); (case c5 => decide); (case kB => exact locs rfl); (case c2 => exact rfl); (case c3 => exact rfl); (case c4 => exact rfl); k_whole))
local macro_rules | `(tactic| walk_at "call builtin:len") => `(tactic| (k_here; (with_reducible show wpAny _ _ (call (Value.builtin "len") [Value.ref _]) _ _ _); k_dflt (refine' dlen_led ?N ?hm ?hd ?lo ?hl ?_; (case hd => assumption); (case N => k_asm); (case hm => k_mem); (case lo => assumption); (case hl => assumption); k_whole); intro t'))
local macro_rules | `(tactic| walk_at "call builtin:iter") => `(tactic| (k_here; (with_reducible show wpAny _ _ (call (Value.builtin "iter") [Value.ref _]) _ _ _); k_dflt (refine' kdk_iter ?F ?N ?hp ?hd ?lo ?_; (case hd => assumption); (case F => k_asm); (case N => k_asm); (case hp => k_mem); (case lo => assumption)); intro D' h' o' ep' F' N' l1 hi' ha'; (try k_lt l1)))

theorem led_one {h₀ g h0 h : Heap} {L : Addr} {a r : List (Addr × Obj)} {I : Nat} {oI : Obj} (H : Led h₀ L h0 (a ++ r)) (hI : ∀ p ∈ a, @LT.lt Nat _ p.1 I) (hg : ∀ p ∈ r, g.get? p.1 = some p.2) (gI : g.get? I = none)
    (N : News h₀ L h ((I, oI) :: a)) (NR : News h₀ L h r) : Led h₀ L h ((I, oI) :: (a ++ r)) := by
  refine ⟨news_app N NR, ?_⟩
  rw [List.map_cons, List.nodup_cons]
  refine ⟨fun hm => ?_, H.2⟩
  obtain ⟨p, hp, e⟩ := List.mem_map.mp hm
  rcases List.mem_append.mp hp with hp | hp
  · exact Nat.ne_of_lt (hI p hp) e
  · have := hg p hp
    rw [e] at this
    dsimp only at this
    rw [gI] at this
    cases this
theorem iter_call {w : World} {A₀ : Around} {base h₀ : Heap} {env : Env} {outer : List Env} {L : Addr} {m : Str → Option Value} {p : Program} {loose : List Str} {mean : ExcName → Option Value} {mg mb : Str → Option Value} {s : Shared} {E : Value → Shared → Prop} {Q : Value → Shared → Prop}
    {dp un : Nat} {gd : Option (List Code)} {rest : List (Addr × Obj)} {C : Cache}
    (B : Below A₀ base outer h₀) (F : Fr h₀ L s.heap m) (X₀ : (hd.heap_39 w.params).In h₀) (N : Led h₀ L s.heap (C.led w ++ rest))
    (T : Top p loose mean mg mb h₀) (hf : env.frame = some L) (hke : env.scope.kind = .function) (hdp : dp < 900) (_hun : un < 5000)
    (ok : C.Ok w)
    (h : ∀ (I : Addr) (oI : Obj) h' tk ep, Fr h₀ L h' m → Led h₀ L h' ((I, oI) :: (C.led w ++ rest)) → KdkIter oI C.d 0 (kvsOf C.ents).length ep → KdkAt (IK w) C.dobj (kvsOf C.ents) ep → Q (.ref I) { s with heap := h', toks := tk }) :
    wpAny (MO w) (Ar dp (env :: outer) gd un) (call (.ref 145) [.ref C.c]) Q E s := by
  walk_at "FILL"
  obtain ⟨hik, lo⟩ := ok
  obtain ⟨c, dd, d, mu, dm, cap, tc, thr, ctr, tt, ents, dobj, ht⟩ := C
  dsimp only at hik lo h ⊢
  have N0 : Led h₀ L s.heap ([(c, lru dd d mu cap tc thr ctr tt), (dd, dictOf [] 0), (d, dobj)] ++ (([(mu, instObj 53 dm), (dm, heldD w ht false)] ++ ents.flatMap Ent.led) ++ rest)) := by
    refine N.perm ?_
    unfold Cache.led
    rw [List.append_assoc, List.append_assoc, List.append_assoc]
  have N1 := N0.left
  have N2 := N0.right
  have dis := N0.dis
  have hnd := N0.nodup
  have hndr := N0.2
  rw [List.map_append, List.nodup_append] at hndr
  refine wpAny_call ?_
  walk_at "ENTER"
  intro g L' h₁ FG F' N' B' X' T' hr' l1 l2
  dsimp only
  k_steps
  rename News h₀ L _ _ => NR; revert NR; rename News h₀ L _ _ => NL; intro NR
  rename News g L' _ ((_, _) :: _) => NG
  rename KdkIter _ _ _ _ _ => hki
  rename KdkAt _ _ _ _ => hka
  rename _ ∧ _ ∧ _ => lD
  refine h _ _ _ _ _ (by assumption) ((led_one N0 ?_ hr' (NG _ (.head _)).2.2 NL NR).perm ?_) hki hka
  · simp only [List.mem_cons, List.not_mem_nil, or_false, forall_eq_or_imp, forall_eq]; exact lD
  · unfold Cache.led
    rw [List.append_assoc, List.append_assoc, List.append_assoc]

theorem len_call {w : World} {A₀ : Around} {base h₀ : Heap} {env : Env} {outer : List Env} {L : Addr} {m : Str → Option Value} {p : Program} {loose : List Str} {mean : ExcName → Option Value} {mg mb : Str → Option Value} {s : Shared} {E : Value → Shared → Prop} {Q : Value → Shared → Prop}
    {dp un : Nat} {gd : Option (List Code)} {rest : List (Addr × Obj)} {C : Cache}
    (B : Below A₀ base outer h₀) (F : Fr h₀ L s.heap m) (X₀ : (hd.heap_39 w.params).In h₀) (N : Led h₀ L s.heap (C.led w ++ rest))
    (T : Top p loose mean mg mb h₀) (hf : env.frame = some L) (hke : env.scope.kind = .function) (hdp : dp < 900) (_hun : un < 5000)
    (h20 : C.ents.length ≤ 20) (ok : C.Ok w)
    (h : ∀ h' tk t, Fr h₀ L h' m → Led h₀ L h' (C.led w ++ rest) → Q (.int ((kvsOf C.ents).length : Nat) t) { s with heap := h', toks := tk }) :
    wpAny (MO w) (Ar dp (env :: outer) gd un) (call (.ref 152) [.ref C.c]) Q E s := by
  walk_at "FILL"
  have h20k : (kvsOf C.ents).length ≤ 20 := by rw [List.length_map]; omega
  obtain ⟨hik, lo⟩ := ok
  obtain ⟨c, dd, d, mu, dm, cap, tc, thr, ctr, tt, ents, dobj, ht⟩ := C
  dsimp only at hik lo h h20k ⊢
  have N0 : Led h₀ L s.heap ([(c, lru dd d mu cap tc thr ctr tt), (dd, dictOf [] 0), (d, dobj)] ++ (([(mu, instObj 53 dm), (dm, heldD w ht false)] ++ ents.flatMap Ent.led) ++ rest)) := by
    refine N.perm ?_
    unfold Cache.led
    rw [List.append_assoc, List.append_assoc, List.append_assoc]
  have N1 := N0.left
  have N2 := N0.right
  have dis := N0.dis
  refine wpAny_call ?_
  walk_at "ENTER"
  intro g L' h₁ FG F' N' B' X' T' hr' l1 l2
  dsimp only
  k_steps
  rename News h₀ L _ _ => NR; revert NR; rename News h₀ L _ _ => NL; intro NR
  refine h _ _ _ (by assumption) ((N0.of2 NL NR rfl).perm ?_)
  unfold Cache.led
  rw [List.append_assoc, List.append_assoc, List.append_assoc]
end Mine

namespace Mine
section
local macro_rules | `(tactic| walk_at "RESET") => `(tactic| trivial)
local macro_rules | `(tactic| walk_at "RESET") => `(tactic| trivial)
local macro_rules | `(tactic| walk_at "RESET") => `(tactic| trivial)
local macro_rules | `(tactic| walk_at "RESET") => `(tactic| trivial)
local macro_rules | `(tactic| walk_at "RESET") => `(tactic| trivial)
local macro_rules | `(tactic| walk_at "RESET") => `(tactic| trivial)
local macro_rules | `(tactic| walk_at "RESET") => `(tactic| trivial)
local macro_rules | `(tactic| walk_at "RESET") => `(tactic| trivial)
local macro_rules | `(tactic| walk_at "RESET") => `(tactic| trivial)
local macro_rules | `(tactic| walk_at "RESET") => `(tactic| trivial)
local macro_rules | `(tactic| walk_at "RESET") => `(tactic| trivial)
local macro_rules | `(tactic| walk_at "RESET") => `(tactic| trivial)
local macro_rules | `(tactic| walk_at "RESET") => `(tactic| trivial)
local macro_rules | `(tactic| walk_at "RESET") => `(tactic| trivial)
local macro_rules | `(tactic| walk_at "RESET") => `(tactic| trivial)
local macro_rules | `(tactic| walk_at "RESET") => `(tactic| trivial)
local macro_rules | `(tactic| walk_at "RESET") => `(tactic| trivial)
local macro_rules | `(tactic| walk_at "RESET") => `(tactic| trivial)
local macro_rules | `(tactic| walk_at "RESET") => `(tactic| trivial)
local macro_rules | `(tactic| walk_at "RESET") => `(tactic| trivial)
local macro_rules | `(tactic| walk_at "RESET") => `(tactic| trivial)
local macro_rules | `(tactic| walk_at "RESET") => `(tactic| trivial)
local macro_rules | `(tactic| walk_at "RESET") => `(tactic| trivial)
local macro_rules | `(tactic| walk_at "RESET") => `(tactic| trivial)
theorem resetL8 : True := by
  w_top off
  first | walk1 | trivial
end
end Mine

namespace Mine
local macro_rules | `(tactic| k_room) => `(tactic| (show _ < _; (try simp only [depth_under_make, depth_under_kw, depth_in1, depth_deeper, depth_caller]); (try unfold recursionLimit); omega))
local macro_rules | `(tactic| k_units) => `(tactic| (show _ < _; (try simp only [units_deeper, units_in1]); (try unfold cLine); omega))
local macro_rules | `(tactic| walk_at "FILL") => `(tactic| (have _fill : (fun (_ : OpenLaw) (_ : Params → Frag) => True) PySem.Challenge.rw_bn5031_01 hd.heap_39 := by k_fill; trivial))
local macro_rules | `(tactic| walk_at "ENTER") => `(tactic| (
  refine' callF ?k1 ?k2 ?k3 ?k4 ?k4r ?k4d ?k5 ?kA ?kF ?kK ?k6 ?k7 ?k8 ?k9 ?kB ?_ ?c2 ?c3 ?c4 ?c5; (case kA => exact rfl); (case kF => assumption); (case kK => assumption); (case k4d => assumption); (case k1 => assumption); (case k2 => assumption); (case k3 => assumption); (case k4 => assumption); (case k4r => assumption); (case k5 => assumption); (case k6 => k_is); (case k7 => k_is); (case k8 => k_room); (case k9 => first | exact BindsTo.of_eq rfl | exact binds_K (by k_in) rfl (by k_is) rfl rfl rfl | fail "k_enter: no rule for these arguments"); (case c5 => decide); (case kB => exact locs rfl); (case c2 => exact rfl); (case c3 => exact rfl); (case c4 => exact rfl); k_whole))
local macro_rules | `(tactic| walk_at "call builtin:len") => `(tactic| (k_here; (with_reducible show wpAny _ _ (call (Value.builtin "len") [Value.ref _]) _ _ _); k_dflt (refine' dlen_led ?N ?hm ?hd ?lo ?hl ?_; (case hd => assumption); (case N => k_asm); (case hm => k_mem); (case lo => assumption); (case hl => assumption); k_whole); intro t'))
local macro_rules | `(tactic| walk_at "call builtin:iter") => `(tactic| (k_here; (with_reducible show wpAny _ _ (call (Value.builtin "iter") [Value.ref _]) _ _ _); k_dflt (refine' kdk_iter ?F ?N ?hp ?hd ?lo ?_; (case hd => assumption); (case F => k_asm); (case N => k_asm); (case hp => k_mem); (case lo => assumption)); intro D' h' o' ep' F' N' l1 hi' ha'; (try k_lt l1)))

local macro_rules | `(tactic| k_inst) => `(tactic| (refine' InstAt.of_news ?N ?h1 ?h2; (case N => assumption); (case h1 => k_mem); (case h2 => k_mem)))

theorem cache_inst {w : World} {h₀ h : Heap} {L : Addr} {C : Cache} {rest : List (Addr × Obj)} (N : Led h₀ L h (C.led w ++ rest)) : InstAt h C.c (lru C.dd C.d C.mu C.cap C.tc C.thr C.ctr C.tt) 185 (some (dictOf [] 0)) := by
  refine InstAt.of_news (N := N.1) ?h1 ?h2
  case h1 => (refine List.mem_append_left _ (List.mem_append_left _ (List.mem_append_left _ ?_))); exact .head _
  case h2 => (refine List.mem_append_left _ (List.mem_append_left _ (List.mem_append_left _ ?_))); exact .tail _ (.head _)
theorem findIn_iter (w : World) : findIn (hd.heap_39 w.params) (.ref 185) "__iter__" = some (some (.ref 145)) := by
  walk_at "FILL"; (refine' Eq.trans ?a ?b; rotate_left 1); (case a => k_is); (case b => rfl)
theorem findIn_len (w : World) : findIn (hd.heap_39 w.params) (.ref 185) "__len__" = some (some (.ref 152)) := by
  walk_at "FILL"; (refine' Eq.trans ?a ?b; rotate_left 1); (case a => k_is); (case b => rfl)
theorem isFn_iter (w : World) : isFn (hd.heap_39 w.params) (.ref 145) = true := by
  walk_at "FILL"; (refine' Eq.trans ?a ?b; rotate_left 1); (case a => k_is); (case b => rfl)
theorem isFn_len (w : World) : isFn (hd.heap_39 w.params) (.ref 152) = true := by
  walk_at "FILL"; (refine' Eq.trans ?a ?b; rotate_left 1); (case a => k_is); (case b => rfl)

section
variable {w : World} {A₀ : Around} {base h₀ : Heap} {env : Env} {outer : List Env} {L : Addr} {m : Str → Option Value} {p : Program} {loose : List Str} {mean : ExcName → Option Value} {mg mb : Str → Option Value} {s : Shared} {E : Value → Shared → Prop}
    {dp un : Nat} {gd : Option (List Code)} {rest : List (Addr × Obj)} {C : Cache}
theorem cache_iter {Q : Value → Shared → Prop} (B : Below A₀ base outer h₀) (F : Fr h₀ L s.heap m) (X₀ : (hd.heap_39 w.params).In h₀) (N : Led h₀ L s.heap (C.led w ++ rest))
    (T : Top p loose mean mg mb h₀) (hf : env.frame = some L) (hke : env.scope.kind = .function) (hdp : dp < 900) (_hun : un < 5000) (ok : C.Ok w)
    (h : ∀ (I : Addr) (oI : Obj) h' tk ep, Fr h₀ L h' m → Led h₀ L h' ((I, oI) :: (C.led w ++ rest)) → KdkIter oI C.d 0 (kvsOf C.ents).length ep → KdkAt (IK w) C.dobj (kvsOf C.ents) ep → Q (.ref I) { s with heap := h', toks := tk }) :
    wpAny (MO w) (Ar dp (env :: outer) gd un) (pyIter (.ref C.c)) Q E s := by
  refine owit_iter F X₀ (cache_inst N) (findIn_iter w) (isFn_iter w) (iter_call B F X₀ N T hf hke hdp _hun ok fun I oI h' tk ep F' N' hi ha => ?_)
  have hit : h'.IsKeyIter I C.d 0 (kvsOf C.ents).length ep := hi.at (N'.1 _ (.head _)).1
  unfold OwitIt
  exact wpAny_specialOf (name := Str.ofString "__next__") hit.typeIs PySem.F.slot_dict_keyiterator_next.lookup (h I oI h' tk ep F' N' hi ha)
theorem cache_hint {Q : Bool → Shared → Prop} (B : Below A₀ base outer h₀) (F : Fr h₀ L s.heap m) (X₀ : (hd.heap_39 w.params).In h₀) (N : Led h₀ L s.heap (C.led w ++ rest))
    (T : Top p loose mean mg mb h₀) (hf : env.frame = some L) (hke : env.scope.kind = .function) (hdp : dp < 900) (_hun : un < 4000) (h20 : C.ents.length ≤ 20) (ok : C.Ok w)
    (h : ∀ b h' tk, Fr h₀ L h' m → Led h₀ L h' (C.led w ++ rest) → Q b { s with heap := h', toks := tk }) :
    wpAny (MO w) (Ar dp (env :: outer) gd un) (Builtin.List.listLengthHint (.ref C.c)) Q E s := by
  have X := X₀.keeps F.keep
  have I := cache_inst N
  unfold Builtin.List.listLengthHint
  refine wpAny_bind (wpAny_bind (I.type.here ((looks_findIn X (findIn_len w)).here ?_)))
  dsimp only
  refine wpAny_ite_split (fun hab => absurd hab (by decide)) (fun _ => ?_)
  refine wpAny_ite_split (fun _ => ?_) (fun hab => absurd (by decide) hab)
  refine wpAny_bind (wpAny_rule ?_)
  refine wpAny_bind (wpAny_attempt ?_)
  have hle : (kvsOf C.ents).length ≤ 20 := by rw [List.length_map]; exact h20
  with_unfolding_all refine' len_K (A := Ar dp (env :: outer) gd un) F X₀ I (findIn_len w) (isFn_len w) (len_call (dp := dp) (un := un + 1) B F X₀ N T hf hke hdp (by omega) h20 ok fun h' tk t F' N' => ?_)
  refine ⟨⟨by omega, by omega⟩, ?_⟩
  dsimp only
  refine wpAny_bind (wpAny_pure ?_)
  dsimp only
  refine wpAny_ite_split (fun hab => absurd hab ?_) (fun _ => ?_)
  · unfold Builtin.List.listTooLong
    rw [sizeLine_eq]
    simp only [Int.toNat_natCast, decide_eq_true_eq]
    omega
  · exact wpAny_pure (h _ h' _ F' N')

end
theorem fr_but {h₀ h h' : Heap} {L : Addr} {m : Str → Option Value} {ks : List Addr} (F : Fr h₀ L h m) (hL : L ∉ ks) (h0 : ∀ b ∈ ks, h₀.get? b = none) (hk : ∀ b o, b ∉ ks → h.get? b = some o → h'.get? b = some o) : Fr h₀ L h' m :=
  ⟨F.ns.at' (fun o e => hk _ o hL e), fun b o e => hk b o (fun hb => by rw [h0 b hb] at e; cases e) (F.keep b o e), F.above⟩
theorem led_but {h₀ h h' : Heap} {L : Addr} {ks : List Addr} {l : List (Addr × Obj)} (H : Led h₀ L h l) (hn : ∀ p ∈ l, p.1 ∉ ks) (hk : ∀ b o, b ∉ ks → h.get? b = some o → h'.get? b = some o) : Led h₀ L h' l :=
  ⟨fun p hp => ⟨hk _ _ (hn p hp) (H.1 p hp).1, (H.1 p hp).2⟩, H.2⟩
theorem led_push {h₀ h : Heap} {L : Addr} {m : Str → Option Value} {l : List (Addr × Obj)} {o : Obj} (H : Led h₀ L h l) (F : Fr h₀ L h m) (ho : o.isFreed = false) : Led h₀ L (h.push o) ((h.objs.size, o) :: l) := by
  refine ⟨News.push F H.1 _ ho, ?_⟩
  rw [List.map_cons, List.nodup_cons]
  refine ⟨fun hm => ?_, H.2⟩
  obtain ⟨p, hp, e⟩ := List.mem_map.mp hm
  exact Nat.ne_of_lt (Heap.lt_size (H.1 p hp).1) e
theorem led_cons_ne {h₀ h : Heap} {L : Addr} {l : List (Addr × Obj)} {q : Addr × Obj} (H : Led h₀ L h (q :: l)) : ∀ p ∈ l, p.1 ≠ q.1 := fun p hp e => by
  have h2 := H.2
  rw [List.map_cons, List.nodup_cons] at h2
  exact h2.1 (e ▸ List.mem_map_of_mem hp)
theorem Led.tail {h₀ h : Heap} {L : Addr} {l : List (Addr × Obj)} {q : Addr × Obj} (H : Led h₀ L h (q :: l)) : Led h₀ L h l := by
  refine ⟨fun p hp => H.1 p (List.mem_cons_of_mem _ hp), ?_⟩
  have h2 := H.2
  rw [List.map_cons, List.nodup_cons] at h2
  exact h2.2
section
variable {w : World} {A₀ : Around} {base h₀ : Heap} {env : Env} {outer : List Env} {L : Addr} {m : Str → Option Value} {p : Program} {loose : List Str} {mean : ExcName → Option Value} {mg mb : Str → Option Value} {s : Shared} {E : Value → Shared → Prop}
    {dp un : Nat} {gd : Option (List Code)} {rest : List (Addr × Obj)} {C : Cache}
/-- what was collected: the keys, in their order -/
def KeyAt (w : World) (l : List Ent) (i : Nat) (v : Value) : Prop := ∃ k x, (kvsOf l)[i]? = some (k, x) ∧ (IK w).is k v = true
theorem mid2 {α : Type} (x y : α) (a r : List α) : (x :: y :: (a ++ r)).Perm (a ++ (x :: y :: r)) := by
  classical
  exact List.perm_iff_count.mpr fun t => by simp only [List.count_append, List.count_cons]; omega
theorem mid1 {α : Type} (x : α) (a r : List α) : (x :: (a ++ r)).Perm (a ++ (x :: r)) := List.perm_middle.symm
theorem loop_cache {R : Result → Shared → Prop} {h : Heap} {tk c₁ ep I S : Nat} {oI : Obj} (hh : A₀.handled = none) (F : Fr h₀ L h m) (N : Led h₀ L h ((I, oI) :: (S, seqObj "list" #[] c₁) :: (C.led w ++ rest))) (h20 : C.ents.length ≤ 20)
    (hi : KdkIter oI C.d 0 (kvsOf C.ents).length ep) (ha : KdkAt (IK w) C.dobj (kvsOf C.ents) ep)
    (hR : ∀ h' tk acc' c', Fr h₀ L h' m → Led h₀ L h' (C.led w ++ rest) → h'.get? S = some (seqObj "list" acc' c') → ItemsOf (KeyAt w C.ents) acc' C.ents.length → R (.ok (.ret (.ref S))) { s with heap := h', toks := tk }) :
    codeAny (MO w) A₀ (.builtin "list.extend.loop" ⟨[.ref S, .ref I, .ref S], []⟩) R { s with heap := h, toks := tk } := by
  have hlen : (kvsOf C.ents).length = C.ents.length := List.length_map ..
  have hd : (C.d, C.dobj) ∈ C.led w ++ rest := List.mem_append_left _ (List.mem_append_left _ (List.mem_append_left _ (.tail _ (.tail _ (.head _)))))
  have n1 := led_cons_ne N
  have n2 := led_cons_ne N.tail
  have hdI : C.d ≠ I := n1 _ (.tail _ hd)
  have hSI : S ≠ I := n1 _ (.head _)
  have hdS : C.d ≠ S := n2 _ hd
  have hSf : S ∉ [I, C.d] := by simp only [List.mem_cons, List.not_mem_nil, or_false, not_or]; exact ⟨hSI, Ne.symm hdS⟩
  refine codeAny_extend_loopS (Walks.dictKeys (knd := IK w) (A := A₀.in1) hh I C.d hdI (kvsOf C.ents) ep).toS (by rw [hlen, sizeLine_eq]; omega) S hSf (.ref S) _ 0 _ #[] c₁ rfl (Nat.zero_le _)
    ⟨hi.at (N.1 _ (.head _)).1, ha.dictAt (N.1 _ (.tail _ (.tail _ hd))).1⟩ (N.1 _ (.tail _ (.head _))).1 (ItemsOf.nil _) fun s' acc' c' hm hS' hacc => ?_
  rw [Moved.eq_with hm]
  have hks : ∀ b o, b ∉ [S, I] → h.get? b = some o → s'.heap.get? b = some o := fun b o hb e => hm.heap b o hb e
  refine hR s'.heap s'.toks acc' c' (fr_but F ?_ ?_ hks) (led_but N.tail.tail (fun p hp hm => ?_) hks) hS' (hlen ▸ hacc)
  · intro hm
    rcases List.mem_cons.mp hm with e | hm
    · exact (N.1 _ (.tail _ (.head _))).2.1 e.symm
    · exact (N.1 _ (.head _)).2.1 (List.mem_singleton.mp hm).symm
  · intro b hb
    rcases List.mem_cons.mp hb with e | hb
    · rw [e]; exact (N.1 _ (.tail _ (.head _))).2.2
    · rw [List.mem_singleton.mp hb]; exact (N.1 _ (.head _)).2.2
  · rcases List.mem_cons.mp hm with e | hm
    · exact n2 _ hp e
    · exact n1 _ (.tail _ hp) (List.mem_singleton.mp hm)
theorem collect_cache {Q : List Value → Shared → Prop} (B : Below A₀ base outer h₀) (F : Fr h₀ L s.heap m) (X₀ : (hd.heap_39 w.params).In h₀) (N : Led h₀ L s.heap (C.led w ++ rest))
    (T : Top p loose mean mg mb h₀) (hf : env.frame = some L) (hke : env.scope.kind = .function) (hdp : dp < 800) (_hun : un < 3000) (h20 : C.ents.length ≤ 20) (ok : C.Ok w)
    (h : ∀ h' tk (vs : List Value), Fr h₀ L h' m → Led h₀ L h' (C.led w ++ rest) → vs.length = C.ents.length → (∀ j v, vs[j]? = some v → KeyAt w C.ents j v) → Q vs { s with heap := h', toks := tk }) :
    wpAny (MO w) (Ar dp (env :: outer) gd un) (collect (.ref C.c)) Q E s := by
  have hlen : (kvsOf C.ents).length = C.ents.length := List.length_map ..
  unfold collect
  refine wpAny_bind (wpAny_runValue (codeAny_builtin entry_proto_collect' ?_))
  show wpAny _ _ (do again (.builtin "list.__iadd__" ⟨[← newList [], .ref C.c], []⟩)) _ _ s
  refine wpAny_bind (wpAny_newList (wpAny_pure ⟨Code.quiet_builtin _ (by decide +kernel), codeAny_builtin entry_list_iadd' ?_⟩))
  rw [Around.under_plainId (by decide +kernel)]
  have F1 : Fr h₀ L (s.heap.push (seqObj "list" #[] 0)) m := F.push _
  have N1 := led_push (o := seqObj "list" #[] 0) N F rfl
  have hSc : s.heap.objs.size ≠ C.c := fun e => led_cons_ne N1 (C.c, _) (List.mem_append_left _ (List.mem_append_left _ (List.mem_append_left _ (.head _)))) e.symm
  replace N1 := N1.perm (mid1 _ _ _)
  obtain ⟨S, hSe⟩ : ∃ S : Nat, S = s.heap.objs.size := ⟨_, rfl⟩
  rw [← hSe] at N1 hSc ⊢
  show wpAny _ (Ar dp (env :: outer) gd (un + 1)) (Builtin.List.listExtendWith (.ref S) (.ref C.c) (.ref S)) _ _ { s with heap := s.heap.push (seqObj "list" #[] 0) }
  unfold Builtin.List.listExtendWith
  have I := cache_inst N1
  refine wpAny_bind (I.type.here ?_)
  have h1 : Builtin.List.listSameRef (.ref S) (.ref C.c) = false := by simp [Builtin.List.listSameRef, hSc]
  have h2 : (Value.ref 185 == Value.type "list") = false := by decide
  have h3 : (Value.ref 185 == Value.type "tuple") = false := by decide
  simp only [h1, h2, h3, Bool.or_false, Bool.false_eq_true, if_false]
  refine wpAny_bind (cache_iter (s := { s with heap := s.heap.push (seqObj "list" #[] 0) }) B F1 X₀ N1 T hf hke (by omega) (by omega) ok fun I oI h2 tk2 ep F2 N2 hi ha => ?_)
  dsimp only
  have N2' : Led h₀ L h2 (C.led w ++ ((I, oI) :: (S, seqObj "list" #[] 0) :: rest)) := N2.perm ((List.Perm.cons _ (mid1 _ _ _).symm).trans (mid2 _ _ _ _))
  refine wpAny_bind (wpAny_holding (cache_hint (s := { s with heap := h2, toks := tk2 }) B F2 X₀ N2' T hf hke (by omega) (by omega) h20 ok fun b h3 tk3 F3 N3 => ?_))
  dsimp only
  replace N3 := N3.perm (mid2 _ _ _ _).symm
  have fin : ∀ (h' : Heap) (tk : Nat) acc' c', Fr h₀ L h' m → Led h₀ L h' (C.led w ++ rest) → h'.get? S = some (seqObj "list" acc' c') → ItemsOf (KeyAt w C.ents) acc' C.ents.length →
      wpAny (MO w) (Ar dp (env :: outer) gd un) (do
      let o ← load S
      match o.data with
      | .seq xs _ => pure xs.toList
      | _ => unsupported "internal:collect") Q E { s with heap := h', toks := tk } := fun h' tk acc' c' F' N' hS' hacc =>
    wpAny_bind (wpAny_load hS' (wpAny_pure (h h' tk acc'.toList F' N' (by rw [Array.length_toList]; exact hacc.1) fun j v e => hacc.2 j v (by rw [← Array.getElem?_toList]; exact e))))
  refine wpAny_ite_split (fun _ => ?_) (fun _ => wpAny_pure ⟨plainId_quiet PySem.F.plain_extend_loop _, loop_cache rfl F3 N3 h20 hi ha fun h' tk acc' c' F' N' hS' hacc => fin h' tk acc' c' F' N' hS' hacc⟩)
  refine wpAny_bind (wpAny_rule ?_)
  refine wpAny_bind ?_
  show wpAny _ _ (updateSeq S (·.push .none) >>= fun _ => updateSeq S (·.pop)) _ _ _
  have hS₁ := (N3.1 _ (.tail _ (.head _))).1
  refine wpAny_bind (wpAny_updateSeq hS₁ rfl ?_)
  have hS₂ := Heap.get?_update_self (Obj.mapSeq (·.push Value.none)) hS₁ rfl
  refine wpAny_updateSeq (hz := by seq_fits) hS₂ rfl ?_
  have hS₃ := Heap.get?_update_self (Obj.mapSeq (·.pop)) hS₂ rfl
  have hks : ∀ b o, b ∉ [S] → h3.get? b = some o → ((h3.update S (Obj.mapSeq (·.push Value.none))).update S (Obj.mapSeq (·.pop))).get? b = some o := fun b o hb e =>
    (Heap.get?_update_other _ _ (fun q : S = b => hb (by rw [← q]; exact .head _))).trans ((Heap.get?_update_other _ _ (fun q : S = b => hb (by rw [← q]; exact .head _))).trans e)
  have hs3 := (N3.1 _ (.tail _ (.head _))).2
  have F4 := fr_but (ks := [S]) F3 (fun hm => hs3.1 (List.mem_singleton.mp hm).symm) (fun b hb => by rw [List.mem_singleton.mp hb]; exact hs3.2) hks
  obtain ⟨c4, hS4⟩ : ∃ c4, ((h3.update S (Obj.mapSeq (·.push Value.none))).update S (Obj.mapSeq (·.pop))).get? S = some (seqObj "list" #[] c4) := ⟨_, hS₃⟩
  generalize (h3.update S (Obj.mapSeq (·.push Value.none))).update S (Obj.mapSeq (·.pop)) = h4 at *
  have n1 := led_cons_ne N3
  have n2 := led_cons_ne N3.tail
  have N4 : Led h₀ L h4 ((I, oI) :: (S, seqObj "list" #[] c4) :: (C.led w ++ rest)) := by
    refine ⟨fun q hq => ?_, N3.2⟩
    rcases List.mem_cons.mp hq with rfl | hq
    · exact ⟨hks _ _ (fun hm => n1 _ (.head _) (List.mem_singleton.mp hm).symm) (N3.1 _ (.head _)).1, (N3.1 _ (.head _)).2⟩
    · rcases List.mem_cons.mp hq with rfl | hq
      · exact ⟨hS4, hs3⟩
      · have hq' := N3.1 q (.tail _ (.tail _ hq))
        exact ⟨hks _ _ (fun hm => n2 q hq (List.mem_singleton.mp hm)) hq'.1, hq'.2⟩
  exact wpAny_pure ⟨plainId_quiet PySem.F.plain_extend_loop _, loop_cache rfl F4 N4 h20 hi ha fun h' tk acc' c' F' N' hS' hacc => fin h' tk acc' c' F' N' hS' hacc⟩

theorem keys_ints : ∀ {l : List Ent} {vs : List Value}, vs.length = l.length → (∀ j v, vs[j]? = some v → KeyAt w l j v) → IntsAre vs (l.map Ent.key)
  | [], [], _, _ => .nil
  | e :: l, v :: vs, hl, h => by
    obtain ⟨k, x, hk, hv⟩ := h 0 v rfl
    obtain ⟨t, rfl⟩ := PySem.Value.isInt_shape hv
    have ek : e.key = k := congrArg Prod.fst (Option.some.inj (hk : some (e.key, Value.ref e.tup) = some (k, x)))
    subst ek
    exact .cons _ _ (keys_ints (Nat.succ.inj hl) fun j v' hj => h (j + 1) v' hj)
theorem sorted_cache {Q : Value → Shared → Prop} (B : Below A₀ base outer h₀) (F : Fr h₀ L s.heap m) (X₀ : (hd.heap_39 w.params).In h₀) (N : Led h₀ L s.heap (C.led w ++ rest))
    (T : Top p loose mean mg mb h₀) (hf : env.frame = some L) (hke : env.scope.kind = .function) (hdp : dp < 700) (_hun : un < 2500) (h20 : C.ents.length ≤ 20) (ok : C.Ok w)
    (h : ∀ D c h' tk (vs' : List Value) (ns' : List Int), Fr h₀ L h' m → Led h₀ L h' ((D, listOf vs'.toArray c) :: (C.led w ++ rest)) → (∀ q ∈ C.led w ++ rest, q.1 < D) → IntsAre vs' ns' → ns'.Perm (C.ents.map Ent.key) → ns'.Pairwise (· ≤ ·) → Q (.ref D) { s with heap := h', toks := tk }) :
    wpAny (MO w) (Ar dp (env :: outer) gd un) (call (.builtin "sorted") [.ref C.c]) Q E s := by
  refine call_function_entry kind_sorted plain_sorted entry_sorted (args_sorted1 _) ?_
  unfold Builtin.«sorted»
  refine wpAny_bind (m := checkCount "sorted" 1 1 _) (wpAny_pure ?_)
  with_unfolding_all refine' wpAny_bind (collect_cache (dp := dp) (un := un + 1) B F X₀ N T hf hke (by omega) (by omega) h20 ok fun h' tk vs F' N' hl hvs => ?_)
  refine wpAny_bind (wpAny_newList ?_ (by rw [sizeLine_eq]; omega))
  have hI := keys_ints hl hvs
  have hoL : (h'.push (seqObj "list" vs.toArray 0)).get? h'.objs.size = some (seqObj "list" vs.toArray 0) := Heap.get?_push_size _ rfl
  show wpAny _ _ _ _ _ { s with heap := h'.push (seqObj "list" vs.toArray 0), toks := tk }
  refine wpAny_bind (wpAny_holding (wpAny_call_entry slot_list_sort ⟨_, hoL, rfl⟩ entry_list_sort (list_sort_tree hoL hI (by omega) fun out ns' a1 a2 a3 => ⟨_, rfl, ?_⟩) (args_list_sort _)))
  refine wpAny_pure ⟨_, rfl, ?_⟩
  have hL : L < h'.objs.size := F'.ns.lt
  have k1 : ∀ b o, h'.get? b = some o → (sortedHeap (h'.push (seqObj "list" vs.toArray 0)) h'.objs.size vs out).get? b = some o := fun b o e => by
    have hlt : b < h'.objs.size := Heap.lt_size e
    rw [sortedHeap_old (Nat.ne_of_lt hlt) (by rw [size_push']; exact Nat.lt_succ_of_lt hlt), Heap.get?_push_ne _ _ _ (Nat.ne_of_lt hlt)]
    exact e
  obtain ⟨c, hc⟩ := sortedHeap_at (out := out) hoL
  have F3 := F'.kept k1
  have hD : ∀ q ∈ C.led w ++ rest, q.1 < h'.objs.size := fun q hq => Heap.lt_size (N'.1 q hq).1
  refine h _ c _ tk out.toList ns' F3 ⟨?_, ?_⟩ hD a1 a2 a3
  · exact News.kept_cons F' N'.1 k1 (Nat.le_refl _) (by rw [Array.toArray_toList]; exact hc)
  · rw [List.map_cons, List.nodup_cons]
    refine ⟨fun hm => ?_, N'.2⟩
    obtain ⟨q, hq, e⟩ := List.mem_map.mp hm
    exact Nat.ne_of_lt (hD q hq) e
end
end Mine

namespace Mine
section
local macro_rules | `(tactic| walk_at "RESET") => `(tactic| trivial)
local macro_rules | `(tactic| walk_at "RESET") => `(tactic| trivial)
local macro_rules | `(tactic| walk_at "RESET") => `(tactic| trivial)
local macro_rules | `(tactic| walk_at "RESET") => `(tactic| trivial)
local macro_rules | `(tactic| walk_at "RESET") => `(tactic| trivial)
local macro_rules | `(tactic| walk_at "RESET") => `(tactic| trivial)
local macro_rules | `(tactic| walk_at "RESET") => `(tactic| trivial)
local macro_rules | `(tactic| walk_at "RESET") => `(tactic| trivial)
local macro_rules | `(tactic| walk_at "RESET") => `(tactic| trivial)
local macro_rules | `(tactic| walk_at "RESET") => `(tactic| trivial)
local macro_rules | `(tactic| walk_at "RESET") => `(tactic| trivial)
local macro_rules | `(tactic| walk_at "RESET") => `(tactic| trivial)
local macro_rules | `(tactic| walk_at "RESET") => `(tactic| trivial)
local macro_rules | `(tactic| walk_at "RESET") => `(tactic| trivial)
local macro_rules | `(tactic| walk_at "RESET") => `(tactic| trivial)
local macro_rules | `(tactic| walk_at "RESET") => `(tactic| trivial)
local macro_rules | `(tactic| walk_at "RESET") => `(tactic| trivial)
local macro_rules | `(tactic| walk_at "RESET") => `(tactic| trivial)
local macro_rules | `(tactic| walk_at "RESET") => `(tactic| trivial)
local macro_rules | `(tactic| walk_at "RESET") => `(tactic| trivial)
local macro_rules | `(tactic| walk_at "RESET") => `(tactic| trivial)
local macro_rules | `(tactic| walk_at "RESET") => `(tactic| trivial)
local macro_rules | `(tactic| walk_at "RESET") => `(tactic| trivial)
local macro_rules | `(tactic| walk_at "RESET") => `(tactic| trivial)
theorem resetL9 : True := by
  w_top off
  first | walk1 | trivial
end
end Mine

namespace Mine
/-! lists with a most recent first -/
theorem take_hit : ∀ (S : List Int) (n : Nat) (p : Int), p ∈ S.take (n + 1) → (S.erase p).take n = (S.take (n + 1)).erase p
  | [], _, _, h => by simp at h
  | a :: S, n, p, h => by
    by_cases e : a = p
    · subst e
      rw [List.take_succ_cons, List.erase_cons_head, List.erase_cons_head]
    · have h' : p ∈ S.take n := by
        rw [List.take_succ_cons] at h
        rcases List.mem_cons.mp h with q | q
        · exact absurd q.symm e
        · exact q
      have e2 : (a == p) = false := by simpa using e
      rw [List.take_succ_cons, List.erase_cons_tail (by simpa using e), List.erase_cons_tail (by simpa using e)]
      cases n with
      | zero => simp at h'
      | succ j => rw [List.take_succ_cons, take_hit S j p h']
theorem take_miss : ∀ (S : List Int) (n : Nat) (p : Int), p ∉ S.take n → (S.erase p).take n = S.take n
  | [], _, _, _ => by simp
  | _ :: _, 0, _, _ => by simp
  | a :: S, n + 1, p, h => by
    rw [List.take_succ_cons] at h
    have e : a ≠ p := fun q => h (q ▸ List.mem_cons_self)
    rw [List.erase_cons_tail (by simpa using e), List.take_succ_cons, List.take_succ_cons, take_miss S n p fun q => h (List.mem_cons_of_mem _ q)]
/-- a request to a cache: what was most recent stands first -/
def acc (cap : Nat) (lim : Nat → Bool) (l : List Int) (p : Int) : List Int :=
  if p ∈ l then p :: l.erase p else if lim (l.length + 1) then (p :: l).take cap else p :: l
abbrev nxt (S : List Int) (p : Int) : List Int := p :: S.erase p
theorem nxt_nodup {S : List Int} {p : Int} (h : S.Nodup) : (nxt S p).Nodup := by
  rw [List.nodup_cons]
  exact ⟨h.not_mem_erase, h.erase p⟩
theorem nxt_len_mem {S : List Int} {p : Int} (h : p ∈ S) : (nxt S p).length = S.length := by
  have : 0 < S.length := List.length_pos_of_mem h
  rw [List.length_cons, List.length_erase_of_mem h]; omega
theorem nxt_len_new {S : List Int} {p : Int} (h : p ∉ S) : (nxt S p).length = S.length + 1 := by
  rw [List.length_cons, List.erase_of_not_mem h]
theorem nxt_len {S : List Int} {p : Int} : S.length ≤ (nxt S p).length ∧ (nxt S p).length ≤ S.length + 1 := by
  by_cases h : p ∈ S
  · rw [nxt_len_mem h]; omega
  · rw [nxt_len_new h]; omega
theorem nxt_mem {S : List Int} {p y : Int} (h : y ∈ S) : y ∈ nxt S p := by
  by_cases e : y = p
  · rw [e]; exact List.mem_cons_self
  · exact List.mem_cons_of_mem _ ((List.mem_erase_of_ne e).mpr h)
theorem hit_take {S : List Int} {n : Nat} {p : Int} (h : p ∈ S.take n) : p :: (S.take n).erase p = (nxt S p).take n := by
  cases n with
  | zero => simp at h
  | succ j => rw [List.take_succ_cons, take_hit S j p h]
theorem miss_take {S : List Int} {n : Nat} {p : Int} (h : p ∉ S.take n) : p :: S.take n = (nxt S p).take (n + 1) := by
  rw [List.take_succ_cons, take_miss S n p h]
theorem acc_hit {S : List Int} {n cap : Nat} {lim : Nat → Bool} {p : Int} (h : p ∈ S.take n) : acc cap lim (S.take n) p = (nxt S p).take n := by
  unfold acc; rw [if_pos h, hit_take h]
theorem acc_miss {S : List Int} {n cap : Nat} {lim : Nat → Bool} {p : Int} (h : p ∉ S.take n) : acc cap lim (S.take n) p = if lim ((S.take n).length + 1) then (nxt S p).take (min cap (n + 1)) else (nxt S p).take (n + 1) := by
  unfold acc; rw [if_neg h, miss_take h, List.take_take]
/-- a cache that holds the `cap` most recent -/
theorem acc_plain {S : List Int} {cap : Nat} {p : Int} (hc : 1 ≤ cap) : acc cap (fun n => decide ((cap : Int) < n)) (S.take cap) p = (nxt S p).take cap := by
  by_cases h : p ∈ S.take cap
  · exact acc_hit h
  · rw [acc_miss h]
    have hl := nxt_len (S := S) (p := p)
    have h1 : (S.take cap).length = min cap S.length := List.length_take ..
    split
    · rw [Nat.min_eq_left (Nat.le_succ _)]
    · rename_i q
      have q' : ¬ ((cap : Int) < (((S.take cap).length + 1 : Nat) : Int)) := by simpa using q
      have h2 : S.length < cap := by omega
      rw [List.take_of_length_le (by omega), List.take_of_length_le (by omega)]
/-- the cache with slack -/
theorem acc_slack {S : List Int} {k wide full : Nat} {p : Int} (hk : k ≤ wide) (hf : full ≤ wide) (hS : full ≤ S.length) :
    acc k (fun n => decide ((wide : Int) < n)) (S.take full) p = (nxt S p).take (if p ∈ S.take full then full else if full < wide then full + 1 else k) := by
  by_cases h : p ∈ S.take full
  · rw [if_pos h]; exact acc_hit h
  · rw [if_neg h, acc_miss h]
    have h1 : (S.take full).length = full := by rw [List.length_take]; omega
    rw [h1]
    by_cases q : full < wide
    · rw [if_pos q, if_neg (by simp; omega)]
    · rw [if_neg q, if_pos (by simp; omega)]
      congr 1; omega
theorem not_take {S : List Int} {n : Nat} {p : Int} (hp : p ∈ S) (h : p ∉ S.take n) : n < S.length := by
  rcases Nat.lt_or_ge n S.length with q | q
  · exact q
  · rw [List.take_of_length_le q] at h; exact absurd hp h
theorem take_sub {S : List Int} {m n : Nat} (h : m ≤ n ∨ S.length ≤ n) : ∀ x ∈ S.take m, x ∈ S.take n := fun x hx => by
  rcases h with h | h
  · have : S.take m = (S.take n).take m := by rw [List.take_take]; congr 1; omega
    rw [this] at hx
    exact List.mem_of_mem_take hx
  · rw [List.take_of_length_le h]; exact List.mem_of_mem_take hx

/-! Sleator and Tarjan -/
def ix (k : Nat) (l : List Int) (y : Int) : Nat := if y ∈ l then l.idxOf y else k
theorem ix_le {k : Nat} {l : List Int} {y : Int} (hl : l.length ≤ k) : ix k l y ≤ k := by
  unfold ix
  split
  · rename_i h
    have := List.idxOf_lt_length_iff.mpr h
    omega
  · exact Nat.le_refl _
def phi (k : Nat) (l r : List Int) : Nat := (r.map (ix k l)).sum
theorem idx_eq (a : Int) (l : List Int) : (a :: l).idxOf a = 0 := by rw [List.idxOf_cons]; simp
theorem idx_ne {a y : Int} {l : List Int} (h : a ≠ y) : (a :: l).idxOf y = l.idxOf y + 1 := by
  rw [List.idxOf_cons]
  have : (a == y) = false := by simpa using h
  rw [this]; rfl
/-- the place of the others after p was taken out -/
theorem idx_erase : ∀ (l : List Int) (p y : Int), y ≠ p → p ∈ l → y ∈ l → (l.erase p).idxOf y + 1 ≤ l.idxOf y + (if l.idxOf y < l.idxOf p then 1 else 0)
  | [], _, _, _, h, _ => by cases h
  | a :: l, p, y, hy, hp, h => by
    by_cases e : a = p
    · subst e
      rw [List.erase_cons_head, idx_ne hy.symm]
      omega
    · rw [List.erase_cons_tail (by simpa using e), idx_ne e]
      have hp' : p ∈ l := by
        rcases List.mem_cons.mp hp with q | q
        · exact absurd q.symm e
        · exact q
      by_cases e2 : a = y
      · subst e2
        rw [idx_eq, idx_eq]; simp
      · have h' : y ∈ l := by
          rcases List.mem_cons.mp h with q | q
          · exact absurd q.symm e2
          · exact q
        rw [idx_ne e2, idx_ne e2]
        have := idx_erase l p y hy hp' h'
        split at this <;> split <;> omega
/-- what a hit does to the place of another page -/
theorem ix_hit {k : Nat} {l : List Int} {p y : Int} (hp : p ∈ l) (hy : y ≠ p) : ix k (p :: l.erase p) y ≤ ix k l y + (if l.idxOf y < l.idxOf p then 1 else 0) := by
  unfold ix
  by_cases h : y ∈ l
  · rw [if_pos (List.mem_cons_of_mem _ ((List.mem_erase_of_ne hy).mpr h)), if_pos h, idx_ne hy.symm]
    exact idx_erase l p y hy hp h
  · rw [if_neg, if_neg h]
    · omega
    · intro q
      rcases List.mem_cons.mp q with q | q
      · exact hy q
      · exact h (List.mem_of_mem_erase q)
theorem idx_take : ∀ (l : List Int) (n : Nat) (y : Int), y ∈ l.take n → (l.take n).idxOf y = l.idxOf y
  | [], _, _, h => by simp at h
  | _ :: _, 0, _, h => by simp at h
  | a :: l, n + 1, y, h => by
    rw [List.take_succ_cons] at h ⊢
    by_cases e : a = y
    · subst e; rw [idx_eq, idx_eq]
    · rw [idx_ne e, idx_ne e]
      rcases List.mem_cons.mp h with q | q
      · exact absurd q.symm e
      · rw [idx_take l n y q]
theorem idx_not_take : ∀ (l : List Int) (n : Nat) (y : Int), y ∉ l.take n → y ∈ l → n ≤ l.idxOf y
  | [], _, _, _, h => by cases h
  | _ :: _, 0, _, _, _ => Nat.zero_le _
  | a :: l, n + 1, y, h, hm => by
    rw [List.take_succ_cons] at h
    have e : a ≠ y := fun q => h (q ▸ List.mem_cons_self)
    rw [idx_ne e]
    have := idx_not_take l n y (fun q => h (List.mem_cons_of_mem _ q)) (by
      rcases List.mem_cons.mp hm with q | q
      · exact absurd q.symm e
      · exact q)
    omega
/-- what a miss does to the place of another page -/
theorem ix_miss {k : Nat} {l l' : List Int} {p y : Int} (hy : y ≠ p) (hl' : l' = p :: l ∨ l' = (p :: l).take k) : ix k l' y ≤ ix k l y + 1 := by
  have base : ∀ h : y ∈ l, (p :: l).idxOf y = l.idxOf y + 1 := fun _ => idx_ne hy.symm
  have big : y ∈ p :: l → y ∈ l := fun h => by
    rcases List.mem_cons.mp h with q | q
    · exact absurd q hy
    · exact q
  unfold ix
  by_cases h : y ∈ l'
  · have h2 : y ∈ l := big (by
      rcases hl' with e | e
      · exact e ▸ h
      · exact List.mem_of_mem_take (e ▸ h))
    rw [if_pos h, if_pos h2]
    rcases hl' with e | e
    · rw [e, base h2]; exact Nat.le_refl _
    · rw [e] at h ⊢
      rw [idx_take _ _ _ h, base h2]; exact Nat.le_refl _
  · rw [if_neg h]
    by_cases h2 : y ∈ l
    · rw [if_pos h2]
      rcases hl' with e | e
      · exact absurd (e ▸ List.mem_cons_of_mem _ h2) h
      · rw [e] at h
        have := idx_not_take _ _ _ h (List.mem_cons_of_mem _ h2)
        rw [base h2] at this
        exact this
    · rw [if_neg h2]; omega
theorem acc_head {cap : Nat} {lim : Nat → Bool} {l : List Int} {p : Int} (hc : 1 ≤ cap) : ∃ t, acc cap lim l p = p :: t := by
  unfold acc
  split
  · exact ⟨_, rfl⟩
  · split
    · cases cap with
      | zero => omega
      | succ j => exact ⟨_, List.take_succ_cons⟩
    · exact ⟨_, rfl⟩
theorem sum_map_le {f g b : Int → Nat} {p : Int} (hp : f p = 0) (h : ∀ y, y ≠ p → f y ≤ g y + b y) : ∀ (r : List Int), r.Nodup → (r.map f).sum + (if p ∈ r then g p else 0) ≤ (r.map g).sum + ((r.erase p).map b).sum
  | [], _ => by simp
  | a :: r, hn => by
    rw [List.nodup_cons] at hn
    have ih := sum_map_le hp h r hn.2
    rw [List.map_cons, List.sum_cons, List.map_cons, List.sum_cons]
    by_cases e : a = p
    · subst e
      rw [List.erase_cons_head, if_pos List.mem_cons_self, hp]
      rw [if_neg hn.1, List.erase_of_not_mem hn.1] at ih
      omega
    · rw [List.erase_cons_tail (by simpa using e), List.map_cons, List.sum_cons]
      have := h a e
      have e2 : (if p ∈ a :: r then g p else 0) = (if p ∈ r then g p else 0) := by
        by_cases q : p ∈ r
        · rw [if_pos q, if_pos (List.mem_cons_of_mem _ q)]
        · rw [if_neg q, if_neg]
          intro z
          rcases List.mem_cons.mp z with z | z
          · exact e z.symm
          · exact q z
      rw [e2]
      omega
theorem sum_one (r : List Int) : (r.map fun _ => 1).sum = r.length := by
  induction r with
  | nil => rfl
  | cons a r ih => rw [List.map_cons, List.sum_cons, ih, List.length_cons]; omega
theorem len_sub : ∀ (r l : List Int), r.Nodup → (∀ x ∈ r, x ∈ l) → r.length ≤ l.length
  | [], _, _, _ => Nat.zero_le _
  | a :: r, l, hn, h => by
    rw [List.nodup_cons] at hn
    have ha := h a List.mem_cons_self
    have := len_sub r (l.erase a) hn.2 fun x hx => (List.mem_erase_of_ne (fun e : x = a => hn.1 (e ▸ hx))).mpr (h x (List.mem_cons_of_mem _ hx))
    rw [List.length_erase_of_mem ha] at this
    have := List.length_pos_of_mem ha
    rw [List.length_cons]
    omega
theorem sum_ite (P : Int → Prop) [DecidablePred P] (r : List Int) : (r.map fun y => if P y then 1 else 0).sum = (r.filter (fun y => decide (P y))).length := by
  induction r with
  | nil => rfl
  | cons a r ih =>
    rw [List.map_cons, List.sum_cons, ih, List.filter_cons]
    by_cases h : P a
    · rw [if_pos h, if_pos (by simpa using h), List.length_cons]; omega
    · rw [if_neg h, if_neg (by simpa using h)]; omega
theorem mem_take_of_idx : ∀ (l : List Int) (n : Nat) (y : Int), y ∈ l → l.idxOf y < n → y ∈ l.take n
  | [], _, _, h, _ => by cases h
  | a :: l, 0, y, _, h => by omega
  | a :: l, n + 1, y, hm, h => by
    rw [List.take_succ_cons]
    by_cases e : a = y
    · subst e; exact List.mem_cons_self
    · rw [idx_ne e] at h
      refine List.mem_cons_of_mem _ (mem_take_of_idx l n y ?_ (by omega))
      rcases List.mem_cons.mp hm with q | q
      · exact absurd q.symm e
      · exact q
theorem phi_hit {k : Nat} {l r : List Int} {p : Int} (hp : p ∈ l) (hr : p ∈ r) (hn : r.Nodup) : phi k (p :: l.erase p) r ≤ phi k l r := by
  have h0 : ix k (p :: l.erase p) p = 0 := by unfold ix; rw [if_pos List.mem_cons_self, idx_eq]
  have h := sum_map_le (f := ix k (p :: l.erase p)) (g := ix k l) (b := fun y => if l.idxOf y < l.idxOf p then 1 else 0) h0 (fun y hy => ix_hit hp hy) r hn
  rw [if_pos hr] at h
  have hg : ix k l p = l.idxOf p := by unfold ix; rw [if_pos hp]
  rw [hg, sum_ite (fun y => l.idxOf y < l.idxOf p)] at h
  have hlt := List.idxOf_lt_length_iff.mpr hp
  have hc : ((r.erase p).filter (fun y => decide (l.idxOf y < l.idxOf p))).length ≤ l.idxOf p := by
    have h1 := len_sub ((r.erase p).filter (fun y => decide (l.idxOf y < l.idxOf p))) (l.take (l.idxOf p)) ((hn.erase p).sublist List.filter_sublist) (fun x hx => by
      have hx2 := (List.mem_filter.mp hx).2
      have hx3 : l.idxOf x < l.idxOf p := by simpa using hx2
      exact mem_take_of_idx l _ x (List.idxOf_lt_length_iff.mp (by omega)) hx3)
    rw [List.length_take] at h1
    omega
  unfold phi
  omega
theorem phi_miss {k : Nat} {l l' r : List Int} {p : Int} (hp : p ∉ l) (hl' : l' = p :: l ∨ l' = (p :: l).take k) (hk : 1 ≤ k) (hr : p ∈ r) (hn : r.Nodup) : phi k l' r + k + 1 ≤ phi k l r + r.length := by
  have h0 : ix k l' p = 0 := by
    have : ∃ t, l' = p :: t := by
      rcases hl' with e | e
      · exact ⟨_, e⟩
      · cases k with
        | zero => omega
        | succ j => exact ⟨_, e.trans List.take_succ_cons⟩
    obtain ⟨t, e⟩ := this
    unfold ix; rw [e, if_pos List.mem_cons_self, idx_eq]
  have h := sum_map_le (f := ix k l') (g := ix k l) (b := fun _ => 1) h0 (fun y hy => ix_miss hy hl') r hn
  have hg : ix k l p = k := by unfold ix; rw [if_neg hp]
  rw [if_pos hr, hg, sum_one, List.length_erase_of_mem hr] at h
  have := List.length_pos_of_mem hr
  unfold phi
  omega
theorem phi_acc {k : Nat} {lim : Nat → Bool} {l r : List Int} {p : Int} (hk : 1 ≤ k) (hr : p ∈ r) (hn : r.Nodup) :
    phi k (acc k lim l p) r + (if p ∈ l then 0 else k + 1) ≤ phi k l r + (if p ∈ l then 0 else r.length) := by
  unfold acc
  by_cases hp : p ∈ l
  · rw [if_pos hp, if_pos hp, if_pos hp]
    have := phi_hit (k := k) hp hr hn
    omega
  · rw [if_neg hp, if_neg hp, if_neg hp]
    by_cases q : lim (l.length + 1) = true
    · rw [if_pos q]; have := phi_miss hp (.inr rfl) hk hr hn; omega
    · rw [if_neg q]; have := phi_miss hp (.inl rfl) hk hr hn; omega
/-! the rival's own move -/
theorem sum_set_le (f : Int → Nat) (k : Nat) (p : Int) (hf : f p ≤ k) : ∀ (r : List Int) (i : Nat), ((r.set i p).map f).sum ≤ (r.map f).sum + k
  | [], _ => by simp
  | a :: r, 0 => by rw [List.set_cons_zero, List.map_cons, List.sum_cons, List.map_cons, List.sum_cons]; omega
  | a :: r, i + 1 => by
    rw [List.set_cons_succ, List.map_cons, List.sum_cons, List.map_cons, List.sum_cons]
    have := sum_set_le f k p hf r i
    omega
theorem set_nodup : ∀ (r : List Int) (i : Nat) (p : Int), r.Nodup → p ∉ r → (r.set i p).Nodup
  | [], _, _, _, _ => by simp
  | a :: r, 0, p, hn, hp => by
    rw [List.set_cons_zero, List.nodup_cons]
    rw [List.nodup_cons] at hn
    exact ⟨fun q => hp (List.mem_cons_of_mem _ q), hn.2⟩
  | a :: r, i + 1, p, hn, hp => by
    rw [List.set_cons_succ, List.nodup_cons]
    rw [List.nodup_cons] at hn
    refine ⟨fun q => ?_, set_nodup r i p hn.2 fun q => hp (List.mem_cons_of_mem _ q)⟩
    rcases List.mem_or_eq_of_mem_set q with q | q
    · exact hn.1 q
    · exact hp (q ▸ List.mem_cons_self)
def rivOf (hh : Int) (riv : List Int) (pg idx : Int) : List Int := if pg ∈ riv then riv else if (riv.length : Int) < hh then riv ++ [pg] else riv.set idx.toNat pg
theorem rivOf_ok {hh : Int} {riv : List Int} {pg idx : Int} (hn : riv.Nodup) (hl : (riv.length : Int) ≤ hh) (h1 : 1 ≤ hh) (hi0 : 0 ≤ idx) (hi1 : idx < hh) :
    (rivOf hh riv pg idx).Nodup ∧ ((rivOf hh riv pg idx).length : Int) ≤ hh ∧ pg ∈ rivOf hh riv pg idx := by
  unfold rivOf
  split
  · rename_i h; exact ⟨hn, hl, h⟩
  · rename_i h
    split
    · rename_i q
      refine ⟨?_, by rw [List.length_append, List.length_singleton]; omega, by simp⟩
      rw [List.nodup_append]
      refine ⟨hn, by simp, fun x hx y hy e => ?_⟩
      rw [List.mem_singleton] at hy
      exact h (hy ▸ e ▸ hx)
    · rename_i q
      refine ⟨set_nodup _ _ _ hn h, by rw [List.length_set]; exact hl, ?_⟩
      exact List.mem_set (by omega) _
theorem rivOf_phi {k : Nat} {l : List Int} {hh : Int} {riv : List Int} {pg idx : Int} (hl : l.length ≤ k) : phi k l (rivOf hh riv pg idx) ≤ phi k l riv + (if pg ∈ riv then 0 else k) := by
  unfold rivOf
  by_cases h : pg ∈ riv
  · rw [if_pos h, if_pos h]; omega
  · rw [if_neg h, if_neg h]
    have hx := ix_le (y := pg) hl
    split
    · unfold phi
      rw [List.map_append, List.sum_append, List.map_singleton, List.sum_singleton]
      omega
    · exact sum_set_le _ _ _ hx _ _
end Mine

namespace Mine
/-! the fewest misses: away goes what is asked again last -/
def cnt (X rs : List Int) (s : Nat) : Nat := (X.filter fun x => decide (rs.idxOf x < s)).length
def ee (p : Int) (X rest : List Int) (s : Nat) : Nat := (X.filter fun x => decide (x ≠ p ∧ rest.idxOf x < s)).length
theorem cnt_zero (X rs : List Int) : cnt X rs 0 = 0 := by
  unfold cnt
  rw [List.length_eq_zero_iff, List.filter_eq_nil_iff]
  intro a _; simp
theorem ee_zero (p : Int) (X rs : List Int) : ee p X rs 0 = 0 := by
  unfold ee
  rw [List.length_eq_zero_iff, List.filter_eq_nil_iff]
  intro a _; simp
theorem cnt_cons (a : Int) (X rs : List Int) (s : Nat) : cnt (a :: X) rs s = cnt X rs s + (if rs.idxOf a < s then 1 else 0) := by
  unfold cnt
  rw [List.filter_cons]
  by_cases h : rs.idxOf a < s
  · rw [if_pos (by simpa using h), if_pos h, List.length_cons]
  · rw [if_neg (by simpa using h), if_neg h]; rfl
theorem ee_cons (p a : Int) (X rs : List Int) (s : Nat) : ee p (a :: X) rs s = ee p X rs s + (if a ≠ p ∧ rs.idxOf a < s then 1 else 0) := by
  unfold ee
  rw [List.filter_cons]
  by_cases h : a ≠ p ∧ rs.idxOf a < s
  · rw [if_pos (by simpa using h), if_pos h, List.length_cons]
  · rw [if_neg (by simpa using h), if_neg h]; rfl
theorem cnt_next {p : Int} {rest : List Int} {s : Nat} : ∀ {X : List Int}, X.Nodup → cnt X (p :: rest) (s + 1) = ee p X rest s + (if p ∈ X then 1 else 0)
  | [], _ => by simp [cnt, ee]
  | a :: X, hn => by
    rw [List.nodup_cons] at hn
    rw [cnt_cons, ee_cons, cnt_next hn.2]
    by_cases e : a = p
    · subst e
      rw [idx_eq, if_neg hn.1, if_pos (show 0 < s + 1 by omega), if_pos List.mem_cons_self, if_neg (show ¬ (a ≠ a ∧ _) by simp)]
      try omega
    · rw [idx_ne (Ne.symm e)]
      have e2 : (p ∈ a :: X) ↔ p ∈ X := by
        rw [List.mem_cons]
        exact ⟨fun h => h.elim (fun q => absurd q.symm e) id, .inr⟩
      simp only [e2, Nat.add_lt_add_iff_right, ne_eq, e, not_false_eq_true, true_and]
      omega
theorem cnt_here {p : Int} {rest : List Int} {s : Nat} : ∀ {X : List Int}, X.Nodup → cnt X rest s = ee p X rest s + (if p ∈ X then (if rest.idxOf p < s then 1 else 0) else 0)
  | [], _ => by simp [cnt, ee]
  | a :: X, hn => by
    rw [List.nodup_cons] at hn
    rw [cnt_cons, ee_cons, cnt_here (p := p) hn.2]
    by_cases e : a = p
    · subst e
      rw [if_neg hn.1, if_pos List.mem_cons_self, if_neg (show ¬ (a ≠ a ∧ _) by simp)]
    · have e2 : (p ∈ a :: X) ↔ p ∈ X := by
        rw [List.mem_cons]
        exact ⟨fun h => h.elim (fun q => absurd q.symm e) id, .inr⟩
      simp only [e2, ne_eq, e, not_false_eq_true, true_and]
      omega
theorem ee_append (p : Int) (X Y rs : List Int) (s : Nat) : ee p (X ++ Y) rs s = ee p X rs s + ee p Y rs s := by
  unfold ee; rw [List.filter_append, List.length_append]
theorem ee_self (p : Int) (rs : List Int) (s : Nat) : ee p [p] rs s = 0 := by unfold ee; simp
theorem ee_sub {p : Int} {X Y rest : List Int} {s : Nat} (hn : X.Nodup) (h : ∀ x ∈ X, x = p ∨ x ∈ Y) : ee p X rest s ≤ ee p Y rest s := by
  unfold ee
  refine len_sub _ _ (hn.sublist List.filter_sublist) fun x hx => ?_
  obtain ⟨h1, h2⟩ := List.mem_filter.mp hx
  have h3 : x ≠ p ∧ rest.idxOf x < s := by simpa using h2
  exact List.mem_filter.mpr ⟨(h x h1).resolve_left h3.1, h2⟩
theorem ee_le {p : Int} {X rest : List Int} {s : Nat} (hn : X.Nodup) (hp : p ∈ X) : ee p X rest s + 1 ≤ X.length := by
  have h : ee p X rest s ≤ (X.erase p).length := by
    unfold ee
    refine len_sub _ _ (hn.sublist List.filter_sublist) fun x hx => ?_
    obtain ⟨h1, h2⟩ := List.mem_filter.mp hx
    have h3 : x ≠ p ∧ rest.idxOf x < s := by simpa using h2
    exact (List.mem_erase_of_ne h3.1).mpr h1
  rw [List.length_erase_of_mem hp] at h
  have := List.length_pos_of_mem hp
  omega
theorem ee_all {p : Int} {X rest : List Int} {s : Nat} (hp : p ∉ X) (h : ∀ x ∈ X, rest.idxOf x < s) : ee p X rest s = X.length := by
  unfold ee
  rw [List.filter_eq_self.mpr]
  intro x hx
  simpa using ⟨fun e => hp (e ▸ hx), h x hx⟩
def BStep (w : Nat) (rest : List Int) (p : Int) (B B' : List Int) (M M' : Int) : Prop :=
  (p ∈ B ∧ B' = B ∧ M' = M) ∨ (p ∉ B ∧ B.length ≠ w ∧ B' = B ++ [p] ∧ M' = M + 1) ∨
  (p ∉ B ∧ B.length = w ∧ ∃ (B1 : List Int) (f : Int) (B2 : List Int), B = B1 ++ f :: B2 ∧ (∀ y ∈ B, rest.idxOf y ≤ rest.idxOf f) ∧ B' = B1 ++ B2 ++ [p] ∧ M' = M + 1)
def BInv (w : Nat) (rs A B : List Int) (MA MB : Int) : Prop := A.Nodup ∧ B.Nodup ∧ A.length ≤ w ∧ B.length ≤ w ∧ ∀ s, MB + (cnt A rs s : Nat) ≤ MA + (cnt B rs s : Nat)
theorem binv_step {w : Nat} {rest A A' B B' : List Int} {p : Int} {MA MB MB' : Int} (hw : 1 ≤ w) (h : BInv w (p :: rest) A B MA MB) (hA' : A'.Nodup) (hpA : p ∈ A') (hlA : A'.length ≤ w) (hsub : ∀ x ∈ A', x = p ∨ x ∈ A)
    (hB : BStep w rest p B B' MB MB') : BInv w rest A' B' (if p ∈ A then MA else MA + 1) MB' := by
  obtain ⟨nA, nB, lA, lB, H⟩ := h
  have H0 := H 0
  rw [cnt_zero, cnt_zero] at H0
  have HS : ∀ s, MB + ((ee p A rest s + (if p ∈ A then 1 else 0) : Nat) : Int) ≤ MA + ((ee p B rest s + (if p ∈ B then 1 else 0) : Nat) : Int) := fun s => by
    have := H (s + 1)
    rw [cnt_next nA, cnt_next nB] at this
    exact this
  have eA : ∀ s, ee p A' rest s ≤ ee p A rest s := fun s => ee_sub hA' hsub
  have fin : B'.Nodup → p ∈ B' → B'.length ≤ w → (∀ s, MB' + (ee p A' rest s : Nat) ≤ (if p ∈ A then MA else MA + 1) + (ee p B' rest s : Nat)) → BInv w rest A' B' (if p ∈ A then MA else MA + 1) MB' := by
    intro n2 p2 l2 g
    refine ⟨hA', n2, hlA, l2, fun s => ?_⟩
    rw [cnt_here (p := p) hA', cnt_here (p := p) n2, if_pos hpA, if_pos p2]
    have := g s
    push_cast
    omega
  rcases hB with ⟨hb, rfl, rfl⟩ | ⟨hb, hl, rfl, rfl⟩ | ⟨hb, hl, B1, f, B2, rfl, hf, rfl, rfl⟩
  · refine fin nB hb lB fun s => ?_
    have h1 := HS s
    have h2 := eA s
    rw [if_pos hb] at h1
    by_cases ha : p ∈ A
    · rw [if_pos ha] at h1 ⊢; push_cast at h1; omega
    · rw [if_neg ha] at h1 ⊢; push_cast at h1; omega
  · refine fin ?_ (by simp) (by rw [List.length_append, List.length_singleton]; omega) fun s => ?_
    · rw [List.nodup_append]
      refine ⟨nB, by simp, fun x hx y hy e => ?_⟩
      rw [List.mem_singleton] at hy
      exact hb (hy ▸ e ▸ hx)
    · rw [ee_append, ee_self]
      have h1 := HS s
      have h2 := eA s
      rw [if_neg hb] at h1
      by_cases ha : p ∈ A
      · rw [if_pos ha] at h1 ⊢; push_cast at h1; omega
      · rw [if_neg ha] at h1 ⊢; push_cast at h1; omega
  · have nB' : (B1 ++ B2).Nodup := nB.sublist (List.Sublist.append (List.Sublist.refl _) (List.sublist_cons_self _ _))
    have hpB' : p ∉ B1 ++ B2 := fun q => hb (by
      rcases List.mem_append.mp q with q | q
      · exact List.mem_append_left _ q
      · exact List.mem_append_right _ (List.mem_cons_of_mem _ q))
    rw [List.length_append, List.length_cons] at hl
    refine fin ?_ (by simp) (by rw [List.length_append, List.length_append, List.length_singleton]; omega) fun s => ?_
    · rw [List.nodup_append]
      refine ⟨nB', by simp, fun x hx y hy e => ?_⟩
      rw [List.mem_singleton] at hy
      exact hpB' (hy ▸ e ▸ hx)
    · rw [ee_append, ee_self, ee_append]
      have h1 := HS s
      have h2 := eA s
      rw [if_neg hb, ee_append, ee_cons] at h1
      by_cases hs : rest.idxOf f < s
      · have a1 : ee p B1 rest s = B1.length := ee_all (fun q => hb (List.mem_append_left _ q)) fun x hx => Nat.lt_of_le_of_lt (hf x (List.mem_append_left _ hx)) hs
        have a2 : ee p B2 rest s = B2.length := ee_all (fun q => hb (List.mem_append_right _ (List.mem_cons_of_mem _ q))) fun x hx => Nat.lt_of_le_of_lt (hf x (List.mem_append_right _ (List.mem_cons_of_mem _ hx))) hs
        have a3 := ee_le (rest := rest) (s := s) hA' hpA
        have h3 := HS 0
        rw [ee_zero, ee_zero, if_neg hb] at h3
        by_cases ha : p ∈ A
        · rw [if_pos ha] at h3 ⊢; push_cast at h3; omega
        · rw [if_neg ha]; omega
      · rw [if_neg (show ¬ (f ≠ p ∧ rest.idxOf f < s) from fun q => hs q.2)] at h1
        by_cases ha : p ∈ A
        · rw [if_pos ha] at h1 ⊢; push_cast at h1; omega
        · rw [if_neg ha] at h1 ⊢; push_cast at h1; omega
theorem binv_start (w : Nat) (rs : List Int) : BInv w rs [] [] 0 0 := ⟨by simp, by simp, Nat.zero_le _, Nat.zero_le _, fun s => by simp [cnt]⟩
theorem binv_end {w : Nat} {rs A B : List Int} {MA MB : Int} (h : BInv w rs A B MA MB) : MB ≤ MA := by
  have := h.2.2.2.2 0
  rw [cnt_zero, cnt_zero] at this
  omega
/-- a run of the farthest-away rule -/
inductive BRun (w : Nat) : List Int → List Int → Int → List Int → Int → Prop
  | nil {B M} : BRun w [] B M B M
  | cons {p rest B B1 M M1 B' M'} : BStep w rest p B B1 M M1 → BRun w rest B1 M1 B' M' → BRun w (p :: rest) B M B' M'
def lruRun (cap : Nat) (lim : Nat → Bool) : List Int → List Int × Int → List Int × Int
  | [], s => s
  | p :: rest, (A, M) => lruRun cap lim rest (acc cap lim A p, if p ∈ A then M else M + 1)
theorem acc_ok {cap : Nat} {A : List Int} {p : Int} (hc : 1 ≤ cap) (hn : A.Nodup) (hl : A.length ≤ cap) :
    (acc cap (fun n => decide ((cap : Int) < n)) A p).Nodup ∧ p ∈ acc cap (fun n => decide ((cap : Int) < n)) A p ∧ (acc cap (fun n => decide ((cap : Int) < n)) A p).length ≤ cap ∧ ∀ x ∈ acc cap (fun n => decide ((cap : Int) < n)) A p, x = p ∨ x ∈ A := by
  have e : acc cap (fun n => decide ((cap : Int) < n)) A p = (nxt A p).take cap := by
    have := acc_plain (S := A) (p := p) hc
    rwa [List.take_of_length_le hl] at this
  rw [e]
  refine ⟨(nxt_nodup hn).sublist (List.take_sublist _ _), ?_, by rw [List.length_take]; omega, fun x hx => ?_⟩
  · cases cap with
    | zero => omega
    | succ j => rw [List.take_succ_cons]; exact List.mem_cons_self
  · rcases List.mem_cons.mp (List.mem_of_mem_take hx) with q | q
    · exact .inl q
    · exact .inr (List.mem_of_mem_erase q)
theorem bel_le {w : Nat} (hw : 1 ≤ w) : ∀ {rs B B' : List Int} {M M' : Int}, BRun w rs B M B' M' → ∀ {A : List Int} {MA : Int}, BInv w rs A B MA M → M' ≤ (lruRun w (fun n => decide ((w : Int) < n)) rs (A, MA)).2
  | _, _, _, _, _, .nil, A, MA, h => binv_end h
  | _, _, _, _, _, .cons st run, A, MA, h => by
    obtain ⟨a1, a2, a3, a4⟩ := acc_ok hw h.1 h.2.2.1
    exact bel_le hw run (binv_step hw h a1 a2 a3 a4 st)
theorem bel_best {w : Nat} (hw : 1 ≤ w) {rs B' : List Int} {M' : Int} (h : BRun w rs [] 0 B' M') : M' ≤ (lruRun w (fun n => decide ((w : Int) < n)) rs ([], 0)).2 := bel_le hw h (binv_start w rs)
end Mine

namespace Mine
theorem lru_snoc (cap : Nat) (lim : Nat → Bool) (p : Int) : ∀ (as : List Int) (s : List Int × Int), lruRun cap lim (as ++ [p]) s = (acc cap lim (lruRun cap lim as s).1 p, if p ∈ (lruRun cap lim as s).1 then (lruRun cap lim as s).2 else (lruRun cap lim as s).2 + 1)
  | [], (A, M) => rfl
  | q :: as, (A, M) => by
    rw [List.cons_append]
    exact lru_snoc cap lim p as _
abbrev limOf (n : Nat) : Nat → Bool := fun i => decide ((n : Int) < (i : Int))
structure LInv (k wide : Nat) (hh : Int) (as S : List Int) (m0 m1 m2 : Int) (riv : List Int) (fet : Int) (full : Nat) : Prop where
  nS : S.Nodup
  f1 : min k S.length ≤ full
  f2 : full ≤ S.length
  f3 : full ≤ wide
  a0 : 0 ≤ m2
  a1 : m2 ≤ m1
  a2 : m1 ≤ m0
  a3 : m0 ≤ (as.length : Int)
  nr : riv.Nodup
  lr : (riv.length : Int) ≤ hh
  b0 : 0 ≤ fet
  b1 : fet ≤ (as.length : Int)
  st : ((k : Int) - hh + 1) * m0 + (phi k (S.take k) riv : Nat) ≤ (k : Int) * fet
  lw : lruRun wide (limOf wide) as ([], 0) = (S.take wide, m2)
theorem LInv.start (k wide : Nat) (hh : Int) (h1 : 1 ≤ hh) : LInv k wide hh [] [] 0 0 0 [] 0 0 where
  nS := by simp
  f1 := by simp
  f2 := by simp
  f3 := Nat.zero_le _
  a0 := by omega
  a1 := by omega
  a2 := by omega
  a3 := by simp
  nr := by simp
  lr := by simp; omega
  b0 := by omega
  b1 := by simp
  st := by simp [phi]
  lw := by simp [lruRun]
def fullOf (k wide full : Nat) (hit : Prop) [Decidable hit] : Nat := if hit then full else if full < wide then full + 1 else k
theorem LInv.step {k wide full : Nat} {hh fet m0 m1 m2 p idx : Int} {as S riv : List Int} (I : LInv k wide hh as S m0 m1 m2 riv fet full) (hk : 1 ≤ k) (hkw : k ≤ wide) (h1 : 1 ≤ hh) (hhk : hh ≤ k) (i0 : 0 ≤ idx) (i1 : idx < hh) :
    LInv k wide hh (as ++ [p]) (nxt S p) (if p ∈ S.take k then m0 else m0 + 1) (if p ∈ S.take full then m1 else m1 + 1) (if p ∈ S.take wide then m2 else m2 + 1) (rivOf hh riv p idx) (if p ∈ riv then fet else fet + 1) (fullOf k wide full (p ∈ S.take full)) := by
  obtain ⟨nS, f1, f2, f3, a0, a1, a2, a3, nr, lr, b0, b1, st, lw⟩ := I
  have sub01 : p ∈ S.take k → p ∈ S.take full := take_sub (by omega) p
  have sub12 : p ∈ S.take full → p ∈ S.take wide := take_sub (.inl f3) p
  obtain ⟨r1, r2, r3⟩ := rivOf_ok nr lr h1 i0 i1 (pg := p)
  have la : ((as ++ [p]).length : Int) = as.length + 1 := by rw [List.length_append, List.length_singleton]; omega
  have hlen := nxt_len (S := S) (p := p)
  refine ⟨nxt_nodup nS, ?_, ?_, ?_, ?_, ?_, ?_, ?_, r1, r2, ?_, ?_, ?_, ?_⟩
  · unfold fullOf
    by_cases h : p ∈ S.take full
    · rw [if_pos h, nxt_len_mem (List.mem_of_mem_take h)]; exact f1
    · rw [if_neg h]
      split <;> omega
  · unfold fullOf
    by_cases h : p ∈ S.take full
    · rw [if_pos h]; omega
    · rw [if_neg h]
      split
      · by_cases hp : p ∈ S
        · have := not_take hp h
          omega
        · rw [nxt_len_new hp]; omega
      · omega
  · unfold fullOf
    split
    · exact f3
    · split <;> omega
  · split <;> omega
  · by_cases h : p ∈ S.take full
    · rw [if_pos h, if_pos (sub12 h)]; exact a1
    · rw [if_neg h]; split <;> omega
  · by_cases h : p ∈ S.take k
    · rw [if_pos h, if_pos (sub01 h)]; exact a2
    · rw [if_neg h]; split <;> omega
  · rw [la]; split <;> omega
  · split <;> omega
  · rw [la]; split <;> omega
  · have e0 : (nxt S p).take k = acc k (limOf k) (S.take k) p := (acc_plain hk).symm
    rw [e0]
    have p1 := phi_acc (k := k) (lim := limOf k) (l := S.take k) hk r3 r1
    have p2 := rivOf_phi (k := k) (l := S.take k) (hh := hh) (riv := riv) (pg := p) (idx := idx) (by rw [List.length_take]; omega)
    have e1 : (k : Int) * (if p ∈ riv then fet else fet + 1) = (k : Int) * fet + (((if p ∈ riv then 0 else k : Nat)) : Int) := by
      split
      · simp
      · rw [Int.mul_add]; simp
    rw [e1]
    by_cases h : p ∈ S.take k
    · rw [if_pos h] at p1 ⊢
      rw [if_pos h] at p1
      omega
    · rw [if_neg h] at p1 ⊢
      rw [if_neg h] at p1
      rw [Int.mul_add, Int.mul_one]
      omega
  · rw [lru_snoc, lw]
    have e2 : acc wide (limOf wide) (S.take wide) p = (nxt S p).take wide := acc_plain (by omega)
    rw [e2]
theorem LInv.checks {k wide full : Nat} {hh fet m0 m1 m2 p : Int} {as S riv : List Int} (I : LInv k wide hh as (nxt S p) m0 m1 m2 riv fet full) (hk : 1 ≤ k) (hkw : k ≤ wide) :
    p ∈ (nxt S p).take k ∧ ((nxt S p).take k).length ≤ k ∧ ((nxt S p).take full).length = full ∧ ((nxt S p).take wide).length ≤ wide ∧ (∀ x ∈ (nxt S p).take k, x ∈ (nxt S p).take full) ∧ (∀ x ∈ (nxt S p).take full, x ∈ (nxt S p).take wide) ∧
      m0 * ((k : Int) - hh + 1) ≤ (k : Int) * fet := by
  obtain ⟨nS, f1, f2, f3, a0, a1, a2, a3, nr, lr, b0, b1, st, lw⟩ := I
  refine ⟨?_, by rw [List.length_take]; omega, by rw [List.length_take]; omega, by rw [List.length_take]; omega, take_sub (by omega), take_sub (.inl f3), ?_⟩
  · cases k with
    | zero => omega
    | succ j => rw [List.take_succ_cons]; exact List.mem_cons_self
  · rw [Int.mul_comm]; omega
end Mine

namespace Mine
/-! the law's own text, by its place in the given program -/
def nth {α : Type} : List α → Nat → Option α
  | [], _ => none
  | a :: _, 0 => some a
  | _ :: l, n + 1 => nth l n
def from_ {α : Type} : List α → Nat → List α
  | l, 0 => l
  | [], _ + 1 => []
  | _ :: l, n + 1 => from_ l n
def fnBody : Option Stmt → List Stmt
  | some (.FunctionDef _ _ b _ _ _ _ _ _ _) => b
  | _ => []
def forBody : Option Stmt → List Stmt
  | some (.For _ _ b _ _) => b
  | _ => []
def fnScope : Option Stmt → Scope
  | some (.FunctionDef _ _ _ _ _ _ sc _ _ _) => sc
  | _ => { kind := .function, names := [], isGenerator := false, isCoroutine := false, more := [] }
def lastOf {α : Type} : List α → Option α
  | [] => none
  | [a] => some a
  | _ :: l => lastOf l
def lawStmt : Option Stmt := lastOf PySem.Challenge.pw_bn5031_01.main.body
def lawBody : List Stmt := fnBody lawStmt
def lawScope : Scope := fnScope lawStmt
def loopBody : List Stmt := forBody (nth lawBody 6)
def innerBody : List Stmt := forBody (nth loopBody 4)
def secondLast {α : Type} : List α → Option α
  | [] => none
  | [_] => none
  | [a, _] => some a
  | _ :: b :: c :: l => secondLast (b :: c :: l)
def leastStmt : Option Stmt := secondLast PySem.Challenge.pw_bn5031_01.main.body
def leastScope : Scope := fnScope leastStmt
def leastLoop : List Stmt := forBody (nth (fnBody leastStmt) 1)
def stOf (o : Option Stmt) : Stmt := match o with | some s => s | none => .Pass ⟨0, 0, 0, 0⟩
end Mine

namespace Mine
section
local macro_rules | `(tactic| walk_at "RESET") => `(tactic| trivial)
local macro_rules | `(tactic| walk_at "RESET") => `(tactic| trivial)
local macro_rules | `(tactic| walk_at "RESET") => `(tactic| trivial)
local macro_rules | `(tactic| walk_at "RESET") => `(tactic| trivial)
local macro_rules | `(tactic| walk_at "RESET") => `(tactic| trivial)
local macro_rules | `(tactic| walk_at "RESET") => `(tactic| trivial)
local macro_rules | `(tactic| walk_at "RESET") => `(tactic| trivial)
local macro_rules | `(tactic| walk_at "RESET") => `(tactic| trivial)
local macro_rules | `(tactic| walk_at "RESET") => `(tactic| trivial)
local macro_rules | `(tactic| walk_at "RESET") => `(tactic| trivial)
local macro_rules | `(tactic| walk_at "RESET") => `(tactic| trivial)
local macro_rules | `(tactic| walk_at "RESET") => `(tactic| trivial)
local macro_rules | `(tactic| walk_at "RESET") => `(tactic| trivial)
local macro_rules | `(tactic| walk_at "RESET") => `(tactic| trivial)
local macro_rules | `(tactic| walk_at "RESET") => `(tactic| trivial)
local macro_rules | `(tactic| walk_at "RESET") => `(tactic| trivial)
local macro_rules | `(tactic| walk_at "RESET") => `(tactic| trivial)
local macro_rules | `(tactic| walk_at "RESET") => `(tactic| trivial)
local macro_rules | `(tactic| walk_at "RESET") => `(tactic| trivial)
local macro_rules | `(tactic| walk_at "RESET") => `(tactic| trivial)
local macro_rules | `(tactic| walk_at "RESET") => `(tactic| trivial)
local macro_rules | `(tactic| walk_at "RESET") => `(tactic| trivial)
local macro_rules | `(tactic| walk_at "RESET") => `(tactic| trivial)
local macro_rules | `(tactic| walk_at "RESET") => `(tactic| trivial)
theorem resetL10 : True := by
  w_top off
  first | walk1 | trivial
end
end Mine

namespace Mine
local macro_rules | `(tactic| k_room) => `(tactic| (show _ < _; (try simp only [depth_under_make, depth_under_kw, depth_in1, depth_deeper, depth_caller]); (try unfold recursionLimit); omega))
local macro_rules | `(tactic| k_units) => `(tactic| (show _ < _; (try simp only [units_deeper, units_in1]); (try unfold cLine); omega))
local macro_rules | `(tactic| walk_at "FILL") => `(tactic| (have _fill : (fun (_ : OpenLaw) (_ : Params → Frag) => True) PySem.Challenge.rw_bn5031_01 hd.heap_39 := by k_fill; trivial))
local macro_rules | `(tactic| walk_at "LOOK") => `(tactic| first | assumption | exact if_pos rfl | (refine Eq.trans (if_neg (by decide)) ?_; walk_at "LOOK"))
local macro_rules | `(tactic| walk_at "eval Name") => `(tactic| (k_here; k_dflt (refine' ld ?k1 ?k2 ?_; (case k1 => k_asm); (case k2 => walk_at "LOOK"); k_whole)))
local macro_rules | `(tactic| k_all) => `(tactic| with_reducible assumption)
theorem sub_at {prog : Program} {w : World} {A : Around} {E : Value → Shared → Prop} {s : Shared} {h₀ : Heap} {L D : Addr} {news : List (Addr × Obj)} {vs : List Value} {n : Nat} {k : Int} {u : Tok} {v : Value} {value slice : PySem.Expr} {Q : Value → Shared → Prop}
    (N : News h₀ L s.heap news) (hm : (D, listOf vs.toArray n) ∈ news) (h0 : 0 ≤ k) (hfit : k < 2 ^ 63) (hx : vs[k.toNat]? = some v) (h : Q v s)
    (hs : subscripted slice false (.ref D) (.int k u) = operate [.ref D, .int k u] (getItem (.ref D) (.int k u)) := by with_unfolding_all rfl) :
    wpAny (model prog w) A (subscriptTail value slice (.ref D) (.int k u)) Q E s :=
  have hl : s.heap.IsList D vs.toArray := ⟨_, (N _ hm).1, rfl, n, rfl⟩
  tail_any hl.typeIs slot_list_getitem.lookup (wpAny_getItem_list hl h0 hfit (x := v) (by simpa using hx) h) hs
local macro_rules | `(tactic| walk_at "subscriptTail") => `(tactic| (k_here; (with_reducible show wpAny _ _ (subscriptTail _ _ (Value.ref _) (Value.int _ _)) _ _ _); k_dflt (refine' sub_at ?k1 ?k2 ?k3 ?k4 ?k5 ?_ ?k7; (case k5 => assumption); (case k1 => k_asm); (case k2 => k_mem); (case k3 => assumption); (case k4 => omega); (case k7 => with_unfolding_all rfl); k_whole)))
local macro_rules | `(tactic| walk_at "call ref") => `(tactic| ((with_reducible show wpAny _ _ (call (Value.ref _) _) _ _ _); refine hold ?_))
theorem led_front (C : Cache) (w : World) (a b : Addr × Obj) (rest : List (Addr × Obj)) : (C.led w ++ (a :: b :: rest)).Perm (a :: b :: (C.c, lru C.dd C.d C.mu C.cap C.tc C.thr C.ctr C.tt) :: (C.dd, dictOf [] 0) :: ([(C.d, C.dobj)] ++ C.lock w ++ C.ents.flatMap Ent.led ++ rest)) := by
  unfold Cache.led Cache.top
  classical
  exact List.perm_iff_count.mpr fun t => by simp only [List.count_append, List.count_cons, List.count_nil]; omega
theorem led_back {h₀ h : Heap} {L : Nat} {l l' : List (Addr × Obj)} (hp : l.Perm l') (N : News h₀ L h l') (nd : (l.map (·.1) : List Nat).Nodup) : Led h₀ L h l := ⟨fun q hq => N q (hp.mem_iff.mp hq), nd⟩
/-- what a request does to a cache and to its count of misses -/
def Acc (w : World) (lim : Nat → Bool) (C : Cache) (pg i : Int) (ms : List Int) (C' : Cache) (ms' : List Int) : Prop :=
  (∃ (e1 : List Ent) (e : Ent) (e2 : List Ent) (t1 t2 : Tok) (n : Nat), C.ents = e1 ++ e :: e2 ∧ e.key = pg ∧ C' = { C with ctr := C.ctr + 1, tt := t1, ents := e1 ++ { e with cnt := C.ctr + 1, ct := t2, ln := n } :: e2 } ∧ ms' = ms) ∨
  (pg ∉ C.ents.map Ent.key ∧ SetTo w lim C pg (Txt.mul (Str.ofString "v") pg) C' ∧ ms' = ms.set i.toNat (ms.getD i.toNat 0 + 1))
theorem inner_turn {w : World} {A₀ : Around} {base h₀ : Heap} {outer : List Env} {L fa : Addr} {cd : Value} {m : Str → Option Value} {p : Program} {loose : List Str} {mean : ExcName → Option Value} {mg mb : Str → Option Value} {s : Shared} {E : Value → Shared → Prop} {Q : Flow → Shared → Prop}
    {dp un : Nat} {gd : Option (List Code)} {rest : List (Addr × Obj)} {C : Cache} {sc : Scope} {body : List Stmt} {lc lm cc cm : Nat} {csv vsm : List Value} {ms : List Int} {i pg : Int} {ti tp : Tok} {lim : Nat → Bool} 
    (hsc : sc = lawScope) (hbody : body = innerBody)
    (B : Below A₀ base outer h₀) (F : Fr h₀ L s.heap m) (X₀ : (hd.heap_39 w.params).In h₀)
    (N : Led h₀ L s.heap (C.led w ++ ((lc, listOf csv.toArray cc) :: (lm, listOf vsm.toArray cm) :: rest)))
    (T : Top p loose mean mg mb h₀) (hdp : dp < 400) (_hun : un < 1000)
    (hcx : csv[i.toNat]? = some (.ref C.c)) (hi0 : 0 ≤ i) (hi3 : i < 3) (hm3 : ms.length = 3) (hms : IntsAre vsm ms)
    (hcs : m (Str.ofString "caches") = some (.ref lc)) (hmsm : m (Str.ofString "missed") = some (.ref lm)) (hpg : m (Str.ofString "page") = some (.int pg tp)) (hn : m (Str.ofString "n") = some (.int i ti))
    (hE : PassesOwn (MO w) (Ar dp (envOfC (Str.ofString "law") sc L fa cd :: outer) gd un) (envOfC (Str.ofString "law") sc L fa cd) E)
    (hT : Thr w C.cap C.thr lim) (h20 : C.ents.length + 1 ≤ 20) (nc : (C.ents.map Ent.cnt).Nodup) (hct : ∀ x ∈ C.ents, x.cnt ≤ C.ctr) (h1 : lim (C.ents.length + 1) = true → 1 ≤ C.ents.length ∧ lim (min C.cap.toNat (C.ents.length + 1)) = false) (hc0 : 0 ≤ C.cap) (ok : C.Ok w) (hp0 : 0 ≤ pg) (hp9 : pg ≤ 20) (hsv : ∀ x ∈ C.ents, x.sv = Txt.mul (Str.ofString "v") x.key)
    (h : ∀ (h' : Heap) (tk : Nat) (C' : Cache) (vsm' : List Value) (ms' : List Int) (m' : Str → Option Value), Acc w lim C pg i ms C' ms' → IntsAre vsm' ms' → (∀ y, y ≠ Str.ofString "cache" → y ≠ Str.ofString "got" → m' y = m y) → Fr h₀ L h' m' →
      Led h₀ L h' (C'.led w ++ ((lc, listOf csv.toArray cc) :: (lm, listOf vsm'.toArray cm) :: rest)) → Q .next { s with heap := h', toks := tk }) :
    wpAny (MO w) (Ar dp (envOfC (Str.ofString "law") sc L fa cd :: outer) gd un) (execs body (envOfC (Str.ofString "law") sc L fa cd)) Q E s := by
  walk_at "FILL"
  conv at hsc => rhs; whnf
  conv at hbody => rhs; whnf
  subst hsc
  subst hbody
  have hnd := N.2
  obtain ⟨tl, htl⟩ : ∃ tl, tl = [(C.d, C.dobj)] ++ C.lock w ++ C.ents.flatMap Ent.led ++ rest := ⟨_, rfl⟩
  have hpm := led_front C w (lc, listOf csv.toArray cc) (lm, listOf vsm.toArray cm) rest
  rw [← htl] at hpm
  have NA := (N.perm hpm).1
  k_steps
  all_goals (try k_data)
  show wpAny _ _ (call (Value.ref 131) _) _ _ _
  rename News h₀ L _ _ => N2
  rename Fr h₀ L _ _ => F2
  have NL := led_back hpm N2 hnd
  by_cases hk : pg ∈ C.ents.map Ent.key
  · obtain ⟨e, he, rfl⟩ := List.mem_map.mp hk
    obtain ⟨e1, e2, hsp⟩ := List.append_of_mem he
    refine' get_hit (dp := dp) (un := un) B F2 X₀ NL T rfl rfl (by omega) (by omega) hsp ok ?_
    intro h3 tk3 t1 t2 n3 F3 L3
    have N3 := (L3.perm (led_front _ w _ _ _)).1
    dsimp only
    rw [hsv e he]
    k_steps
    all_goals (try k_data)
    · rename (_ != _) = true => hc
      exact absurd hc (by simp)
    · rename News h₀ L _ _ => N4
      rename Fr h₀ L _ _ => F4
      refine h _ _ _ vsm ms _ (.inl ⟨e1, e, e2, t1, t2, n3, hsp, rfl, rfl, rfl⟩) hms (fun y q1 q2 => ?_) F4 (led_back (led_front _ w _ _ _) N4 L3.2)
      exact (if_neg q2).trans (if_neg q1)
  · refine' get_miss (dp := dp) (un := un) B F2 X₀ NL T rfl rfl (by omega) (by omega) hk ok ?_
    intro h3 tk3 F3 L3
    have N3 := (L3.perm (led_front _ w _ _ _)).1
    rw [← htl] at N3
    dsimp only
    have hj : i < ms.length := by omega
    have hnd2 : (((lc, listOf csv.toArray cc) :: (lm, listOf vsm.toArray cm) :: (C.c, lru C.dd C.d C.mu C.cap C.tc C.thr C.ctr C.tt) :: (C.dd, dictOf [] 0) :: tl).map (·.1) : List Nat).Nodup := (hpm.map _).nodup_iff.mp hnd
    simp only [List.map_cons, List.nodup_cons, List.mem_cons, not_or] at hnd2
    obtain ⟨⟨a1, a2, a3, a4⟩, ⟨b2, b3, b4⟩, ⟨d3, d4⟩, _⟩ := hnd2
    have hoff : ∀ q ∈ tl, q.1 ≠ lm := fun q hq e => b4 (e ▸ List.mem_map_of_mem hq)
    k_steps
    all_goals (try k_data)
    rename News h₀ L _ _ => N5
    rename Fr h₀ L _ _ => F5
    rename IntsAre _ (List.set _ _ _) => hI5
    subst htl
    have L5 := led_back (led_front C w _ _ rest) N5 (by rw [List.map_append] at hnd ⊢; exact hnd)
    show wpAny _ _ (call (Value.ref 159) _) _ _ _
    refine' set_spec (dp := dp) (un := un) B F5 X₀ L5 T rfl rfl (by omega) (by omega) hT h20 hk nc hct h1 hc0 ok ?_
    intro h6 tk6 C' hset F6 L6
    have N6 := (L6.perm (led_front _ w _ _ _)).1
    dsimp only
    k_steps
    all_goals (try k_data)
    refine h _ _ C' _ _ _ (.inr ⟨hk, hset, rfl⟩) hI5 (fun y q1 q2 => ?_) F6 L6
    exact (if_neg q2).trans (if_neg q1)
end Mine

namespace Mine
section
local macro_rules | `(tactic| walk_at "RESET") => `(tactic| trivial)
local macro_rules | `(tactic| walk_at "RESET") => `(tactic| trivial)
local macro_rules | `(tactic| walk_at "RESET") => `(tactic| trivial)
local macro_rules | `(tactic| walk_at "RESET") => `(tactic| trivial)
local macro_rules | `(tactic| walk_at "RESET") => `(tactic| trivial)
local macro_rules | `(tactic| walk_at "RESET") => `(tactic| trivial)
local macro_rules | `(tactic| walk_at "RESET") => `(tactic| trivial)
local macro_rules | `(tactic| walk_at "RESET") => `(tactic| trivial)
local macro_rules | `(tactic| walk_at "RESET") => `(tactic| trivial)
local macro_rules | `(tactic| walk_at "RESET") => `(tactic| trivial)
local macro_rules | `(tactic| walk_at "RESET") => `(tactic| trivial)
local macro_rules | `(tactic| walk_at "RESET") => `(tactic| trivial)
local macro_rules | `(tactic| walk_at "RESET") => `(tactic| trivial)
local macro_rules | `(tactic| walk_at "RESET") => `(tactic| trivial)
local macro_rules | `(tactic| walk_at "RESET") => `(tactic| trivial)
local macro_rules | `(tactic| walk_at "RESET") => `(tactic| trivial)
local macro_rules | `(tactic| walk_at "RESET") => `(tactic| trivial)
local macro_rules | `(tactic| walk_at "RESET") => `(tactic| trivial)
local macro_rules | `(tactic| walk_at "RESET") => `(tactic| trivial)
local macro_rules | `(tactic| walk_at "RESET") => `(tactic| trivial)
local macro_rules | `(tactic| walk_at "RESET") => `(tactic| trivial)
local macro_rules | `(tactic| walk_at "RESET") => `(tactic| trivial)
local macro_rules | `(tactic| walk_at "RESET") => `(tactic| trivial)
local macro_rules | `(tactic| walk_at "RESET") => `(tactic| trivial)
theorem resetL11 : True := by
  w_top off
  first | walk1 | trivial
end
end Mine

namespace Mine
local macro_rules | `(tactic| k_room) => `(tactic| (show _ < _; (try simp only [depth_under_make, depth_under_kw, depth_in1, depth_deeper, depth_caller]); (try unfold recursionLimit); omega))
local macro_rules | `(tactic| k_units) => `(tactic| (show _ < _; (try simp only [units_deeper, units_in1]); (try unfold cLine); omega))
local macro_rules | `(tactic| walk_at "FILL") => `(tactic| (have _fill : (fun (_ : OpenLaw) (_ : Params → Frag) => True) PySem.Challenge.rw_bn5031_01 hd.heap_39 := by k_fill; trivial))
local macro_rules | `(tactic| walk_at "LOOK") => `(tactic| first | assumption | exact if_pos rfl | (refine Eq.trans (if_neg (by decide)) ?_; walk_at "LOOK"))
local macro_rules | `(tactic| k_mem) => `(tactic| first | assumption | (refine List.Mem.tail _ ?_; k_mem))
local macro_rules | `(tactic| walk_at "eval Name") => `(tactic| (k_here; (fail_if_success (with_reducible show wpAny _ _ (eval (Expr.Name (Str.ofString "held") _) _) _ _ _)); (fail_if_success (with_reducible show wpAny _ _ (eval (Expr.Name (Str.ofString "len") _) _) _ _ _)); (fail_if_success (with_reducible show wpAny _ _ (eval (Expr.Name (Str.ofString "sorted") _) _) _ _ _)); k_dflt (refine' ld ?k1 ?k2 ?_; (case k1 => k_asm); (case k2 => walk_at "LOOK"); k_whole)))
local macro_rules | `(tactic| k_all) => `(tactic| with_reducible assumption)
local macro_rules | `(tactic| walk_at "subscriptTail") => `(tactic| (k_here; (with_reducible show wpAny _ _ (subscriptTail _ _ (Value.ref _) (Value.int _ _)) _ _ _); k_dflt (refine' sub_at ?k1 ?k2 ?k3 ?k4 ?k5 ?_ ?k7; (case k1 => k_asm); (case k2 => k_mem); (case k5 => exact rfl); (case k3 => decide); (case k4 => decide); (case k7 => with_unfolding_all rfl); k_whole)))
local macro_rules | `(tactic| walk_at "call builtin:len") => `(tactic| (k_here; (with_reducible show wpAny _ _ (call (Value.builtin "len") [Value.ref _]) _ _ _); k_dflt (refine' KM.len_K ?N ?hm ?hs ?hf ?_; (case N => k_asm); (case hm => k_mem); (case hs => assumption); (case hf => assumption); k_whole)))
theorem notin_has {prog : Program} {w : World} {A : Around} {E : Value → Shared → Prop} {s : Shared} {h₀ : Heap} {L D : Addr} {news : List (Addr × Obj)} {vs : List Value} {ns : List Int} {n : Nat} {k : Int} {u : Tok} {Q : Value → Shared → Prop}
    (N : News h₀ L s.heap news) (hm : (D, listOf vs.toArray n) ∈ news) (hi : IntsAre vs ns) (hk : k ∈ ns) (h : Q (.bool false) s) : wpAny (model prog w) A (compareOp .NotIn (.int k u) (.ref D)) Q E s :=
  notin_list_ints (l := D) ⟨_, (N _ hm).1, rfl, n, rfl⟩ hi (by
    have e : ns.any (· == k) = true := List.any_eq_true.mpr ⟨k, hk, by simp⟩
    rw [e]; exact h)
local macro_rules | `(tactic| walk_at "compareOp NotIn int ref") => `(tactic| (k_here; k_dflt (refine' notin_has ?N ?m ?i ?k ?_; (case N => k_asm); (case m => k_mem); (case i => assumption); (case k => assumption); k_whole)))
theorem ne_false {prog : Program} {w : World} {A : Around} {E : Value → Shared → Prop} {s : Shared} {a b : Int} {t u : Tok} {Q : Value → Shared → Prop} (e : a = b) (h : Q (.bool false) s) : wpAny (model prog w) A (compareOp .NotEq (.int a t) (.int b u)) Q E s :=
  ne_int (by subst e; rw [show (a != a) = false by simp]; exact h)
local macro_rules | `(tactic| walk_at "compareOp NotEq int int") => `(tactic| (k_here; k_dflt (refine' ne_false ?e ?_; (case e => omega); k_whole)))
local macro_rules | `(tactic| walk_at "isTrue BoolOp") => `(tactic| (k_here; (try dsimp only); k_gentoks; walk_at "isTrue BoolOp"))
local macro_rules | `(tactic| walk_at "binaryOp Mult int int") => `(tactic| (k_here; k_dflt (refine mul_int ?_ (IntMulOk.of_left (intBits_le_64 (by omega) (by omega))))))
section
variable {w : World} {A₀ : Around} {base h₀ : Heap} {outer : List Env} {L fa : Addr} {cd : Value} {m : Str → Option Value} {p : Program} {loose : List Str} {mean : ExcName → Option Value} {mg mb : Str → Option Value} {s : Shared} {E : Value → Shared → Prop} {Q : Flow → Shared → Prop}
    {dp un : Nat} {gd : Option (List Code)} {news : List (Addr × Obj)} {sc : Scope} {st : Stmt}
theorem chk9 {lm cm : Nat} {m0 m1 m2 k hh fet : Int} {u0 u1 u2 tk th te : Tok}
    (hsc : sc = lawScope) (hst : st = stOf (nth loopBody 9))
    (F : Fr h₀ L s.heap m) (X₀ : (hd.heap_39 w.params).In h₀) (N : News h₀ L s.heap news) (T : Top p loose mean mg mb h₀)
    (hM : (lm, listOf [.int m0 u0, .int m1 u1, .int m2 u2].toArray cm) ∈ news)
    (hms : m (Str.ofString "missed") = some (.ref lm)) (hk : m (Str.ofString "k") = some (.int k tk))
    (hhh : m (Str.ofString "h") = some (.int hh th)) (hfe : m (Str.ofString "fetched") = some (.int fet te))
    (hE : PassesOwn (MO w) (Ar dp (envOfC (Str.ofString "law") sc L fa cd :: outer) gd un) (envOfC (Str.ofString "law") sc L fa cd) E)
    (b1 : 0 ≤ m0) (b2 : m0 ≤ 20) (b3 : 0 ≤ k) (b4 : k ≤ 4) (g6 : m2 ≤ m1) (g7 : m1 ≤ m0) (g8 : m0 * (k - hh + 1) ≤ k * fet)
    (h : ∀ tk, Q .next { s with toks := tk }) :
    wpAny (MO w) (Ar dp (envOfC (Str.ofString "law") sc L fa cd :: outer) gd un) (exec st (envOfC (Str.ofString "law") sc L fa cd)) Q E s := by
  walk_at "FILL"
  conv at hsc => rhs; whnf
  conv at hst => rhs; whnf
  subst hsc
  subst hst
  k_steps
  all_goals (try k_data)
  all_goals first | exact h _ | (exfalso; omega)
theorem chk7 {H D0 D1 D2 cH c0 c1 c2 : Nat} {co : Obj} {vs0 vs1 vs2 : List Value} {ns0 ns1 ns2 : List Int} {k wide full pg : Int} {tk tw tf tp : Tok}
    (hsc : sc = lawScope) (hst : st = stOf (nth loopBody 7))
    (F : Fr h₀ L s.heap m) (X₀ : (hd.heap_39 w.params).In h₀) (N : News h₀ L s.heap news) (T : Top p loose mean mg mb h₀)
    (hC : (L + 1, co) ∈ news) (hco : co.data = .cell (some (.ref H))) (hH : (H, listOf [.ref D0, .ref D1, .ref D2].toArray cH) ∈ news) (hD0 : (D0, listOf vs0.toArray c0) ∈ news) (hD1 : (D1, listOf vs1.toArray c1) ∈ news) (hD2 : (D2, listOf vs2.toArray c2) ∈ news)
    (i0 : IntsAre vs0 ns0) (i1 : IntsAre vs1 ns1) (i2 : IntsAre vs2 ns2)
    (hpg : m (Str.ofString "page") = some (.int pg tp)) (hk : m (Str.ofString "k") = some (.int k tk)) (hw : m (Str.ofString "wide") = some (.int wide tw)) (hfu : m (Str.ofString "full") = some (.int full tf))
    (hE : PassesOwn (MO w) (Ar dp (envOfC (Str.ofString "law") sc L fa cd :: outer) gd un) (envOfC (Str.ofString "law") sc L fa cd) E)
    (hl0 : vs0.toArray.size = ns0.length) (hl1 : vs1.toArray.size = ns1.length) (hl2 : vs2.toArray.size = ns2.length) (hf0 : ns0.length < 2 ^ 62) (hf1 : ns1.length < 2 ^ 62) (hf2 : ns2.length < 2 ^ 62)
    (g0 : pg ∈ ns0) (g1 : (ns0.length : Int) ≤ k) (g2 : (ns1.length : Int) = full) (g3 : (ns2.length : Int) ≤ wide)
    (h : ∀ tk, Q .next { s with toks := tk }) :
    wpAny (MO w) (Ar dp (envOfC (Str.ofString "law") sc L fa cd :: outer) gd un) (exec st (envOfC (Str.ofString "law") sc L fa cd)) Q E s := by
  walk_at "FILL"
  conv at hsc => rhs; whnf
  conv at hst => rhs; whnf
  subst hsc
  subst hst
  k_steps
  all_goals (try k_data)
  all_goals first | exact h _ | (exfalso; omega)
end
/-! the filter that lets nothing through -/
def NoEnd (h₀ : Heap) (L : Addr) (m : Str → Option Value) (s : Shared) (all : List (Addr × Obj)) (ok : Bool) (s' : Shared) : Prop := ok = false ∧ ∃ h' tk', s' = { s with heap := h', toks := tk' } ∧ Fr h₀ L h' m ∧ News h₀ L h' all
theorem NoEnd.intro {h₀ : Heap} {L : Addr} {m : Str → Option Value} {s : Shared} {all : List (Addr × Obj)} {h' : Heap} {tk' : Nat} (F : Fr h₀ L h' m) (N : News h₀ L h' all) : NoEnd h₀ L m s all false { s with heap := h', toks := tk' } := ⟨rfl, h', tk', rfl, F, N⟩
theorem rest_none {prog : Program} {w : World} {A : Around} {s : Shared} {h₀ : Heap} {L : Addr} {m : Str → Option Value} {env : Env} {ct elt : Expr} {x : Str} {scope : Scope} {cl : List (Str × Addr)} {S : List (Addr × Obj) → Prop} {P : Nat → Value → Prop} {Fin : List Value → List (Addr × Obj) → Prop} {news : List (Addr × Obj)}
    (turn : ∀ i v I oI C oC D m₂ h tk (E' : Value → Shared → Prop), P i v → LCg.NsObj oC m₂ → m₂ x = some v → Fr h₀ L h m → News h₀ L h ((I, oI) :: (C, oC) :: (D, LCg.lst []) :: news) →
      wpAny (model prog w) A (isTrue ct (compEnvC scope cl C env) (eval ct (compEnvC scope cl C env))) (NoEnd h₀ L m { s with heap := h, toks := tk } ((I, oI) :: (C, oC) :: (D, LCg.lst []) :: news)) E' { s with heap := h, toks := tk })
    (hS : S news) (hF : Fin [] news) : ∀ k i, LCt.CompRestT prog w A h₀ L m env ct elt x scope cl s S P Fin k i [] news
  | 0, _ => hF
  | k + 1, i => by
    refine LCt.CompRestT.succ fun v I oI C oC D m₂ h tk E' hv hC hx F N off ne => wpAny_mono (turn i v I oI C oC D m₂ h tk E' hv hC hx F N) (fun ok s' he => ?_) fun _ _ y => y
    obtain ⟨rfl, h', tk', rfl, F', N'⟩ := he
    exact ⟨h', tk', news, rfl, F', N', off, hS, rest_none turn hS hF k (i + 1)⟩

theorem ints_at : ∀ {vs : List Value} {ns : List Int}, IntsAre vs ns → ∀ {i : Nat} {v : Value}, vs[i]? = some v → ∃ n t, v = .int n t ∧ n ∈ ns ∧ ns[i]? = some n
  | _, _, .cons n t _, 0, _, e => by cases e; exact ⟨n, t, rfl, .head _, rfl⟩
  | _, _, .cons n t h, i + 1, v, e => by
    obtain ⟨n', t', e1, e2, e3⟩ := ints_at h (i := i) (v := v) e
    exact ⟨n', t', e1, .tail _ e2, e3⟩
local macro_rules | `(tactic| walk_at "eval ListComp") => `(tactic| (k_here; refine hold ?_))
section
variable {w : World} {A₀ : Around} {base h₀ : Heap} {outer : List Env} {L fa : Addr} {cd : Value} {m : Str → Option Value} {p : Program} {loose : List Str} {mean : ExcName → Option Value} {mg mb : Str → Option Value} {s : Shared} {E : Value → Shared → Prop} {Q : Flow → Shared → Prop}
    {dp un : Nat} {gd : Option (List Code)} {news : List (Addr × Obj)} {sc : Scope} {st : Stmt}
theorem chk8 {H D0 D1 D2 cH c0 c1 c2 : Nat} {co : Obj} {vs0 vs1 vs2 : List Value} {ns0 ns1 ns2 : List Int}
    (hsc : sc = lawScope) (hst : st = stOf (nth loopBody 8))
    (F : Fr h₀ L s.heap m) (X₀ : (hd.heap_39 w.params).In h₀) (N : News h₀ L s.heap news) (T : Top p loose mean mg mb h₀)
    (hC : (L + 1, co) ∈ news) (hco : co.data = .cell (some (.ref H))) (hH : (H, listOf [.ref D0, .ref D1, .ref D2].toArray cH) ∈ news) (hD0 : (D0, listOf vs0.toArray c0) ∈ news) (hD1 : (D1, listOf vs1.toArray c1) ∈ news) (hD2 : (D2, listOf vs2.toArray c2) ∈ news)
    (i0 : IntsAre vs0 ns0) (i1 : IntsAre vs1 ns1) (i2 : IntsAre vs2 ns2) (hun : un < 1000) (hf0 : ns0.length ≤ 100) (hf1 : ns1.length ≤ 100)
    (hE : PassesOwn (MO w) (Ar dp (envOfC (Str.ofString "law") sc L fa cd :: outer) gd un) (envOfC (Str.ofString "law") sc L fa cd) E)
    (g4 : ∀ x ∈ ns0, x ∈ ns1) (g5 : ∀ x ∈ ns1, x ∈ ns2)
    (h : ∀ h' tk, Fr h₀ L h' m → News h₀ L h' news → Q .next { s with heap := h', toks := tk }) :
    wpAny (MO w) (Ar dp (envOfC (Str.ofString "law") sc L fa cd :: outer) gd un) (exec st (envOfC (Str.ofString "law") sc L fa cd)) Q E s := by
  walk_at "FILL"
  conv at hsc => rhs; whnf
  conv at hst => rhs; whnf
  subst hsc
  subst hst
  have z0 : vs0.toArray.size ≤ sizeLine := by rw [List.size_toArray, i0.length, sizeLine_eq]; omega
  have z1 : vs1.toArray.size ≤ sizeLine := by rw [List.size_toArray, i1.length, sizeLine_eq]; omega
  k_steps
  refine (?_ : wpAny _ _ (eval _ _) _ _ _)
  refine LCt.ListComp_T (F₀ := by k_asm) (by with_unfolding_all rfl) (by decide) (by rfl) (by decide) (by rfl) ?_
  k_steps
  refine LCt.CompSrcT.ledger (by rfl) (by k_asm) (by k_asm) hD0 z0 fun g' => rest_none ?turn (.inr ⟨_, hD0, rfl, _, rfl⟩) ?fin _ _
  case turn =>
    intro i v I oI C oC D m₂ h1 tk1 E' hv hC1 hx1 F1 N1
    obtain ⟨n, t, rfl, hn, _⟩ := ints_at i0 (by simpa using hv)
    have hn1 := g4 n hn
    k_steps
    exact NoEnd.intro (by assumption) (by assumption)
  case fin =>
    intro D h1 tk1 F1 N1 _
    dsimp only
    k_steps
    refine (?_ : wpAny _ _ (eval _ _) _ _ _)
    refine LCt.ListComp_T (F₀ := by k_asm) (by with_unfolding_all rfl) (by decide) (by rfl) (by decide) (by rfl) ?_
    k_steps
    rename News h₀ L _ _ => N2
    refine LCt.CompSrcT.ledger (by rfl) (by k_asm) N2 (.tail _ (.tail _ hD1)) z1 fun g' => rest_none ?turn2 (.inr ⟨_, .tail _ (.tail _ hD1), rfl, _, rfl⟩) ?fin2 _ _
    case turn2 =>
      intro i v I oI C oC D m₂ h1 tk1 E' hv hC1 hx1 F1 N1
      obtain ⟨n, t, rfl, hn, _⟩ := ints_at i1 (by simpa using hv)
      have hn1 := g5 n hn
      k_steps
      exact NoEnd.intro (by assumption) (by assumption)
    case fin2 =>
      intro D h1 tk1 F1 N1 _
      dsimp only
      k_steps
      rename News h₀ L _ _ => N3
      exact h _ _ (by assumption) (news_sub N3 fun q hq => by simp only [List.mem_cons]; simp [hq])
end
end Mine

namespace Mine
section
local macro_rules | `(tactic| walk_at "RESET") => `(tactic| trivial)
local macro_rules | `(tactic| walk_at "RESET") => `(tactic| trivial)
local macro_rules | `(tactic| walk_at "RESET") => `(tactic| trivial)
local macro_rules | `(tactic| walk_at "RESET") => `(tactic| trivial)
local macro_rules | `(tactic| walk_at "RESET") => `(tactic| trivial)
local macro_rules | `(tactic| walk_at "RESET") => `(tactic| trivial)
local macro_rules | `(tactic| walk_at "RESET") => `(tactic| trivial)
local macro_rules | `(tactic| walk_at "RESET") => `(tactic| trivial)
local macro_rules | `(tactic| walk_at "RESET") => `(tactic| trivial)
local macro_rules | `(tactic| walk_at "RESET") => `(tactic| trivial)
local macro_rules | `(tactic| walk_at "RESET") => `(tactic| trivial)
local macro_rules | `(tactic| walk_at "RESET") => `(tactic| trivial)
local macro_rules | `(tactic| walk_at "RESET") => `(tactic| trivial)
local macro_rules | `(tactic| walk_at "RESET") => `(tactic| trivial)
local macro_rules | `(tactic| walk_at "RESET") => `(tactic| trivial)
local macro_rules | `(tactic| walk_at "RESET") => `(tactic| trivial)
local macro_rules | `(tactic| walk_at "RESET") => `(tactic| trivial)
local macro_rules | `(tactic| walk_at "RESET") => `(tactic| trivial)
local macro_rules | `(tactic| walk_at "RESET") => `(tactic| trivial)
local macro_rules | `(tactic| walk_at "RESET") => `(tactic| trivial)
local macro_rules | `(tactic| walk_at "RESET") => `(tactic| trivial)
local macro_rules | `(tactic| walk_at "RESET") => `(tactic| trivial)
local macro_rules | `(tactic| walk_at "RESET") => `(tactic| trivial)
local macro_rules | `(tactic| walk_at "RESET") => `(tactic| trivial)
theorem resetL12 : True := by
  w_top off
  first | walk1 | trivial
end
end Mine

namespace Mine
local macro_rules | `(tactic| k_room) => `(tactic| (show _ < _; (try simp only [depth_under_make, depth_under_kw, depth_in1, depth_deeper, depth_caller]); (try unfold recursionLimit); omega))
local macro_rules | `(tactic| k_units) => `(tactic| (show _ < _; (try simp only [units_deeper, units_in1]); (try unfold cLine); omega))
local macro_rules | `(tactic| walk_at "FILL") => `(tactic| (have _fill : (fun (_ : OpenLaw) (_ : Params → Frag) => True) PySem.Challenge.rw_bn5031_01 hd.heap_39 := by k_fill; trivial))
local macro_rules | `(tactic| walk_at "LOOK") => `(tactic| first | assumption | exact if_pos rfl | (refine Eq.trans (if_neg (by decide)) ?_; walk_at "LOOK"))
local macro_rules | `(tactic| k_mem) => `(tactic| first | assumption | (refine List.Mem.tail _ ?_; k_mem))
local macro_rules | `(tactic| walk_at "eval Name") => `(tactic| (k_here; (fail_if_success (with_reducible show wpAny _ _ (eval (Expr.Name (Str.ofString "held") _) _) _ _ _)); (fail_if_success (with_reducible show wpAny _ _ (eval (Expr.Name (Str.ofString "len") _) _) _ _ _)); (fail_if_success (with_reducible show wpAny _ _ (eval (Expr.Name (Str.ofString "sorted") _) _) _ _ _)); k_dflt (refine' ld ?k1 ?k2 ?_; (case k1 => k_asm); (case k2 => walk_at "LOOK"); k_whole)))
local macro_rules | `(tactic| k_all) => `(tactic| with_reducible assumption)
local macro_rules | `(tactic| walk_at "subscriptTail") => `(tactic| (k_here; (with_reducible show wpAny _ _ (subscriptTail _ _ (Value.ref _) (Value.int _ _)) _ _ _); k_dflt (refine' sub_at ?k1 ?k2 ?k3 ?k4 ?k5 ?_ ?k7; (case k1 => k_asm); (case k2 => k_mem); (case k5 => exact rfl); (case k3 => decide); (case k4 => decide); (case k7 => with_unfolding_all rfl); k_whole)))
local macro_rules | `(tactic| walk_at "call builtin:len") => `(tactic| (k_here; (with_reducible show wpAny _ _ (call (Value.builtin "len") [Value.ref _]) _ _ _); k_dflt (refine' KM.len_K ?N ?hm ?hs ?hf ?_; (case N => k_asm); (case hm => k_mem); (case hs => assumption); (case hf => assumption); k_whole)))
local macro_rules | `(tactic| walk_at "isTrue BoolOp") => `(tactic| (k_here; (try dsimp only); k_gentoks; walk_at "isTrue BoolOp"))
local macro_rules | `(tactic| walk_at "eval ListComp") => `(tactic| (k_here; refine hold ?_))
section
variable {w : World} {A₀ : Around} {base h₀ : Heap} {outer : List Env} {L fa : Addr} {cd : Value} {m : Str → Option Value} {p : Program} {loose : List Str} {mean : ExcName → Option Value} {mg mb : Str → Option Value} {s : Shared} {E : Value → Shared → Prop} {Q : Flow → Shared → Prop}
    {dp un : Nat} {gd : Option (List Code)} {news : List (Addr × Obj)} {sc : Scope} {st : Stmt}
theorem full6 {lm cm : Nat} {m0 m1 m2 k bf wide full : Int} {u0 u1 u2 tk tb tw tf : Tok}
    (hsc : sc = lawScope) (hst : st = stOf (nth loopBody 6))
    (F : Fr h₀ L s.heap m) (X₀ : (hd.heap_39 w.params).In h₀) (N : News h₀ L s.heap news) (T : Top p loose mean mg mb h₀)
    (hM : (lm, listOf [.int m0 u0, .int m1 u1, .int m2 u2].toArray cm) ∈ news)
    (hms : m (Str.ofString "missed") = some (.ref lm)) (hk : m (Str.ofString "k") = some (.int k tk))
    (hbf : m (Str.ofString "before") = some (.int bf tb)) (hw : m (Str.ofString "wide") = some (.int wide tw)) (hfu : m (Str.ofString "full") = some (.int full tf))
    (hE : PassesOwn (MO w) (Ar dp (envOfC (Str.ofString "law") sc L fa cd :: outer) gd un) (envOfC (Str.ofString "law") sc L fa cd) E)
    (h : ∀ h' tk m' tf', (∀ y, y ≠ Str.ofString "full" → m' y = m y) → m' (Str.ofString "full") = some (.int (if bf < m1 then (if full < wide then full + 1 else k) else full) tf') → Fr h₀ L h' m' → News h₀ L h' news → Q .next { s with heap := h', toks := tk }) :
    wpAny (MO w) (Ar dp (envOfC (Str.ofString "law") sc L fa cd :: outer) gd un) (exec st (envOfC (Str.ofString "law") sc L fa cd)) Q E s := by
  walk_at "FILL"
  conv at hsc => rhs; whnf
  conv at hst => rhs; whnf
  subst hsc
  subst hst
  k_steps
  all_goals (try k_data)
  · have hv : (if bf < m1 then (if full < wide then full + 1 else k) else full) = full + 1 := by rw [if_pos (show bf < m1 by omega), if_pos (show full < wide by omega)]
    exact h _ _ _ _ (fun y q => if_neg q) ((if_pos rfl).trans (congrArg (fun z => some (Value.int z _)) hv.symm)) (by assumption) (by assumption)
  · have hv : (if bf < m1 then (if full < wide then full + 1 else k) else full) = k := by rw [if_pos (show bf < m1 by omega), if_neg (show ¬ full < wide by omega)]
    exact h _ _ _ _ (fun y q => if_neg q) ((if_pos rfl).trans (congrArg (fun z => some (Value.int z _)) hv.symm)) (by assumption) (by assumption)
  · refine h s.heap _ m tf (fun y q => rfl) ?_ (by assumption) (by assumption)
    rw [if_neg (show ¬ bf < m1 by omega)]; assumption
end
section
variable {w : World} {A₀ : Around} {base h₀ : Heap} {outer : List Env} {L fa : Addr} {cd : Value} {m : Str → Option Value} {p : Program} {loose : List Str} {mean : ExcName → Option Value} {mg mb : Str → Option Value} {s : Shared} {E : Value → Shared → Prop} {Q : Flow → Shared → Prop}
    {dp un : Nat} {gd : Option (List Code)} {news rest : List (Addr × Obj)} {sc : Scope} {st : Stmt}
theorem sorted_turn {C : Cache} {I Cc D : Nat} {oI oC oD : Obj} {r : List (Addr × Obj)} {env : Env} {Q : Value → Shared → Prop} (B : Below A₀ base outer h₀) (F : Fr h₀ L s.heap m) (X₀ : (hd.heap_39 w.params).In h₀) (T : Top p loose mean mg mb h₀) (hf : env.frame = some L) (hke : env.scope.kind = .function) (hdp : dp < 700) (hun : un < 2500)
    (N : News h₀ L s.heap ((I, oI) :: (Cc, oC) :: (D, oD) :: news)) (hp : news.Perm (C.led w ++ r)) (nd : (news.map (·.1) : List Nat).Nodup) (off : LCg.Off3 I Cc D news) (ne : (@Ne Nat I Cc) ∧ (@Ne Nat I D) ∧ (@Ne Nat Cc D)) (h20 : C.ents.length ≤ 20) (ok : C.Ok w)
    (h : ∀ Dn c h' tk (vs : List Value) (ns : List Int), Fr h₀ L h' m → News h₀ L h' ((I, oI) :: (Cc, oC) :: (D, oD) :: (Dn, listOf vs.toArray c) :: news) → LCg.Off3 I Cc D ((Dn, listOf vs.toArray c) :: news) → ((((Dn, listOf vs.toArray c) :: news).map (·.1) : List Nat)).Nodup → IntsAre vs ns → ns.Perm (C.ents.map Ent.key) → Q (.ref Dn) { s with heap := h', toks := tk }) :
    wpAny (MO w) (Ar dp (env :: outer) gd un) (call (.builtin "sorted") [.ref C.c]) Q E s := by
  have om := off.mem
  have nd3 : (((I, oI) :: (Cc, oC) :: (D, oD) :: news).map (·.1) : List Nat).Nodup := by
    simp only [List.map_cons, List.nodup_cons, List.mem_cons, not_or]
    refine ⟨⟨ne.1, ne.2.1, fun hm => ?_⟩, ⟨ne.2.2, fun hm => ?_⟩, fun hm => ?_, nd⟩
    · obtain ⟨q, hq, e⟩ := List.mem_map.mp hm; exact (om q hq).1 e
    · obtain ⟨q, hq, e⟩ := List.mem_map.mp hm; exact (om q hq).2.1 e
    · obtain ⟨q, hq, e⟩ := List.mem_map.mp hm; exact (om q hq).2.2 e
  have LL : Led h₀ L s.heap ((I, oI) :: (Cc, oC) :: (D, oD) :: news) := ⟨N, nd3⟩
  have pp : ((I, oI) :: (Cc, oC) :: (D, oD) :: news).Perm (C.led w ++ ((I, oI) :: (Cc, oC) :: (D, oD) :: r)) := by
    refine (((hp.cons _).cons _).cons _).trans ?_
    classical
    exact List.perm_iff_count.mpr fun t => by simp only [List.count_append, List.count_cons]; omega
  refine sorted_cache B F X₀ (LL.perm pp) T hf hke hdp hun h20 ok fun Dn c h' tk vs ns F' L' lt i1 p1 _ => ?_
  have L2 : Led h₀ L h' ((Dn, listOf vs.toArray c) :: (I, oI) :: (Cc, oC) :: (D, oD) :: news) := L'.perm (pp.symm.cons _)
  have hne := led_cons_ne L2
  have ltI : @Ne Nat Dn I := fun e => hne _ (.head _) e.symm
  have ltC : @Ne Nat Dn Cc := fun e => hne _ (.tail _ (.head _)) e.symm
  have ltD : @Ne Nat Dn D := fun e => hne _ (.tail _ (.tail _ (.head _))) e.symm
  refine h Dn c h' tk vs ns F' (news_sub L2.1 fun q hq => ?_) ⟨⟨ltI, ltC, ltD⟩, off⟩ ?_ i1 p1
  · simp only [List.mem_cons] at hq ⊢
    rcases hq with e | e | e | e | e <;> simp [e]
  · rw [List.map_cons, List.nodup_cons]
    refine ⟨fun hm => ?_, nd⟩
    obtain ⟨q, hq, e⟩ := List.mem_map.mp hm
    exact hne q (.tail _ (.tail _ (.tail _ hq))) e
local macro_rules | `(tactic| walk_at "call builtin:sorted") => `(tactic| (k_here; refine hold ?_))
theorem held5 {lc cc : Nat} {co : Obj} {cv : Option Value} {C0 C1 C2 : Cache}
    (hsc : sc = lawScope) (hst : st = stOf (nth loopBody 5))
    (B : Below A₀ base outer h₀) (F : Fr h₀ L s.heap m) (X₀ : (hd.heap_39 w.params).In h₀) (N : Led h₀ L s.heap (C0.led w ++ (C1.led w ++ (C2.led w ++ ((L + 1, co) :: (lc, listOf [.ref C0.c, .ref C1.c, .ref C2.c].toArray cc) :: rest))))) (T : Top p loose mean mg mb h₀)
    (hdp : dp < 400) (hun : un < 1000) (hco : co.data = .cell cv)
    (hcs : m (Str.ofString "caches") = some (.ref lc)) (ok0 : C0.Ok w) (ok1 : C1.Ok w) (ok2 : C2.Ok w) (z0 : C0.ents.length ≤ 20) (z1 : C1.ents.length ≤ 20) (z2 : C2.ents.length ≤ 20)
    (hE : PassesOwn (MO w) (Ar dp (envOfC (Str.ofString "law") sc L fa cd :: outer) gd un) (envOfC (Str.ofString "law") sc L fa cd) E)
    (h : ∀ h' tk co' H D0 D1 D2 cH c0 c1 c2 vs0 vs1 vs2 ns0 ns1 ns2, co'.data = .cell (some (.ref H)) → IntsAre vs0 ns0 → IntsAre vs1 ns1 → IntsAre vs2 ns2 → ns0.Perm (C0.ents.map Ent.key) → ns1.Perm (C1.ents.map Ent.key) → ns2.Perm (C2.ents.map Ent.key) → Fr h₀ L h' m →
      Led h₀ L h' (C0.led w ++ (C1.led w ++ (C2.led w ++ ((L + 1, co') :: (lc, listOf [.ref C0.c, .ref C1.c, .ref C2.c].toArray cc) :: rest)))) →
      News h₀ L h' [(H, listOf [.ref D0, .ref D1, .ref D2].toArray cH), (D0, listOf vs0.toArray c0), (D1, listOf vs1.toArray c1), (D2, listOf vs2.toArray c2)] → Q .next { s with heap := h', toks := tk }) :
    wpAny (MO w) (Ar dp (envOfC (Str.ofString "law") sc L fa cd :: outer) gd un) (exec st (envOfC (Str.ofString "law") sc L fa cd)) Q E s := by
  walk_at "FILL"
  conv at hsc => rhs; whnf
  conv at hst => rhs; whnf
  subst hsc
  subst hst
  have hlc : (lc, listOf [.ref C0.c, .ref C1.c, .ref C2.c].toArray cc) ∈ C0.led w ++ (C1.led w ++ (C2.led w ++ ((L + 1, co) :: (lc, listOf [.ref C0.c, .ref C1.c, .ref C2.c].toArray cc) :: rest))) :=
    List.mem_append_right _ (List.mem_append_right _ (List.mem_append_right _ (.tail _ (.head _))))
  have N1 := N.1
  k_steps
  refine (?_ : wpAny _ _ (eval _ _) _ _ _)
  refine LCg.ListComp_U (F₀ := by k_asm) (by with_unfolding_all rfl) (by decide) (by rfl) (by decide) (by rfl) ?_
  k_steps
  all_goals (try k_data)
  rename News h₀ L _ _ => N2
  rename Fr h₀ L _ _ => F2
  rename LCg.Off3 _ _ _ _ => off2
  rename _ ∧ _ ∧ _ => ne2
  show wpAny _ _ (call (Value.builtin "sorted") _) _ _ _
  refine' sorted_turn (C := C0) (dp := dp) (un := un) B F2 X₀ T rfl rfl (by omega) (by omega) N2 (List.Perm.refl _) N.2 off2 ne2 z0 ok0 ?_
  intro D0 c0 h3 tk3 vs0 ns0 F3 N3 off3 nd3 i0 p0
  refine ⟨_, _, _, rfl, F3, N3, off3, .inr ⟨_, .tail _ hlc, rfl, _, rfl⟩, ?_⟩
  k_steps
  clear N2 F2 off2 ne2 N3 F3
  rename News h₀ L _ _ => N2
  rename Fr h₀ L _ _ => F2
  rename _ ∧ LCg.Off3 _ _ _ _ => off2
  rename _ ∧ _ ∧ _ => ne2
  show wpAny _ _ (call (Value.builtin "sorted") _) _ _ _
  refine' sorted_turn (C := C1) (r := (D0, listOf vs0.toArray c0) :: (C0.led w ++ (C2.led w ++ ((L + 1, co) :: (lc, listOf [.ref C0.c, .ref C1.c, .ref C2.c].toArray cc) :: rest)))) (dp := dp) (un := un) B F2 X₀ T rfl rfl (by omega) (by omega) N2 ?pm nd3 off2 ne2 z1 ok1 ?_
  case pm =>
    classical
    exact List.perm_iff_count.mpr fun t => by simp only [List.count_append, List.count_cons]; omega
  intro D1 c1 h3 tk3 vs1 ns1 F3 N3 off4 nd4 i1 p1
  refine ⟨_, _, _, rfl, F3, N3, off4, .inr ⟨_, .tail _ (.tail _ hlc), rfl, _, rfl⟩, ?_⟩
  k_steps
  clear N2 F2 off2 ne2 N3 F3
  rename News h₀ L _ _ => N2
  rename Fr h₀ L _ _ => F2
  rename _ ∧ _ ∧ LCg.Off3 _ _ _ _ => off2
  rename _ ∧ _ ∧ _ => ne2
  show wpAny _ _ (call (Value.builtin "sorted") _) _ _ _
  refine' sorted_turn (C := C2) (r := (D1, listOf vs1.toArray c1) :: (D0, listOf vs0.toArray c0) :: (C0.led w ++ (C1.led w ++ ((L + 1, co) :: (lc, listOf [.ref C0.c, .ref C1.c, .ref C2.c].toArray cc) :: rest)))) (dp := dp) (un := un) B F2 X₀ T rfl rfl (by omega) (by omega) N2 ?pm2 nd4 off2 ne2 z2 ok2 ?_
  case pm2 =>
    classical
    exact List.perm_iff_count.mpr fun t => by simp only [List.count_append, List.count_cons]; omega
  intro D2 c2 h3 tk3 vs2 ns2 F3 N3 off5 nd5 i2 p2
  refine ⟨_, _, _, rfl, F3, N3, off5, .inr ⟨_, .tail _ (.tail _ (.tail _ hlc)), rfl, _, rfl⟩, ?_⟩
  clear N2 F2 off2 ne2 N3 F3
  refine LCg.CompRest.zero ?_
  intro H h6 tk6 F6 N6 oH
  dsimp only
  obtain ⟨tl, htl⟩ : ∃ tl, tl = C0.led w ++ (C1.led w ++ (C2.led w ++ ((lc, listOf [.ref C0.c, .ref C1.c, .ref C2.c].toArray cc) :: rest))) := ⟨_, rfl⟩
  have pmC : ∀ co' : Obj, (C0.led w ++ (C1.led w ++ (C2.led w ++ ((L + 1, co') :: (lc, listOf [.ref C0.c, .ref C1.c, .ref C2.c].toArray cc) :: rest)))).Perm ((L + 1, co') :: tl) := by
    intro co'
    subst htl
    classical
    exact List.perm_iff_count.mpr fun t => by simp only [List.count_append, List.count_cons]; omega
  have ndt : ((((L + 1, co) :: tl).map (·.1)) : List Nat).Nodup := ((pmC co).map _).nodup_iff.mp N.2
  have hoff : ∀ q ∈ tl, q.1 ≠ L + 1 := fun q hq e => by
    rw [List.map_cons, List.nodup_cons] at ndt
    exact ndt.1 (List.mem_map.mpr ⟨q, hq, e⟩)
  have nd5' := nd5
  have N7 : News h₀ L h6 ((L + 1, co) :: (H, LCg.lst [.ref D0, .ref D1, .ref D2]) :: (D0, listOf vs0.toArray c0) :: (D1, listOf vs1.toArray c1) :: (D2, listOf vs2.toArray c2) :: tl) := by
    refine news_sub N6 fun q hq => ?_
    have hc : ∀ q, q ∈ (L + 1, co) :: tl → q ∈ C0.led w ++ (C1.led w ++ (C2.led w ++ ((L + 1, co) :: (lc, listOf [.ref C0.c, .ref C1.c, .ref C2.c].toArray cc) :: rest))) := fun q hq => (pmC co).mem_iff.mpr hq
    have := hc q
    simp only [List.mem_cons] at hq this ⊢
    rcases hq with e | e | e | e | e | e <;> simp [e] <;> simp [e] at this <;> simp [this]
  have hbig : (L + 1, co) ∈ C0.led w ++ (C1.led w ++ (C2.led w ++ ((L + 1, co) :: (lc, listOf [.ref C0.c, .ref C1.c, .ref C2.c].toArray cc) :: rest))) := (pmC co).mem_iff.mpr (.head _)
  have hbm := List.mem_map_of_mem (f := fun q : Addr × Obj => q.1) hbig
  have nH : @Ne Nat (L + 1) H := (show ∀ {l : List (Addr × Obj)}, LCg.Off1 H l → ∀ q ∈ l, @Ne Nat q.1 H from fun {l} => by
    induction l with
    | nil => intro _ q hq; cases hq
    | cons a r ih =>
      intro ho q hq
      rcases List.mem_cons.mp hq with rfl | hq
      · exact ho.1
      · exact ih ho.2 q hq) oH _ (.tail _ (.tail _ (.tail _ hbig)))
  simp only [List.map_cons, List.nodup_cons, List.mem_cons, not_or] at nd5
  obtain ⟨⟨_, _, q2⟩, ⟨_, q1⟩, q0, _⟩ := nd5
  have hoff7 : ∀ q ∈ ((H, LCg.lst [.ref D0, .ref D1, .ref D2]) :: (D0, listOf vs0.toArray c0) :: (D1, listOf vs1.toArray c1) :: (D2, listOf vs2.toArray c2) :: tl), q.1 ≠ L + 1 := fun q hq e => by
    simp only [List.mem_cons] at hq
    rcases hq with rfl | rfl | rfl | rfl | hq
    · exact nH e.symm
    · exact q0 (by rw [show D0 = L + 1 from e]; exact hbm)
    · exact q1 (by rw [show D1 = L + 1 from e]; exact hbm)
    · exact q2 (by rw [show D2 = L + 1 from e]; exact hbm)
    · exact hoff q hq e
  clear N6
  k_steps
  all_goals (try k_data)
  rename News h₀ L _ _ => N8
  rename _ = Data.cell _ => hcell
  refine h _ _ _ H D0 D1 D2 3 c0 c1 c2 vs0 vs1 vs2 ns0 ns1 ns2 hcell i0 i1 i2 p0 p1 p2 (by assumption) (led_back (pmC _) (news_sub N8 fun q hq => ?_) ?_) (news_sub N8 fun q hq => ?_)
  · simp only [List.mem_cons] at hq ⊢
    rcases hq with e | e <;> simp [e]
  · have nn := ((pmC co).map (·.1)).nodup_iff.mp N.2
    refine ((pmC ?_).map (·.1)).nodup_iff.mpr ?_; rotate_left; exact nn
  · simp only [List.mem_cons, List.not_mem_nil, or_false] at hq ⊢
    rcases hq with e | e | e | e <;> simp [e]
end
end Mine

namespace Mine
section
local macro_rules | `(tactic| walk_at "RESET") => `(tactic| trivial)
local macro_rules | `(tactic| walk_at "RESET") => `(tactic| trivial)
local macro_rules | `(tactic| walk_at "RESET") => `(tactic| trivial)
local macro_rules | `(tactic| walk_at "RESET") => `(tactic| trivial)
local macro_rules | `(tactic| walk_at "RESET") => `(tactic| trivial)
local macro_rules | `(tactic| walk_at "RESET") => `(tactic| trivial)
local macro_rules | `(tactic| walk_at "RESET") => `(tactic| trivial)
local macro_rules | `(tactic| walk_at "RESET") => `(tactic| trivial)
local macro_rules | `(tactic| walk_at "RESET") => `(tactic| trivial)
local macro_rules | `(tactic| walk_at "RESET") => `(tactic| trivial)
local macro_rules | `(tactic| walk_at "RESET") => `(tactic| trivial)
local macro_rules | `(tactic| walk_at "RESET") => `(tactic| trivial)
local macro_rules | `(tactic| walk_at "RESET") => `(tactic| trivial)
local macro_rules | `(tactic| walk_at "RESET") => `(tactic| trivial)
local macro_rules | `(tactic| walk_at "RESET") => `(tactic| trivial)
local macro_rules | `(tactic| walk_at "RESET") => `(tactic| trivial)
local macro_rules | `(tactic| walk_at "RESET") => `(tactic| trivial)
local macro_rules | `(tactic| walk_at "RESET") => `(tactic| trivial)
local macro_rules | `(tactic| walk_at "RESET") => `(tactic| trivial)
local macro_rules | `(tactic| walk_at "RESET") => `(tactic| trivial)
local macro_rules | `(tactic| walk_at "RESET") => `(tactic| trivial)
local macro_rules | `(tactic| walk_at "RESET") => `(tactic| trivial)
local macro_rules | `(tactic| walk_at "RESET") => `(tactic| trivial)
local macro_rules | `(tactic| walk_at "RESET") => `(tactic| trivial)
theorem resetL13 : True := by
  w_top off
  first | walk1 | trivial
end
end Mine

namespace Mine
local macro_rules | `(tactic| k_room) => `(tactic| (show _ < _; (try simp only [depth_under_make, depth_under_kw, depth_in1, depth_deeper, depth_caller]); (try unfold recursionLimit); omega))
local macro_rules | `(tactic| k_units) => `(tactic| (show _ < _; (try simp only [units_deeper, units_in1]); (try unfold cLine); omega))
local macro_rules | `(tactic| walk_at "FILL") => `(tactic| (have _fill : (fun (_ : OpenLaw) (_ : Params → Frag) => True) PySem.Challenge.rw_bn5031_01 hd.heap_39 := by k_fill; trivial))
local macro_rules | `(tactic| walk_at "LOOK") => `(tactic| first | assumption | exact if_pos rfl | (refine Eq.trans (if_neg (by decide)) ?_; walk_at "LOOK"))
local macro_rules | `(tactic| k_mem) => `(tactic| first | assumption | (refine List.Mem.tail _ ?_; k_mem))
local macro_rules | `(tactic| walk_at "eval Name") => `(tactic| (k_here; (fail_if_success (with_reducible show wpAny _ _ (eval (Expr.Name (Str.ofString "held") _) _) _ _ _)); (fail_if_success (with_reducible show wpAny _ _ (eval (Expr.Name (Str.ofString "len") _) _) _ _ _)); (fail_if_success (with_reducible show wpAny _ _ (eval (Expr.Name (Str.ofString "sorted") _) _) _ _ _)); k_dflt (refine' ld ?k1 ?k2 ?_; (case k1 => k_asm); (case k2 => walk_at "LOOK"); k_whole)))
local macro_rules | `(tactic| k_all) => `(tactic| with_reducible assumption)
local macro_rules | `(tactic| walk_at "subscriptTail") => `(tactic| (k_here; (with_reducible show wpAny _ _ (subscriptTail _ _ (Value.ref _) (Value.int _ _)) _ _ _); k_dflt (refine' sub_at ?k1 ?k2 ?k3 ?k4 ?k5 ?_ ?k7; (case k1 => k_asm); (case k2 => k_mem); (case k5 => exact rfl); (case k3 => decide); (case k4 => decide); (case k7 => with_unfolding_all rfl); k_whole)))
local macro_rules | `(tactic| walk_at "call builtin:len") => `(tactic| (k_here; (with_reducible show wpAny _ _ (call (Value.builtin "len") [Value.ref _]) _ _ _); k_dflt (refine' KM.len_K ?N ?hm ?hs ?hf ?_; (case N => k_asm); (case hm => k_mem); (case hs => assumption); (case hf => assumption); k_whole)))
local macro_rules | `(tactic| walk_at "isTrue BoolOp") => `(tactic| (k_here; (try dsimp only); k_gentoks; walk_at "isTrue BoolOp"))
local macro_rules | `(tactic| walk_at "eval ListComp") => `(tactic| (k_here; refine hold ?_))
local macro_rules | `(tactic| walk_at "pyIter ref") => `(tactic| (k_here; refine hold ?_))
section
variable {prog : Program} {w : World} {A : Around} {E : Value → Shared → Prop} {s : Shared} {env : Env} {h₀ : Heap} {x : Str} {body : List Stmt} {Q : Flow → Shared → Prop}
theorem iter_rng {r : Addr} {a₀ b₀ : Int} {t₀ u₀ v₀ : Tok} {n : Nat} {m₀ : Str → Option Value} {news : List (Addr × Obj)} (J : Nat → (Str → Option Value) → List (Addr × Obj) → Prop)
    (hh : A.handled = none) (hr : IsRange s.heap r a₀ b₀ 1 t₀ u₀ v₀) (hsmall : Builtin.Range.small a₀ b₀ 1 = true) (hn : Builtin.Range.rangeSize a₀ b₀ 1 = (n : Int)) (F : Fr h₀ env.locals s.heap m₀) (N : News h₀ env.locals s.heap news) (hj : J 0 m₀ news)
    (turn : ∀ i t m₁ news₁ h tk it oi, i < n → J i m₁ news₁ → Fr h₀ env.locals h (fun y => if y = x then some (.int (a₀ + (i : Nat)) t) else m₁ y) → News h₀ env.locals h (news₁ ++ [(it, oi)]) → (∀ p ∈ news₁, p.1 ≠ it) →
      wpAny (model prog w) A (execs body env) (TurnPost h₀ env.locals (J (i + 1)) [(it, oi)] { s with heap := h, toks := tk } Q) E { s with heap := h, toks := tk })
    (done : ∀ m₁ news₁ h tk, J n m₁ news₁ → Fr h₀ env.locals h m₁ → News h₀ env.locals h news₁ → Q .next { s with heap := h, toks := tk }) :
    wpAny (model prog w) A (pyIter (.ref r)) (fun it s₂ => LoopAtV prog w A h₀ env x body Q E it s₂) E s := by
  have hLs : env.locals < s.heap.objs.size := F.ns.lt
  have h0s : h₀.get? s.heap.objs.size = none := Heap.get?_none_of_le (Nat.le_trans F.above (Nat.le_of_lt hLs))
  refine wpAny_pyIter_range hr hsmall ?_
  have W : Walks prog w A s.heap.objs.size [s.heap.objs.size] [s.heap.objs.size] n (fun i v => i < n ∧ ∃ t, v = .int (a₀ + i * 1) t)
      (fun i h => IsRangeIter h s.heap.objs.size (a₀ + (i : Nat) * 1) ((n : Int) - (i : Nat)) 1) := (Walks.range hh _ a₀ 1 n).bound
  refine ⟨_, _, _, n, _, _, m₀, news, J, rfl, W, ?_, ?_, ?_, (by show IsRangeIter _ _ _ _ _; rw [hn]; simpa using Heap.get?_push_size _ rfl), F.push _, (fun p hp => ⟨Heap.get?_push_of_some _ (N p hp).1, (N p hp).2⟩), hj, ?_, ?_⟩
  · intro hm
    exact Nat.ne_of_lt hLs (List.mem_singleton.mp hm)
  · intro b hb
    rw [List.mem_singleton.mp hb]
    exact h0s
  · intro p hp hI
    exact Nat.ne_of_lt (Heap.lt_size (N p hp).1) (List.mem_singleton.mp hI)
  · rintro i v m₁ news₁ s₁ own ⟨hh', tk', rfl⟩ hin ⟨_, t, rfl⟩ hJ hoff hown hat hall st F₁ N₁
    obtain ⟨oi, hoi⟩ : ∃ o, hh'.get? s.heap.objs.size = some o := ⟨_, st⟩
    have hIown := hall _ (List.mem_singleton.mpr rfl) h0s _ hoi
    have hap : ∀ p ∈ news₁, p.1 ≠ s.heap.objs.size := fun p hp q => hoff p hp (q ▸ List.mem_singleton.mpr rfl)
    have N₂ := (show News h₀ env.locals hh' (news₁ ++ [(s.heap.objs.size, oi)]) from fun p hp => by
      rcases List.mem_append.mp hp with hp | hp
      · exact N₁ p (List.mem_append_right _ hp)
      · rw [List.mem_singleton.mp hp]; exact N₁ _ (List.mem_append_left _ hIown))
    have hlo : ∀ p ∈ own, p = (s.heap.objs.size, oi) := fun p hp => by
      have e1 := (N₁ p (List.mem_append_left _ hp)).1
      have q := List.mem_singleton.mp (hown p hp)
      rw [q] at e1
      exact Prod.ext q (Option.some.inj (e1.symm.trans hoi))
    rw [Int.mul_one] at F₁
    refine wpAny_mono (turn i t m₁ news₁ hh' tk' s.heap.objs.size oi hin hJ F₁ N₂ hap) (fun f s₂ p => ?_) fun _ _ e => e
    have fin : TurnEnd h₀ env.locals (J (i + 1)) [(s.heap.objs.size, oi)] { s with heap := hh', toks := tk' } s₂ → LoopStepU h₀ env.locals [s.heap.objs.size] own (J (i + 1)) { s with heap := hh', toks := tk' } .next s₂ := by
      rintro ⟨h', tk, m', news', e, F', N', ha, hm⟩
      refine ⟨rfl, h', tk, m', news', e, F', fun p hp => ?_, fun p hp hq => ?_, hm⟩
      · rcases List.mem_append.mp hp with hp | hp
        · rw [hlo p hp]; exact N' _ (List.mem_append_right _ (List.mem_singleton.mpr rfl))
        · exact N' p (List.mem_append_left _ hp)
      · exact ha p hp _ (List.mem_singleton.mpr rfl) (List.mem_singleton.mp hq)
    cases f with
    | ret v => exact .ret p
    | brk => exact .brk p
    | next => exact .next (fin p)
    | cont => exact .cont (fin p)
  · rintro h' tk m' news' F' N' _ hJ
    exact done m' news' h' tk hJ F' N'
end
section
variable {w : World} {A₀ : Around} {base h₀ : Heap} {outer : List Env} {L fa : Addr} {cd : Value} {m : Str → Option Value} {p : Program} {loose : List Str} {mean : ExcName → Option Value} {mg mb : Str → Option Value} {s : Shared} {E : Value → Shared → Prop} {Q : Flow → Shared → Prop}
    {dp un : Nat} {gd : Option (List Code)} {news rest : List (Addr × Obj)} {sc : Scope} {st : Stmt}
/-- what a cache is at all times -/
structure Good (w : World) (lim : Nat → Bool) (C : Cache) : Prop where
  thr : Nonempty (Thr w C.cap C.thr lim)
  h20 : C.ents.length + 1 ≤ 20
  nc : (C.ents.map Ent.cnt).Nodup
  hct : ∀ x ∈ C.ents, x.cnt ≤ C.ctr
  h1 : lim (C.ents.length + 1) = true → 1 ≤ C.ents.length ∧ lim (min C.cap.toNat (C.ents.length + 1)) = false
  hc0 : 0 ≤ C.cap
  ok : C.Ok w
  hsv : ∀ x ∈ C.ents, x.sv = Txt.mul (Str.ofString "v") x.key
theorem Acc.c {w : World} {lim : Nat → Bool} {C C' : Cache} {pg i : Int} {ms ms' : List Int} (h : Acc w lim C pg i ms C' ms') : C'.c = C.c ∧ (ms.length = 3 → ms'.length = 3) := by
  rcases h with ⟨e1, e, e2, t1, t2, n, _, _, rfl, rfl⟩ | ⟨_, ⟨e, t1, o1, _, _, _, _, h⟩, rfl⟩
  · exact ⟨rfl, id⟩
  · rcases h with ⟨_, rfl⟩ | ⟨_, sd, o, _, _, _, rfl⟩
    · exact ⟨rfl, fun h => by rw [List.length_set]; exact h⟩
    · exact ⟨rfl, fun h => by rw [List.length_set]; exact h⟩
theorem led_tmp {h₀ h : Heap} {L : Nat} {a : List (Addr × Obj)} {it : Nat} {oi : Obj} (N : News h₀ L h (a ++ [(it, oi)])) (nd : (a.map (·.1) : List Nat).Nodup) (hap : ∀ p ∈ a, p.1 ≠ it) : Led h₀ L h (a ++ [(it, oi)]) := by
  refine ⟨N, ?_⟩
  rw [List.map_append, List.nodup_append]
  refine ⟨nd, by simp, fun x hx y hy q => ?_⟩
  obtain ⟨p, hp, rfl⟩ := List.mem_map.mp hx
  rw [List.map_singleton, List.mem_singleton] at hy
  exact hap p hp (q.trans hy)
theorem led_tmp_back {h₀ h : Heap} {L : Nat} {a : List (Addr × Obj)} {it : Nat} {oi : Obj} (H : Led h₀ L h (a ++ [(it, oi)])) : (∀ p ∈ a, ∀ q ∈ [(it, oi)], p.1 ≠ q.1) ∧ (a.map (·.1) : List Nat).Nodup := by
  refine ⟨fun p hp q hq e => ?_, H.nodup⟩
  rw [List.mem_singleton] at hq
  subst hq
  exact H.dis (it, oi) (.head _) (e ▸ List.mem_map_of_mem hp)
def Rel3 (w : World) (l0 l1 l2 : Nat → Bool) (pg : Int) (C0 C1 C2 : Cache) (ms : List Int) : Nat → Cache → Cache → Cache → List Int → Prop
  | 0, D0, D1, D2, ms' => D0 = C0 ∧ D1 = C1 ∧ D2 = C2 ∧ ms' = ms
  | 1, D0, D1, D2, ms' => Acc w l0 C0 pg 0 ms D0 ms' ∧ D1 = C1 ∧ D2 = C2
  | 2, D0, D1, D2, ms' => ∃ ms1, Acc w l0 C0 pg 0 ms D0 ms1 ∧ Acc w l1 C1 pg 1 ms1 D1 ms' ∧ D2 = C2
  | _, D0, D1, D2, ms' => ∃ ms1 ms2, Acc w l0 C0 pg 0 ms D0 ms1 ∧ Acc w l1 C1 pg 1 ms1 D1 ms2 ∧ Acc w l2 C2 pg 2 ms2 D2 ms'
def led3 (w : World) (D0 D1 D2 : Cache) (r : List (Addr × Obj)) : List (Addr × Obj) := D0.led w ++ (D1.led w ++ (D2.led w ++ r))
theorem three4 {lc lm cc cm : Nat} {C0 C1 C2 : Cache} {pg : Int} {tp : Tok} {csv vsm : List Value} {ms : List Int} {l0 l1 l2 : Nat → Bool}
    (hsc : sc = lawScope) (hst : st = stOf (nth loopBody 4))
    (B : Below A₀ base outer h₀) (F : Fr h₀ L s.heap m) (X₀ : (hd.heap_39 w.params).In h₀) (T : Top p loose mean mg mb h₀)
    (N : Led h₀ L s.heap (led3 w C0 C1 C2 ((lc, listOf csv.toArray cc) :: (lm, listOf vsm.toArray cm) :: rest)))
    (hdp : dp < 400) (hun : un < 1000) (x0 : csv[0]? = some (.ref C0.c)) (x1 : csv[1]? = some (.ref C1.c)) (x2 : csv[2]? = some (.ref C2.c)) (hm3 : ms.length = 3) (hms : IntsAre vsm ms) (g0 : Good w l0 C0) (g1 : Good w l1 C1) (g2 : Good w l2 C2) (hp0 : 0 ≤ pg) (hp9 : pg ≤ 20)
    (hcs : m (Str.ofString "caches") = some (.ref lc)) (hmsm : m (Str.ofString "missed") = some (.ref lm)) (hpg : m (Str.ofString "page") = some (.int pg tp))
    (hE : PassesOwn (MO w) (Ar dp (envOfC (Str.ofString "law") sc L fa cd :: outer) gd un) (envOfC (Str.ofString "law") sc L fa cd) E)
    (h : ∀ h' tk m' D0 D1 D2 vsm' ms', Rel3 w l0 l1 l2 pg C0 C1 C2 ms 3 D0 D1 D2 ms' → IntsAre vsm' ms' → ms'.length = 3 → D0.c = C0.c → D1.c = C1.c → D2.c = C2.c → (∀ y, y ≠ Str.ofString "n" → y ≠ Str.ofString "cache" → y ≠ Str.ofString "got" → m' y = m y) → Fr h₀ L h' m' →
      Led h₀ L h' (led3 w D0 D1 D2 ((lc, listOf csv.toArray cc) :: (lm, listOf vsm'.toArray cm) :: rest)) → Q .next { s with heap := h', toks := tk })
    :
    wpAny (MO w) (Ar dp (envOfC (Str.ofString "law") sc L fa cd :: outer) gd un) (exec st (envOfC (Str.ofString "law") sc L fa cd)) Q E s := by
  walk_at "FILL"
  conv at hsc => rhs; whnf
  conv at hst => rhs; whnf
  have hsc2 : sc = lawScope := hsc
  subst hst
  have N1 := N.1
  subst hsc
  k_steps
  rename IsRange _ _ _ _ _ _ _ _ => hr
  rename Fr h₀ L _ _ => F2
  rename News h₀ L _ _ => N2
  show wpAny _ _ (pyIter _) _ _ _
  refine iter_rng (n := 3) (fun i m₁ n₁ => ∃ D0 D1 D2 vsm' ms', Rel3 w l0 l1 l2 pg C0 C1 C2 ms i D0 D1 D2 ms' ∧ IntsAre vsm' ms' ∧ ms'.length = 3 ∧ (D0.c = C0.c ∧ D1.c = C1.c ∧ D2.c = C2.c) ∧ (∀ y, y ≠ Str.ofString "n" → y ≠ Str.ofString "cache" → y ≠ Str.ofString "got" → m₁ y = m y) ∧
      n₁ = led3 w D0 D1 D2 ((lc, listOf csv.toArray cc) :: (lm, listOf vsm'.toArray cm) :: rest) ∧ (n₁.map (·.1) : List Nat).Nodup) rfl hr (by decide) (by decide) F2 N2 ⟨C0, C1, C2, vsm, ms, ⟨rfl, rfl, rfl, rfl⟩, hms, hm3, ⟨rfl, rfl, rfl⟩, fun _ _ _ _ => rfl, rfl, N.2⟩ ?turn ?done
  case done =>
    rintro m₁ n₁ h' tk ⟨D0, D1, D2, vsm', ms', hrel, hi, hl, ⟨e0, e1, e2⟩, hm, rfl, nd⟩ F' N'
    exact h h' tk m₁ D0 D1 D2 vsm' ms' hrel hi hl e0 e1 e2 hm F' ⟨N', nd⟩
  case turn =>
    rintro i t m₁ n₁ h' tk it oi hi ⟨D0, D1, D2, vsm', ms', hrel, hii, hl, ⟨e0, e1, e2⟩, hm, rfl, nd⟩ F' N' hap
    have LL := led_tmp N' nd hap
    have q1 := (hm (Str.ofString "caches") (by decide) (by decide) (by decide)).trans hcs
    have q2 := (hm (Str.ofString "missed") (by decide) (by decide) (by decide)).trans hmsm
    have q3 := (hm (Str.ofString "page") (by decide) (by decide) (by decide)).trans hpg
    rcases (show i = 0 ∨ i = 1 ∨ i = 2 by omega) with rfl | rfl | rfl
    · obtain ⟨rfl, rfl, rfl, rfl⟩ := hrel
      have pm : ∀ (X : Cache) (v : List Value), (led3 w X D1 D2 ((lc, listOf csv.toArray cc) :: (lm, listOf v.toArray cm) :: rest) ++ [(it, oi)]).Perm (X.led w ++ ((lc, listOf csv.toArray cc) :: (lm, listOf v.toArray cm) :: (D1.led w ++ (D2.led w ++ (rest ++ [(it, oi)]))))) := by
        intro X v
        unfold led3
        classical
        exact List.perm_iff_count.mpr fun t => by simp only [List.count_append, List.count_cons]; omega
      obtain ⟨hT, h20, nc, hct, h1, hc0, ok, hsv⟩ := g0
      obtain ⟨hT⟩ := hT
      refine' inner_turn (C := D0) (lim := l0) (i := 0) (ti := t) (dp := dp) (un := un) (csv := csv) hsc2 rfl B F' X₀ (LL.perm (pm _ _)) T (by omega) (by omega) ?hcx (by decide) (by decide) hl hii ((if_neg (by decide)).trans q1) ((if_neg (by decide)).trans q2) ((if_neg (by decide)).trans q3) (if_pos rfl) hE hT h20 nc hct h1 hc0 ok hp0 hp9 hsv ?_
      case hcx => first | exact x0 | exact (x0.trans (by rw [e0]))
      intro h6 tk6 C' vsm6 ms6 m6 hacc hi6 hm6 F6 L6
      have hac := hacc.c
      have L7 := L6.perm (pm C' vsm6).symm
      obtain ⟨ha, nd6⟩ := led_tmp_back L7
      refine TurnEnd.intro F6 L7.1 ha ⟨C', D1, D2, vsm6, ms6, ⟨hacc, rfl, rfl⟩, hi6, hac.2 hl, ⟨hac.1, rfl, rfl⟩, fun y y1 y2 y3 => ?_, rfl, nd6⟩
      rw [hm6 y y2 y3]
      exact (if_neg y1).trans (hm y y1 y2 y3)
    · obtain ⟨ra, rfl, rfl⟩ := hrel
      have pm : ∀ (X : Cache) (v : List Value), (led3 w D0 X D2 ((lc, listOf csv.toArray cc) :: (lm, listOf v.toArray cm) :: rest) ++ [(it, oi)]).Perm (X.led w ++ ((lc, listOf csv.toArray cc) :: (lm, listOf v.toArray cm) :: (D0.led w ++ (D2.led w ++ (rest ++ [(it, oi)]))))) := by
        intro X v
        unfold led3
        classical
        exact List.perm_iff_count.mpr fun t => by simp only [List.count_append, List.count_cons]; omega
      obtain ⟨hT, h20, nc, hct, h1, hc0, ok, hsv⟩ := g1
      obtain ⟨hT⟩ := hT
      refine' inner_turn (C := D1) (lim := l1) (i := 1) (ti := t) (dp := dp) (un := un) (csv := csv) hsc2 rfl B F' X₀ (LL.perm (pm _ _)) T (by omega) (by omega) ?hcx (by decide) (by decide) hl hii ((if_neg (by decide)).trans q1) ((if_neg (by decide)).trans q2) ((if_neg (by decide)).trans q3) (if_pos rfl) hE hT h20 nc hct h1 hc0 ok hp0 hp9 hsv ?_
      case hcx => first | exact x1 | exact (x1.trans (by rw [e1]))
      intro h6 tk6 C' vsm6 ms6 m6 hacc hi6 hm6 F6 L6
      have hac := hacc.c
      have L7 := L6.perm (pm C' vsm6).symm
      obtain ⟨ha, nd6⟩ := led_tmp_back L7
      refine TurnEnd.intro F6 L7.1 ha ⟨D0, C', D2, vsm6, ms6, ⟨_, ra, hacc, rfl⟩, hi6, hac.2 hl, ⟨e0, hac.1, rfl⟩, fun y y1 y2 y3 => ?_, rfl, nd6⟩
      rw [hm6 y y2 y3]
      exact (if_neg y1).trans (hm y y1 y2 y3)
    · obtain ⟨ms1, ra, rb, rfl⟩ := hrel
      have pm : ∀ (X : Cache) (v : List Value), (led3 w D0 D1 X ((lc, listOf csv.toArray cc) :: (lm, listOf v.toArray cm) :: rest) ++ [(it, oi)]).Perm (X.led w ++ ((lc, listOf csv.toArray cc) :: (lm, listOf v.toArray cm) :: (D0.led w ++ (D1.led w ++ (rest ++ [(it, oi)]))))) := by
        intro X v
        unfold led3
        classical
        exact List.perm_iff_count.mpr fun t => by simp only [List.count_append, List.count_cons]; omega
      obtain ⟨hT, h20, nc, hct, h1, hc0, ok, hsv⟩ := g2
      obtain ⟨hT⟩ := hT
      refine' inner_turn (C := D2) (lim := l2) (i := 2) (ti := t) (dp := dp) (un := un) (csv := csv) hsc2 rfl B F' X₀ (LL.perm (pm _ _)) T (by omega) (by omega) ?hcx (by decide) (by decide) hl hii ((if_neg (by decide)).trans q1) ((if_neg (by decide)).trans q2) ((if_neg (by decide)).trans q3) (if_pos rfl) hE hT h20 nc hct h1 hc0 ok hp0 hp9 hsv ?_
      case hcx => first | exact x2 | exact (x2.trans (by rw [e2]))
      intro h6 tk6 C' vsm6 ms6 m6 hacc hi6 hm6 F6 L6
      have hac := hacc.c
      have L7 := L6.perm (pm C' vsm6).symm
      obtain ⟨ha, nd6⟩ := led_tmp_back L7
      refine TurnEnd.intro F6 L7.1 ha ⟨D0, D1, C', vsm6, ms6, ⟨_, _, ra, rb, hacc⟩, hi6, hac.2 hl, ⟨e0, e1, hac.1⟩, fun y y1 y2 y3 => ?_, rfl, nd6⟩
      rw [hm6 y y2 y3]
      exact (if_neg y1).trans (hm y y1 y2 y3)
end
end Mine

namespace Mine
section
local macro_rules | `(tactic| walk_at "RESET") => `(tactic| trivial)
local macro_rules | `(tactic| walk_at "RESET") => `(tactic| trivial)
local macro_rules | `(tactic| walk_at "RESET") => `(tactic| trivial)
local macro_rules | `(tactic| walk_at "RESET") => `(tactic| trivial)
local macro_rules | `(tactic| walk_at "RESET") => `(tactic| trivial)
local macro_rules | `(tactic| walk_at "RESET") => `(tactic| trivial)
local macro_rules | `(tactic| walk_at "RESET") => `(tactic| trivial)
local macro_rules | `(tactic| walk_at "RESET") => `(tactic| trivial)
local macro_rules | `(tactic| walk_at "RESET") => `(tactic| trivial)
local macro_rules | `(tactic| walk_at "RESET") => `(tactic| trivial)
local macro_rules | `(tactic| walk_at "RESET") => `(tactic| trivial)
local macro_rules | `(tactic| walk_at "RESET") => `(tactic| trivial)
local macro_rules | `(tactic| walk_at "RESET") => `(tactic| trivial)
local macro_rules | `(tactic| walk_at "RESET") => `(tactic| trivial)
local macro_rules | `(tactic| walk_at "RESET") => `(tactic| trivial)
local macro_rules | `(tactic| walk_at "RESET") => `(tactic| trivial)
local macro_rules | `(tactic| walk_at "RESET") => `(tactic| trivial)
local macro_rules | `(tactic| walk_at "RESET") => `(tactic| trivial)
local macro_rules | `(tactic| walk_at "RESET") => `(tactic| trivial)
local macro_rules | `(tactic| walk_at "RESET") => `(tactic| trivial)
local macro_rules | `(tactic| walk_at "RESET") => `(tactic| trivial)
local macro_rules | `(tactic| walk_at "RESET") => `(tactic| trivial)
local macro_rules | `(tactic| walk_at "RESET") => `(tactic| trivial)
local macro_rules | `(tactic| walk_at "RESET") => `(tactic| trivial)
theorem resetL14 : True := by
  w_top off
  first | walk1 | trivial
end
end Mine

namespace Mine
local macro_rules | `(tactic| k_room) => `(tactic| (show _ < _; (try simp only [depth_under_make, depth_under_kw, depth_in1, depth_deeper, depth_caller]); (try unfold recursionLimit); omega))
local macro_rules | `(tactic| k_units) => `(tactic| (show _ < _; (try simp only [units_deeper, units_in1]); (try unfold cLine); omega))
local macro_rules | `(tactic| walk_at "FILL") => `(tactic| (have _fill : (fun (_ : OpenLaw) (_ : Params → Frag) => True) PySem.Challenge.rw_bn5031_01 hd.heap_39 := by k_fill; trivial))
local macro_rules | `(tactic| walk_at "LOOK") => `(tactic| first | assumption | exact if_pos rfl | (refine Eq.trans (if_neg (by decide)) ?_; walk_at "LOOK"))
local macro_rules | `(tactic| k_mem) => `(tactic| first | assumption | (refine List.Mem.tail _ ?_; k_mem))
local macro_rules | `(tactic| walk_at "eval Name") => `(tactic| (k_here; (fail_if_success (with_reducible show wpAny _ _ (eval (Expr.Name (Str.ofString "held") _) _) _ _ _)); (fail_if_success (with_reducible show wpAny _ _ (eval (Expr.Name (Str.ofString "len") _) _) _ _ _)); (fail_if_success (with_reducible show wpAny _ _ (eval (Expr.Name (Str.ofString "sorted") _) _) _ _ _)); (fail_if_success (with_reducible show wpAny _ _ (eval (Expr.Name (Str.ofString "range") _) _) _ _ _)); k_dflt (refine' ld ?k1 ?k2 ?_; (case k1 => k_asm); (case k2 => walk_at "LOOK"); k_whole)))
local macro_rules | `(tactic| k_all) => `(tactic| with_reducible assumption)
local macro_rules | `(tactic| walk_at "subscriptTail") => `(tactic| (k_here; (with_reducible show wpAny _ _ (subscriptTail _ _ (Value.ref _) (Value.int _ _)) _ _ _); k_dflt (refine' sub_at ?k1 ?k2 ?k3 ?k4 ?k5 ?_ ?k7; (case k1 => k_asm); (case k2 => k_mem); (case k5 => exact rfl); (case k3 => decide); (case k4 => decide); (case k7 => with_unfolding_all rfl); k_whole)))
local macro_rules | `(tactic| walk_at "call builtin:len") => `(tactic| (k_here; (with_reducible show wpAny _ _ (call (Value.builtin "len") [Value.ref _]) _ _ _); k_dflt (refine' KM.len_K ?N ?hm ?hs ?hf ?_; (case N => k_asm); (case hm => k_mem); (case hs => assumption); (case hf => assumption); k_whole)))
local macro_rules | `(tactic| walk_at "isTrue BoolOp") => `(tactic| (k_here; (try dsimp only); k_gentoks; walk_at "isTrue BoolOp"))
local macro_rules | `(tactic| walk_at "binaryOp Mod int int") => `(tactic| (k_here; k_dflt (with_reducible refine mod_int' (by omega) ?_)))
local macro_rules | `(tactic| walk_at "binaryOp FloorDiv int int") => `(tactic| (k_here; k_dflt (with_reducible refine floordiv_int (by omega) ?_ (Or.inl (PyProof.noPylong_small (by omega))))))
local macro_rules | `(tactic| walk_at "loadName") => `(tactic| (k_here; k_dflt (refine' ldn ?k1 ?k2 ?_; (case k1 => k_asm); (case k2 => walk_at "LOOK"); k_whole)))
theorem notin_not {prog : Program} {w : World} {A : Around} {E : Value → Shared → Prop} {s : Shared} {h₀ : Heap} {L D : Addr} {news : List (Addr × Obj)} {vs : List Value} {ns : List Int} {n : Nat} {k : Int} {u : Tok} {Q : Value → Shared → Prop}
    (N : News h₀ L s.heap news) (hm : (D, listOf vs.toArray n) ∈ news) (hi : IntsAre vs ns) (hk : k ∉ ns) (h : Q (.bool true) s) : wpAny (model prog w) A (compareOp .NotIn (.int k u) (.ref D)) Q E s :=
  notin_list_ints (l := D) ⟨_, (N _ hm).1, rfl, n, rfl⟩ hi (by
    have e : ns.any (· == k) = false := by
      rw [List.any_eq_false]
      intro x hx q
      exact hk (by simpa using (show x = k by simpa using q) ▸ hx)
    rw [e]; exact h)
local macro_rules | `(tactic| walk_at "compareOp NotIn int ref") => `(tactic| (k_here; k_dflt (first
  | (refine' notin_has ?N ?m ?i ?k ?_; (case k => assumption); (case N => k_asm); (case m => k_mem); (case i => assumption); k_whole)
  | (refine' notin_not ?N ?m ?i ?k ?_; (case k => assumption); (case N => k_asm); (case m => k_mem); (case i => assumption); k_whole))))
theorem ints_snoc : ∀ {vs : List Value} {ns : List Int} {n : Int} {t : Tok}, IntsAre vs ns → IntsAre (vs ++ [.int n t]) (ns ++ [n])
  | _, _, n, t, .nil => .cons n t .nil
  | _, _, _, _, .cons a b h => .cons a b (ints_snoc h)
section
variable {w : World} {A₀ : Around} {base h₀ : Heap} {outer : List Env} {L fa : Addr} {cd : Value} {m : Str → Option Value} {p : Program} {loose : List Str} {mean : ExcName → Option Value} {mg mb : Str → Option Value} {s : Shared} {E : Value → Shared → Prop} {Q : Flow → Shared → Prop}
    {dp un : Nat} {gd : Option (List Code)} {tl : List (Addr × Obj)} {sc : Scope} {st : Stmt}
theorem riv2 {lr cr : Nat} {vsr : List Value} {riv : List Int} {pg x pages hh fet : Int} {tp tx tq th te : Tok}
    (hsc : sc = lawScope) (hst : st = stOf (nth loopBody 2))
    (F : Fr h₀ L s.heap m) (X₀ : (hd.heap_39 w.params).In h₀) (N : News h₀ L s.heap ((lr, listOf vsr.toArray cr) :: tl)) (hoff : ∀ q ∈ tl, q.1 ≠ lr) (T : Top p loose mean mg mb h₀)
    (hi : IntsAre vsr riv) (hz : vsr.toArray.size = riv.length) (hr : riv.length ≤ 20) (hh1 : 1 ≤ hh) (hh4 : hh ≤ 4) (hp1 : 1 ≤ pages) (hp9 : pages ≤ 20)
    (hrv : m (Str.ofString "rival") = some (.ref lr)) (hpg : m (Str.ofString "page") = some (.int pg tp)) (hx : m (Str.ofString "x") = some (.int x tx)) (hpa : m (Str.ofString "pages") = some (.int pages tq)) (hhh : m (Str.ofString "h") = some (.int hh th)) (hfe : m (Str.ofString "fetched") = some (.int fet te))
    (hE : PassesOwn (MO w) (Ar dp (envOfC (Str.ofString "law") sc L fa cd :: outer) gd un) (envOfC (Str.ofString "law") sc L fa cd) E)
    (h : ∀ h' tk m' vsr' cr' te', (∀ y, y ≠ Str.ofString "fetched" → m' y = m y) → m' (Str.ofString "fetched") = some (.int (if pg ∈ riv then fet else fet + 1) te') → IntsAre vsr' (rivOf hh riv pg ((x.fdiv pages).fmod hh)) → Fr h₀ L h' m' → News h₀ L h' ((lr, listOf vsr'.toArray cr') :: tl) → Q .next { s with heap := h', toks := tk }) :
    wpAny (MO w) (Ar dp (envOfC (Str.ofString "law") sc L fa cd :: outer) gd un) (exec st (envOfC (Str.ofString "law") sc L fa cd)) Q E s := by
  walk_at "FILL"
  conv at hsc => rhs; whnf
  conv at hst => rhs; whnf
  subst hsc
  subst hst
  have hf62 : riv.length < 2 ^ 62 := by omega
  by_cases hmem : pg ∈ riv
  · k_steps
    all_goals (try k_data)
    exact h s.heap s.toks m vsr cr te (fun _ _ => rfl) (by rw [if_pos hmem]; exact hfe) (by unfold rivOf; rw [if_pos hmem]; exact hi) F N
  · k_steps
    all_goals (try k_data)
    · rename News h₀ L _ _ => N2
      rename Fr h₀ L _ _ => F2
      rw [List.push_toArray] at N2
      have hlt : (riv.length : Int) < hh := by omega
      exact h _ _ _ _ _ _ (fun y q => if_neg q) ((if_pos rfl).trans (congrArg (fun z => some (Value.int z _)) (if_neg hmem).symm)) (by unfold rivOf; rw [if_neg hmem, if_pos hlt]; exact ints_snoc hi) F2 N2
    · rename News h₀ L _ _ => N2
      rename Fr h₀ L _ _ => F2
      rename IntsAre _ (List.set _ _ _) => hI2
      have hlt : ¬ (riv.length : Int) < hh := by omega
      exact h _ _ _ _ _ _ (fun y q => if_neg q) ((if_pos rfl).trans (congrArg (fun z => some (Value.int z _)) (if_neg hmem).symm)) (by unfold rivOf; rw [if_neg hmem, if_neg hlt]; exact hI2) F2 N2
end
end Mine

namespace Mine
section
local macro_rules | `(tactic| walk_at "RESET") => `(tactic| trivial)
local macro_rules | `(tactic| walk_at "RESET") => `(tactic| trivial)
local macro_rules | `(tactic| walk_at "RESET") => `(tactic| trivial)
local macro_rules | `(tactic| walk_at "RESET") => `(tactic| trivial)
local macro_rules | `(tactic| walk_at "RESET") => `(tactic| trivial)
local macro_rules | `(tactic| walk_at "RESET") => `(tactic| trivial)
local macro_rules | `(tactic| walk_at "RESET") => `(tactic| trivial)
local macro_rules | `(tactic| walk_at "RESET") => `(tactic| trivial)
local macro_rules | `(tactic| walk_at "RESET") => `(tactic| trivial)
local macro_rules | `(tactic| walk_at "RESET") => `(tactic| trivial)
local macro_rules | `(tactic| walk_at "RESET") => `(tactic| trivial)
local macro_rules | `(tactic| walk_at "RESET") => `(tactic| trivial)
local macro_rules | `(tactic| walk_at "RESET") => `(tactic| trivial)
local macro_rules | `(tactic| walk_at "RESET") => `(tactic| trivial)
local macro_rules | `(tactic| walk_at "RESET") => `(tactic| trivial)
local macro_rules | `(tactic| walk_at "RESET") => `(tactic| trivial)
local macro_rules | `(tactic| walk_at "RESET") => `(tactic| trivial)
local macro_rules | `(tactic| walk_at "RESET") => `(tactic| trivial)
local macro_rules | `(tactic| walk_at "RESET") => `(tactic| trivial)
local macro_rules | `(tactic| walk_at "RESET") => `(tactic| trivial)
local macro_rules | `(tactic| walk_at "RESET") => `(tactic| trivial)
local macro_rules | `(tactic| walk_at "RESET") => `(tactic| trivial)
local macro_rules | `(tactic| walk_at "RESET") => `(tactic| trivial)
local macro_rules | `(tactic| walk_at "RESET") => `(tactic| trivial)
theorem resetL15 : True := by
  w_top off
  first | walk1 | trivial
end
end Mine

namespace Mine
abbrev Desc (sd : List Ent) : Prop := sd.Pairwise fun x y => y.cnt < x.cnt
theorem desc_unique : ∀ {s t : List Ent}, s.Perm t → Desc s → Desc t → s = t
  | [], t, h, _, _ => (List.nil_perm.mp h).symm
  | a :: s, [], h, _, _ => absurd h.symm (by intro q; exact List.cons_ne_nil _ _ (List.nil_perm.mp q))
  | a :: s, b :: t, h, hs, ht => by
    have e : a = b := by
      rcases List.mem_cons.mp (h.mem_iff.mp List.mem_cons_self) with q | q
      · exact q
      · rcases List.mem_cons.mp (h.mem_iff.mpr List.mem_cons_self) with q2 | q2
        · exact q2.symm
        · have h1 := (List.pairwise_cons.mp ht).1 a q
          have h2 := (List.pairwise_cons.mp hs).1 b q2
          omega
    subst e
    rw [desc_unique (List.perm_cons a |>.mp h) (List.pairwise_cons.mp hs).2 (List.pairwise_cons.mp ht).2]
structure CW (w : World) (W : Nat) (C : Cache) (l : List Int) : Prop where
  thr : Nonempty (Thr w C.cap C.thr (limOf W))
  hW : 1 ≤ W
  hc0 : 0 ≤ C.cap
  hcW : C.cap ≤ (W : Int)
  ok : C.Ok w
  hct : ∀ x ∈ C.ents, x.cnt ≤ C.ctr
  hsv : ∀ x ∈ C.ents, x.sv = Txt.mul (Str.ofString "v") x.key
  rc : ∃ sd : List Ent, sd.Perm C.ents ∧ Desc sd ∧ l = sd.map Ent.key
theorem CW.len {w : World} {W : Nat} {C : Cache} {l : List Int} (h : CW w W C l) : C.ents.length = l.length := by
  obtain ⟨sd, p, _, rfl⟩ := h.rc
  rw [List.length_map, p.length_eq]
theorem CW.mem {w : World} {W : Nat} {C : Cache} {l : List Int} (h : CW w W C l) {x : Int} : x ∈ C.ents.map Ent.key ↔ x ∈ l := by
  obtain ⟨sd, p, _, rfl⟩ := h.rc
  exact (p.map _).mem_iff.symm
theorem CW.good {w : World} {W : Nat} {C : Cache} {l : List Int} (h : CW w W C l) (hl : l.length + 1 ≤ 20) : Good w (limOf W) C := by
  have hlen := h.len
  refine ⟨h.thr, by omega, ?_, h.hct, fun q => ?_, h.hc0, h.ok, h.hsv⟩
  · obtain ⟨sd, p, d, _⟩ := h.rc
    refine (p.map Ent.cnt).nodup_iff.mp ?_
    rw [List.nodup_iff_pairwise_ne, List.pairwise_map]
    exact d.imp fun q e => by omega
  · have q' : (W : Int) < ((C.ents.length + 1 : Nat) : Int) := by simpa using q
    have := h.hW
    have := h.hcW
    have := h.hc0
    refine ⟨by omega, ?_⟩
    show decide _ = false
    rw [decide_eq_false_iff_not]
    omega
theorem CW.acc {w : World} {W : Nat} {C C' : Cache} {l : List Int} {pg i : Int} {ms ms' : List Int} (h : CW w W C l) (a : Acc w (limOf W) C pg i ms C' ms') :
    CW w W C' (acc C.cap.toNat (limOf W) l pg) ∧ C'.cap = C.cap ∧ C'.c = C.c ∧ ms' = (if pg ∈ l then ms else ms.set i.toNat (ms.getD i.toNat 0 + 1)) := by
  have hm := h.mem (x := pg)
  have hlen := h.len
  obtain ⟨thr, hW, hc0, hcW, ok, hct, hsv, sd, sp, sdd, rfl⟩ := h
  have nk := ok.nodup
  rcases a with ⟨e1, e, e2, t1, t2, n, he, rfl, rfl, rfl⟩ | ⟨hk, ⟨e, t1, o1, ek, es, ec, hd1, hcase⟩, rfl⟩
  · have hin : e ∈ sd := sp.mem_iff.mpr (by rw [he]; simp)
    obtain ⟨s1, s2, rfl⟩ := List.append_of_mem hin
    have pm : (s1 ++ s2).Perm (e1 ++ e2) := by
      have q : (s1 ++ e :: s2).Perm (e1 ++ e :: e2) := he ▸ sp
      exact List.perm_cons e |>.mp (List.perm_middle.symm.trans (q.trans List.perm_middle))
    have nks : ((s1 ++ e :: s2).map Ent.key).Nodup := (sp.map _).nodup_iff.mpr nk
    have hp : e.key ∈ (s1 ++ e :: s2).map Ent.key := List.mem_map_of_mem (by simp)
    have hd2 : Desc (s1 ++ s2) := sdd.sublist (List.Sublist.append (List.Sublist.refl _) (List.sublist_cons_self _ _))
    have hct2 : ∀ x ∈ s1 ++ s2, x.cnt ≤ C.ctr := fun x hx => hct x (by rw [he]; rcases List.mem_append.mp (pm.mem_iff.mp hx) with q | q <;> simp [q])
    refine ⟨⟨thr, hW, hc0, hcW, ⟨?_, ok.lo⟩, ?_, ?_, { e with cnt := C.ctr + 1, ct := t2, ln := n } :: (s1 ++ s2), ?_, ?_, ?_⟩, rfl, rfl, ?_⟩
    · have := ok.dict
      have ekv : kvsOf (e1 ++ { e with cnt := C.ctr + 1, ct := t2, ln := n } :: e2) = kvsOf C.ents := by
        rw [he]; unfold kvsOf; rw [List.map_append, List.map_append, List.map_cons, List.map_cons]
      show C.dobj.IsDictOf (IK w) (kvsOf (e1 ++ { e with cnt := C.ctr + 1, ct := t2, ln := n } :: e2))
      rw [ekv]; exact this
    · intro x hx
      show x.cnt ≤ C.ctr + 1
      rcases List.mem_append.mp (show x ∈ e1 ++ _ :: e2 from hx) with q | q
      · have := hct x (by rw [he]; simp [q]); omega
      · rcases List.mem_cons.mp q with rfl | q
        · exact Int.le_refl _
        · have := hct x (by rw [he]; simp [q]); omega
    · intro x hx
      rcases List.mem_append.mp (show x ∈ e1 ++ _ :: e2 from hx) with q | q
      · exact hsv x (by rw [he]; simp [q])
      · rcases List.mem_cons.mp q with rfl | q
        · exact hsv e (by rw [he]; simp)
        · exact hsv x (by rw [he]; simp [q])
    · exact (List.Perm.cons _ pm).trans List.perm_middle.symm
    · refine List.pairwise_cons.mpr ⟨fun x hx => ?_, hd2⟩
      have := hct2 x hx
      show x.cnt < C.ctr + 1
      omega
    · unfold Mine.acc
      rw [if_pos hp, List.map_cons]
      congr 1
      rw [List.map_append, List.map_cons, List.map_append]
      have hn : e.key ∉ s1.map Ent.key := fun q => by
        rw [List.map_append, List.nodup_append] at nks
        exact nks.2.2 _ q _ (by rw [List.map_cons]; exact List.mem_cons_self) rfl
      rw [List.erase_append_right _ hn, List.erase_cons_head]
    · rw [if_pos hp]
  · have hp : pg ∉ sd.map Ent.key := fun q => hk (hm.mpr q)
    have hl2 : (sd.map Ent.key).length = C.ents.length := hlen.symm
    have sp2 : (e :: sd).Perm (C.ents ++ [e]) := (List.Perm.cons _ sp).trans (List.perm_append_comm (l₁ := [e]) (l₂ := C.ents))
    have sdd2 : Desc (e :: sd) := List.pairwise_cons.mpr ⟨fun x hx => by have := hct x (sp.mem_iff.mp hx); omega, sdd⟩
    have hct2 : ∀ x ∈ C.ents ++ [e], x.cnt ≤ C.ctr + 1 := fun x hx => by
      rcases List.mem_append.mp hx with q | q
      · have := hct x q; omega
      · rw [List.mem_singleton] at q; subst q; omega
    have hsv2 : ∀ x ∈ C.ents ++ [e], x.sv = Txt.mul (Str.ofString "v") x.key := fun x hx => by
      rcases List.mem_append.mp hx with q | q
      · exact hsv x q
      · rw [List.mem_singleton] at q; subst q; rw [es, ek]
    rw [if_neg hp]
    have hacc : ∀ b, limOf W (C.ents.length + 1) = b → Mine.acc C.cap.toNat (limOf W) (sd.map Ent.key) pg = if b = true then (pg :: sd.map Ent.key).take C.cap.toNat else pg :: sd.map Ent.key := fun b hb => by
      unfold Mine.acc
      rw [if_neg hp, hl2, hb]
    rcases hcase with ⟨hl, rfl⟩ | ⟨hl, sd2, o, p2, d2, ho, rfl⟩
    · rw [hacc _ hl]
      refine ⟨⟨thr, hW, hc0, hcW, ⟨hd1, ok.lo⟩, hct2, hsv2, e :: sd, sp2, sdd2, ?_⟩, rfl, rfl, rfl⟩
      simp [ek]
    · have e2 : sd2 = e :: sd := desc_unique (p2.trans sp2.symm) d2 sdd2
      subst e2
      have nk2 : ((C.ents ++ [e]).map Ent.key).Nodup := by
        rw [List.map_append, List.nodup_append]
        refine ⟨nk, by simp, fun x hx y hy q => ?_⟩
        rw [List.map_singleton, List.mem_singleton] at hy
        exact hk (by rw [← ek, ← hy, ← q]; exact hx)
      rw [hacc _ hl]
      refine ⟨⟨thr, hW, hc0, hcW, ⟨ho, ok.lo⟩, fun x hx => hct2 x ((rem_sub _ _).subset hx), fun x hx => hsv2 x ((rem_sub _ _).subset hx), (e :: sd).take C.cap.toNat, (rem_drop sp2 nk2 _).symm, sdd2.sublist (List.take_sublist _ _), ?_⟩, rfl, rfl, rfl⟩
      rw [if_pos rfl, List.map_take, List.map_cons, ek]
end Mine

namespace Mine
section
local macro_rules | `(tactic| walk_at "RESET") => `(tactic| trivial)
local macro_rules | `(tactic| walk_at "RESET") => `(tactic| trivial)
local macro_rules | `(tactic| walk_at "RESET") => `(tactic| trivial)
local macro_rules | `(tactic| walk_at "RESET") => `(tactic| trivial)
local macro_rules | `(tactic| walk_at "RESET") => `(tactic| trivial)
local macro_rules | `(tactic| walk_at "RESET") => `(tactic| trivial)
local macro_rules | `(tactic| walk_at "RESET") => `(tactic| trivial)
local macro_rules | `(tactic| walk_at "RESET") => `(tactic| trivial)
local macro_rules | `(tactic| walk_at "RESET") => `(tactic| trivial)
local macro_rules | `(tactic| walk_at "RESET") => `(tactic| trivial)
local macro_rules | `(tactic| walk_at "RESET") => `(tactic| trivial)
local macro_rules | `(tactic| walk_at "RESET") => `(tactic| trivial)
local macro_rules | `(tactic| walk_at "RESET") => `(tactic| trivial)
local macro_rules | `(tactic| walk_at "RESET") => `(tactic| trivial)
local macro_rules | `(tactic| walk_at "RESET") => `(tactic| trivial)
local macro_rules | `(tactic| walk_at "RESET") => `(tactic| trivial)
local macro_rules | `(tactic| walk_at "RESET") => `(tactic| trivial)
local macro_rules | `(tactic| walk_at "RESET") => `(tactic| trivial)
local macro_rules | `(tactic| walk_at "RESET") => `(tactic| trivial)
local macro_rules | `(tactic| walk_at "RESET") => `(tactic| trivial)
local macro_rules | `(tactic| walk_at "RESET") => `(tactic| trivial)
local macro_rules | `(tactic| walk_at "RESET") => `(tactic| trivial)
local macro_rules | `(tactic| walk_at "RESET") => `(tactic| trivial)
local macro_rules | `(tactic| walk_at "RESET") => `(tactic| trivial)
theorem resetL16 : True := by
  w_top off
  first | walk1 | trivial
end
end Mine

namespace Mine
local macro_rules | `(tactic| k_room) => `(tactic| (show _ < _; (try simp only [depth_under_make, depth_under_kw, depth_in1, depth_deeper, depth_caller]); (try unfold recursionLimit); omega))
local macro_rules | `(tactic| k_units) => `(tactic| (show _ < _; (try simp only [units_deeper, units_in1]); (try unfold cLine); omega))
local macro_rules | `(tactic| walk_at "FILL") => `(tactic| (have _fill : (fun (_ : OpenLaw) (_ : Params → Frag) => True) PySem.Challenge.rw_bn5031_01 hd.heap_39 := by k_fill; trivial))
local macro_rules | `(tactic| walk_at "LOOK") => `(tactic| first | assumption | exact if_pos rfl | (refine Eq.trans (if_neg (by decide)) ?_; walk_at "LOOK"))
local macro_rules | `(tactic| k_mem) => `(tactic| first | assumption | (refine List.Mem.tail _ ?_; k_mem))
local macro_rules | `(tactic| walk_at "eval Name") => `(tactic| (k_here; (fail_if_success (with_reducible show wpAny _ _ (eval (Expr.Name (Str.ofString "held") _) _) _ _ _)); (fail_if_success (with_reducible show wpAny _ _ (eval (Expr.Name (Str.ofString "len") _) _) _ _ _)); (fail_if_success (with_reducible show wpAny _ _ (eval (Expr.Name (Str.ofString "sorted") _) _) _ _ _)); (fail_if_success (with_reducible show wpAny _ _ (eval (Expr.Name (Str.ofString "range") _) _) _ _ _)); k_dflt (refine' ld ?k1 ?k2 ?_; (case k1 => k_asm); (case k2 => walk_at "LOOK"); k_whole)))
local macro_rules | `(tactic| k_all) => `(tactic| with_reducible assumption)
local macro_rules | `(tactic| walk_at "subscriptTail") => `(tactic| (k_here; (with_reducible show wpAny _ _ (subscriptTail _ _ (Value.ref _) (Value.int _ _)) _ _ _); k_dflt (refine' sub_at ?k1 ?k2 ?k3 ?k4 ?k5 ?_ ?k7; (case k1 => k_asm); (case k2 => k_mem); (case k5 => exact rfl); (case k3 => decide); (case k4 => decide); (case k7 => with_unfolding_all rfl); k_whole)))
local macro_rules | `(tactic| walk_at "call builtin:len") => `(tactic| (k_here; (with_reducible show wpAny _ _ (call (Value.builtin "len") [Value.ref _]) _ _ _); k_dflt (refine' KM.len_K ?N ?hm ?hs ?hf ?_; (case N => k_asm); (case hm => k_mem); (case hs => assumption); (case hf => assumption); k_whole)))
local macro_rules | `(tactic| walk_at "isTrue BoolOp") => `(tactic| (k_here; (try dsimp only); k_gentoks; walk_at "isTrue BoolOp"))
local macro_rules | `(tactic| walk_at "binaryOp Mod int int") => `(tactic| (k_here; k_dflt (with_reducible refine mod_int' (by omega) ?_)))
local macro_rules | `(tactic| walk_at "binaryOp FloorDiv int int") => `(tactic| (k_here; k_dflt (with_reducible refine floordiv_int (by omega) ?_ (Or.inl (PyProof.noPylong_small (by omega))))))
local macro_rules | `(tactic| walk_at "loadName") => `(tactic| (k_here; k_dflt (refine' ldn ?k1 ?k2 ?_; (case k1 => k_asm); (case k2 => walk_at "LOOK"); k_whole)))

local macro_rules | `(tactic| walk_at "execs cons") => `(tactic| (k_here; refine hold ?_))
/-- the law's names that a turn leaves as they are -/
structure MFr (m : Str → Option Value) (k wide hh pages : Int) (lc la lm lr : Nat) : Prop where
  k : ∃ t, m (Str.ofString "k") = some (.int k t)
  wide : ∃ t, m (Str.ofString "wide") = some (.int wide t)
  hh : ∃ t, m (Str.ofString "h") = some (.int hh t)
  pages : ∃ t, m (Str.ofString "pages") = some (.int pages t)
  caches : m (Str.ofString "caches") = some (.ref lc)
  asked : m (Str.ofString "asked") = some (.ref la)
  missed : m (Str.ofString "missed") = some (.ref lm)
  rival : m (Str.ofString "rival") = some (.ref lr)
def lawNames : List Str := [Str.ofString "k", Str.ofString "wide", Str.ofString "h", Str.ofString "pages", Str.ofString "caches", Str.ofString "asked", Str.ofString "missed", Str.ofString "rival"]
theorem MFr.mono {m m' : Str → Option Value} {k wide hh pages : Int} {lc la lm lr : Nat} (h : MFr m k wide hh pages lc la lm lr) (e : ∀ y ∈ lawNames, m' y = m y) : MFr m' k wide hh pages lc la lm lr where
  k := by rw [e _ (by simp [lawNames])]; exact h.k
  wide := by rw [e _ (by simp [lawNames])]; exact h.wide
  hh := by rw [e _ (by simp [lawNames])]; exact h.hh
  pages := by rw [e _ (by simp [lawNames])]; exact h.pages
  caches := by rw [e _ (by simp [lawNames])]; exact h.caches
  asked := by rw [e _ (by simp [lawNames])]; exact h.asked
  missed := by rw [e _ (by simp [lawNames])]; exact h.missed
  rival := by rw [e _ (by simp [lawNames])]; exact h.rival
/-- the law's loop, after the requests `as` -/
def LJ (w : World) (L : Nat) (k wide : Nat) (hh pages : Int) (lc la lm lr cc a0 a1 a2 : Nat) (rest : List (Addr × Obj)) (as : List Int) (m : Str → Option Value) (n : List (Addr × Obj)) : Prop :=
  ∃ (S riv : List Int) (m0 m1 m2 fet : Int) (full : Nat) (C0 C1 C2 : Cache) (vsm vsa vsr : List Value) (cm ca cr : Nat) (co : Obj) (cv : Option Value),
    LInv k wide hh as S m0 m1 m2 riv fet full ∧ (CW w k C0 (S.take k) ∧ C0.cap = (k : Int) ∧ C0.c = a0) ∧ (CW w wide C1 (S.take full) ∧ C1.cap = (k : Int) ∧ C1.c = a1) ∧ (CW w wide C2 (S.take wide) ∧ C2.cap = (wide : Int) ∧ C2.c = a2) ∧
    IntsAre vsm [m0, m1, m2] ∧ IntsAre vsa as ∧ IntsAre vsr riv ∧ co.data = .cell cv ∧ MFr m k wide hh pages lc la lm lr ∧ (∃ t, m (Str.ofString "fetched") = some (.int fet t)) ∧ (∃ t, m (Str.ofString "full") = some (.int (full : Nat) t)) ∧
    n = led3 w C0 C1 C2 ((lc, listOf [.ref a0, .ref a1, .ref a2].toArray cc) :: (lm, listOf vsm.toArray cm) :: (L + 1, co) :: (la, listOf vsa.toArray ca) :: (lr, listOf vsr.toArray cr) :: rest) ∧ (n.map (·.1) : List Nat).Nodup
section
variable {w : World} {A₀ : Around} {base h₀ : Heap} {outer : List Env} {L fa : Addr} {cd : Value} {m : Str → Option Value} {p : Program} {loose : List Str} {mean : ExcName → Option Value} {mg mb : Str → Option Value} {s : Shared} {E : Value → Shared → Prop} {Q : Flow → Shared → Prop}
    {dp un : Nat} {gd : Option (List Code)} {rest n : List (Addr × Obj)} {sc : Scope} {body : List Stmt}
theorem loop_turn {k wide : Nat} {hh pages x : Int} {lc la lm lr cc a0 a1 a2 : Nat} {as : List Int} {tx : Tok}
    (hsc : sc = lawScope) (hbody : body = loopBody)
    (B : Below A₀ base outer h₀) (F : Fr h₀ L s.heap m) (X₀ : (hd.heap_39 w.params).In h₀) (N : News h₀ L s.heap n) (T : Top p loose mean mg mb h₀)
    (hdp : dp < 400) (hun : un < 900) (J : LJ w L k wide hh pages lc la lm lr cc a0 a1 a2 rest as m n) (hx : m (Str.ofString "x") = some (.int x tx))
    (hk1 : 1 ≤ k) (hk4 : k ≤ 4) (hkw : k ≤ wide) (hw8 : wide ≤ 8) (hh1 : 1 ≤ hh) (hhk : hh ≤ k) (hp1 : 1 ≤ pages) (hp20 : pages ≤ 20) (has : as.length < 20)
    (hE : PassesOwn (MO w) (Ar dp (envOfC (Str.ofString "law") sc L fa cd :: outer) gd un) (envOfC (Str.ofString "law") sc L fa cd) E)
    (h : ∀ h' tk m' n', LJ w L k wide hh pages lc la lm lr cc a0 a1 a2 rest (as ++ [x.fmod pages]) m' n' → Fr h₀ L h' m' → News h₀ L h' n' → Q .next { s with heap := h', toks := tk }) :
    wpAny (MO w) (Ar dp (envOfC (Str.ofString "law") sc L fa cd :: outer) gd un) (execs body (envOfC (Str.ofString "law") sc L fa cd)) Q E s := by
  walk_at "FILL"
  conv at hsc => rhs; whnf
  conv at hbody => rhs; whnf
  have hsc2 : sc = lawScope := hsc
  subst hbody
  subst hsc
  obtain ⟨S, riv, m0, m1, m2, fet, full, C0, C1, C2, vsm, vsa, vsr, cm, ca, cr, co, cv, I, ⟨w0, q0, e0⟩, ⟨w1, q1, e1⟩, ⟨w2, q2, e2⟩, im, ia, ir, hco, mf, ⟨tf, hfe⟩, ⟨tg, hfu⟩, rfl, nd⟩ := J
  obtain ⟨⟨tk, hk⟩, ⟨tw, hw⟩, ⟨th, hhh⟩, ⟨tp, hpa⟩, hca, has2, hmi, hri⟩ := id mf
  obtain ⟨u0, u1, u2, rfl⟩ : ∃ u0 u1 u2, vsm = [.int m0 u0, .int m1 u1, .int m2 u2] := by
    cases im with | cons _ u0 im => cases im with | cons _ u1 im => cases im with | cons _ u2 im => cases im with | nil => exact ⟨u0, u1, u2, rfl⟩
  have I' := I.step (p := x.fmod pages) (idx := (x.fdiv pages).fmod hh) hk1 hkw hh1 hhk (Int.fmod_nonneg_of_pos _ (by omega)) (Int.fmod_lt_of_pos _ (by omega))
  have hp0 : 0 ≤ x.fmod pages := Int.fmod_nonneg_of_pos _ (by omega)
  have hpl : x.fmod pages < pages := Int.fmod_lt_of_pos _ (by omega)
  obtain ⟨tl, htl⟩ : ∃ tl, tl = led3 w C0 C1 C2 ((lc, listOf [.ref a0, .ref a1, .ref a2].toArray cc) :: (L + 1, co) :: (lr, listOf vsr.toArray cr) :: rest) := ⟨_, rfl⟩
  have pm1 : ∀ v c, (led3 w C0 C1 C2 ((lc, listOf [.ref a0, .ref a1, .ref a2].toArray cc) :: (lm, listOf [.int m0 u0, .int m1 u1, .int m2 u2].toArray cm) :: (L + 1, co) :: (la, listOf v c) :: (lr, listOf vsr.toArray cr) :: rest)).Perm ((la, listOf v c) :: (lm, listOf [.int m0 u0, .int m1 u1, .int m2 u2].toArray cm) :: tl) := by
    intro v c
    subst htl
    unfold led3
    classical
    exact List.perm_iff_count.mpr fun t => by simp only [List.count_append, List.count_cons]; omega
  have nd1 := ((pm1 vsa.toArray ca).map (·.1)).nodup_iff.mp nd
  have N1 : News h₀ L s.heap ((la, listOf vsa.toArray ca) :: (lm, listOf [.int m0 u0, .int m1 u1, .int m2 u2].toArray cm) :: tl) := news_sub N fun q hq => (pm1 _ _).mem_iff.mpr hq
  have hoff1 : ∀ q ∈ ((lm, listOf [.int m0 u0, .int m1 u1, .int m2 u2].toArray cm) :: tl), q.1 ≠ la := fun q hq e => by
    rw [List.map_cons, List.nodup_cons] at nd1
    exact nd1.1 (List.mem_map.mpr ⟨q, hq, e⟩)
  clear N
  have zA : vsa.toArray.size ≤ sizeLine := by rw [List.size_toArray, ia.length, sizeLine_eq]; omega
  refine wpAny_execs_cons ?_
  k_steps
  all_goals (try k_data)
  rename News h₀ L _ _ => N2
  rename Fr h₀ L _ _ => F2
  try clear F
  show wpAny _ _ (execs _ _) _ _ _
  refine wpAny_execs_cons ?_
  k_steps
  all_goals (try k_data)
  try clear F2
  rename News h₀ L _ _ => N2
  rename Fr h₀ L _ _ => F2
  rw [List.push_toArray] at N2
  show wpAny _ _ (execs _ _) _ _ _
  refine wpAny_execs_cons ?_
  subst htl
  obtain ⟨tl3, htl3⟩ : ∃ tl3, tl3 = led3 w C0 C1 C2 ((lc, listOf [.ref a0, .ref a1, .ref a2].toArray cc) :: (L + 1, co) :: rest) := ⟨_, rfl⟩
  have pm2 : ∀ (A M R : Obj), ((la, A) :: (lm, M) :: (led3 w C0 C1 C2 ((lc, listOf [.ref a0, .ref a1, .ref a2].toArray cc) :: (L + 1, co) :: (lr, R) :: rest))).Perm ((lr, R) :: (la, A) :: (lm, M) :: tl3) := by
    intro A M R
    subst htl3
    unfold led3
    classical
    exact List.perm_iff_count.mpr fun t => by simp only [List.count_append, List.count_cons]; omega
  have N3 := news_sub N2 fun q hq => (pm2 _ _ _).mem_iff.mpr hq
  have nd2 := ((pm2 (listOf vsa.toArray ca) (listOf [.int m0 u0, .int m1 u1, .int m2 u2].toArray cm) (listOf vsr.toArray cr)).map (·.1)).nodup_iff.mp nd1
  simp only [List.map_cons] at nd2
  have hoff2 : ∀ A M : Obj, ∀ q ∈ ((la, A) :: (lm, M) :: tl3 : List (Addr × Obj)), q.1 ≠ lr := fun A M q hq e => by
    rw [List.nodup_cons] at nd2
    refine nd2.1 ?_
    have := List.mem_map_of_mem (f := fun q : Addr × Obj => q.1) hq
    simp only [List.map_cons] at this
    rw [e] at this
    exact this
  clear N2
  refine riv2 (riv := riv) (pg := x.fmod pages) (x := x) (pages := pages) (hh := hh) (fet := fet) hsc2 rfl F2 X₀ N3 (hoff2 _ _) T ir (by rw [List.size_toArray, ir.length]) ?zr hh1 (by omega) hp1 hp20 ((if_neg (by decide)).trans hri) (if_pos rfl) ((if_neg (by decide)).trans hx) ((if_neg (by decide)).trans hpa) ((if_neg (by decide)).trans hhh) ((if_neg (by decide)).trans hfe) hE ?_
  case zr => (have := I.lr); omega
  intro h4 tk4 m4 vsr4 cr4 te4 hm4 hfe4 ir4 F4 N4
  dsimp only
  refine wpAny_execs_cons ?_
  have hms4 : m4 (Str.ofString "missed") = some (.ref lm) := ((hm4 _ (by decide)).trans (if_neg (by decide))).trans hmi
  k_steps
  all_goals (try k_data)
  try clear F4
  rename News h₀ L _ _ => N5
  rename Fr h₀ L _ _ => F5
  show wpAny _ _ (execs _ _) _ _ _
  refine wpAny_execs_cons ?_
  subst htl3
  have pm3 : ∀ (A M R : Obj), (led3 w C0 C1 C2 ((lc, listOf [.ref a0, .ref a1, .ref a2].toArray cc) :: (lm, M) :: (L + 1, co) :: (la, A) :: (lr, R) :: rest)).Perm ((lr, R) :: (la, A) :: (lm, M) :: led3 w C0 C1 C2 ((lc, listOf [.ref a0, .ref a1, .ref a2].toArray cc) :: (L + 1, co) :: rest)) := by
    intro A M R
    unfold led3
    classical
    exact List.perm_iff_count.mpr fun t => by simp only [List.count_append, List.count_cons]; omega
  have L5 := led_back (pm3 _ _ _) N5 (by unfold led3 at nd ⊢; simp only [List.map_append, List.map_cons] at nd ⊢; exact nd)
  have hk20 : ∀ j : Nat, j ≤ 8 → (S.take j).length + 1 ≤ 20 := fun j hj => by rw [List.length_take]; omega
  have hf8 : full ≤ 8 := by have := I.f3; omega
  have g4 : ∀ y, y ≠ Str.ofString "before" → y ≠ Str.ofString "fetched" → y ≠ Str.ofString "page" → (if y = Str.ofString "before" then some (Value.int m1 u1) else m4 y) = m y := fun y y1 y2 y3 => (if_neg y1).trans ((hm4 y y2).trans (if_neg y3))
  refine three4 (csv := [.ref a0, .ref a1, .ref a2]) (pg := x.fmod pages) (ms := [m0, m1, m2]) (l0 := limOf k) (l1 := limOf wide) (l2 := limOf wide) hsc2 rfl B F5 X₀ T L5 (by omega) (by omega) (by rw [e0]; rfl) (by rw [e1]; rfl) (by rw [e2]; rfl) rfl im (w0.good (hk20 _ (by omega))) (w1.good (hk20 _ hf8)) (w2.good (hk20 _ (by omega))) hp0 (by omega) ((if_neg (by decide)).trans ((hm4 _ (by decide)).trans ((if_neg (by decide)).trans hca))) ((if_neg (by decide)).trans hms4) ((if_neg (by decide)).trans ((hm4 _ (by decide)).trans (if_pos rfl))) hE ?_
  intro h6 tk6 m6 D0 D1 D2 vsm6 ms6 hrel im6 hl6 d0 d1 d2 hm6 F6 L6
  dsimp only
  obtain ⟨ms1, ms2, r0, r1, r2⟩ := hrel
  obtain ⟨v0, cp0, _, eq0⟩ := w0.acc r0
  obtain ⟨v1, cp1, _, eq1⟩ := w1.acc r1
  obtain ⟨v2, cp2, _, eq2⟩ := w2.acc r2
  have hms6 : ms6 = [if x.fmod pages ∈ S.take k then m0 else m0 + 1, if x.fmod pages ∈ S.take full then m1 else m1 + 1, if x.fmod pages ∈ S.take wide then m2 else m2 + 1] := by
    rw [eq2, eq1, eq0]
    split <;> split <;> split <;> rfl
  rw [q0, show ((k : Nat) : Int).toNat = k by omega, acc_plain hk1] at v0
  rw [q1, show ((k : Nat) : Int).toNat = k by omega, acc_slack hkw I.f3 I.f2] at v1
  rw [q2, show ((wide : Nat) : Int).toNat = wide by omega, acc_plain (by omega)] at v2
  clear eq0 eq1 eq2 r0 r1 r2
  refine wpAny_execs_cons ?_
  have L6' : Led h₀ L h6 (D0.led w ++ (D1.led w ++ (D2.led w ++ ((L + 1, co) :: (lc, listOf [.ref D0.c, .ref D1.c, .ref D2.c].toArray cc) :: ((lm, listOf vsm6.toArray cm) :: (la, listOf (vsa ++ [Value.int (x.fmod pages) s.toks]).toArray (ca + 1)) :: (lr, listOf vsr4.toArray cr4) :: rest))))) := by
    rw [d0, d1, d2, e0, e1, e2]
    refine L6.perm ?_
    unfold led3
    classical
    exact List.perm_iff_count.mpr fun t => by simp only [List.count_append, List.count_cons]; omega
  have g6 : ∀ y, y ≠ Str.ofString "n" → y ≠ Str.ofString "cache" → y ≠ Str.ofString "got" → y ≠ Str.ofString "before" → y ≠ Str.ofString "fetched" → y ≠ Str.ofString "page" → m6 y = m y := fun y y1 y2 y3 y4 y5 y6 => (hm6 y y1 y2 y3).trans ((if_neg y4).trans ((hm4 y y5).trans (if_neg y6)))
  have mf6 : MFr m6 k wide hh pages lc la lm lr := mf.mono fun y hy => by
    simp only [lawNames, List.mem_cons, List.not_mem_nil, or_false] at hy
    rcases hy with rfl | rfl | rfl | rfl | rfl | rfl | rfl | rfl <;> exact g6 _ (by decide) (by decide) (by decide) (by decide) (by decide) (by decide)
  have hfu6 : m6 (Str.ofString "full") = some (.int (full : Nat) tg) := (g6 _ (by decide) (by decide) (by decide) (by decide) (by decide) (by decide)).trans hfu
  have hfe6 := ((hm6 (Str.ofString "fetched") (by decide) (by decide) (by decide)).trans (if_neg (by decide))).trans hfe4
  have hbf6 : ∃ t, m6 (Str.ofString "before") = some (.int m1 t) := ⟨_, (hm6 (Str.ofString "before") (by decide) (by decide) (by decide)).trans (if_pos rfl)⟩
  have hpg6 : ∃ t, m6 (Str.ofString "page") = some (.int (x.fmod pages) t) := ⟨_, (hm6 (Str.ofString "page") (by decide) (by decide) (by decide)).trans ((if_neg (by decide)).trans ((hm4 _ (by decide)).trans (if_pos rfl)))⟩
  obtain ⟨tb, hbf6⟩ := hbf6
  obtain ⟨tp6, hpg6⟩ := hpg6
  have z0 := v0.len
  have z1 := v1.len
  have z2 := v2.len
  have ck := I'.checks hk1 hkw
  obtain ⟨ck0, ck1, ck2, ck3, ck4, ck5, ck6⟩ := ck
  have hfo : fullOf k wide full (x.fmod pages ∈ S.take full) ≤ wide := I'.f3
  refine held5 hsc2 rfl B F6 X₀ L6' T (by omega) (by omega) hco mf6.caches v0.ok v1.ok v2.ok (by omega) (by unfold fullOf at ck2 hfo; omega) (by omega) hE ?_
  intro h7 tk7 co7 H E0 E1 E2 cH y0 y1 y2 vs0 vs1 vs2 ns0 ns1 ns2 hco7 i0 i1 i2 p0 p1 p2 F7 L7 NH
  dsimp only
  refine wpAny_execs_cons ?_
  rw [hms6] at im6
  obtain ⟨u3, u4, u5, rfl⟩ : ∃ u3 u4 u5, vsm6 = [.int (if x.fmod pages ∈ S.take k then m0 else m0 + 1) u3, .int (if x.fmod pages ∈ S.take full then m1 else m1 + 1) u4, .int (if x.fmod pages ∈ S.take wide then m2 else m2 + 1) u5] := by
    cases im6 with | cons _ u0 im => cases im with | cons _ u1 im => cases im with | cons _ u2 im => cases im with | nil => exact ⟨u0, u1, u2, rfl⟩
  have N7 := news_app NH L7.1
  have r4 : ∀ {q : Addr × Obj} {t : List (Addr × Obj)}, q ∈ t → q ∈ [(H, listOf [.ref E0, .ref E1, .ref E2].toArray cH), (E0, listOf vs0.toArray y0), (E1, listOf vs1.toArray y1), (E2, listOf vs2.toArray y2)] ++ (D0.led w ++ (D1.led w ++ (D2.led w ++ t))) := fun hq => List.mem_append_right _ (List.mem_append_right _ (List.mem_append_right _ (List.mem_append_right _ hq)))
  obtain ⟨⟨tk6', hk6⟩, ⟨tw6, hw6⟩, ⟨th6, hh6⟩, ⟨tpa6, hpa6⟩, hca6, has6, hmi6, hri6⟩ := id mf6
  refine full6 hsc2 rfl F7 X₀ N7 T (r4 (.tail _ (.tail _ (.head _)))) hmi6 hk6 hbf6 hw6 hfu6 hE ?_
  intro h8 tk8 m8 tf8 hm8 hfu8 F8 N8
  dsimp only
  have hfull : (if m1 < (if x.fmod pages ∈ S.take full then m1 else m1 + 1) then (if ((full : Nat) : Int) < ((wide : Nat) : Int) then ((full : Nat) : Int) + 1 else ((k : Nat) : Int)) else ((full : Nat) : Int)) = ((fullOf k wide full (x.fmod pages ∈ S.take full) : Nat) : Int) := by
    unfold fullOf
    by_cases hh : x.fmod pages ∈ S.take full
    · rw [if_pos hh, if_pos hh, if_neg (by omega)]
    · rw [if_neg hh, if_neg hh, if_pos (by omega)]
      by_cases q : full < wide
      · rw [if_pos q, if_pos (by omega)]; omega
      · rw [if_neg q, if_neg (by omega)]
  rw [hfull] at hfu8
  have e8 : ∀ y, y ≠ Str.ofString "full" → m8 y = m6 y := hm8
  have mf8 : MFr m8 k wide hh pages lc la lm lr := mf6.mono fun y hy => by
    simp only [lawNames, List.mem_cons, List.not_mem_nil, or_false] at hy
    rcases hy with rfl | rfl | rfl | rfl | rfl | rfl | rfl | rfl <;> exact e8 _ (by decide)
  have hfe8 := (e8 (Str.ofString "fetched") (by decide)).trans hfe6
  have hpg8 := (e8 (Str.ofString "page") (by decide)).trans hpg6
  have hk8 := (e8 (Str.ofString "k") (by decide)).trans hk6
  have hw8' := (e8 (Str.ofString "wide") (by decide)).trans hw6
  have hh8 := (e8 (Str.ofString "h") (by decide)).trans hh6
  have hmi8 := (e8 (Str.ofString "missed") (by decide)).trans hmi6
  have v0' := v0.rc
  have n0 : ∀ y, y ∈ ns0 ↔ y ∈ (nxt S (x.fmod pages)).take k := fun y => p0.mem_iff.trans v0.mem
  have n1 : ∀ y, y ∈ ns1 ↔ y ∈ (nxt S (x.fmod pages)).take (fullOf k wide full (x.fmod pages ∈ S.take full)) := fun y => p1.mem_iff.trans v1.mem
  have n2 : ∀ y, y ∈ ns2 ↔ y ∈ (nxt S (x.fmod pages)).take wide := fun y => p2.mem_iff.trans v2.mem
  have s0 : ns0.length = ((nxt S (x.fmod pages)).take k).length := by rw [p0.length_eq, List.length_map, z0]
  have s1 : ns1.length = fullOf k wide full (x.fmod pages ∈ S.take full) := by rw [p1.length_eq, List.length_map, z1]; exact ck2
  have s2 : ns2.length = ((nxt S (x.fmod pages)).take wide).length := by rw [p2.length_eq, List.length_map, z2]
  refine wpAny_execs_cons ?_
  refine chk7 hsc2 rfl F8 X₀ N8 T (r4 (.head _)) hco7 (List.mem_append_left _ (.head _)) (List.mem_append_left _ (.tail _ (.head _))) (List.mem_append_left _ (.tail _ (.tail _ (.head _)))) (List.mem_append_left _ (.tail _ (.tail _ (.tail _ (.head _))))) i0 i1 i2 hpg8 hk8 hw8' hfu8 hE
    (by rw [List.size_toArray, i0.length]) (by rw [List.size_toArray, i1.length]) (by rw [List.size_toArray, i2.length]) (by omega) (by omega) (by omega) ((n0 _).mpr ck0) (by omega) (by omega) (by omega) ?_
  intro tk9
  dsimp only
  refine wpAny_execs_cons ?_
  refine chk8 hsc2 rfl F8 X₀ N8 T (r4 (.head _)) hco7 (List.mem_append_left _ (.head _)) (List.mem_append_left _ (.tail _ (.head _))) (List.mem_append_left _ (.tail _ (.tail _ (.head _)))) (List.mem_append_left _ (.tail _ (.tail _ (.tail _ (.head _))))) i0 i1 i2 (by omega) (by omega) (by omega) hE
    (fun y hy => (n1 y).mpr (ck4 y ((n0 y).mp hy))) (fun y hy => (n2 y).mpr (ck5 y ((n1 y).mp hy))) ?_
  intro h10 tk10 F10 N10
  dsimp only
  refine wpAny_execs_cons ?_
  refine chk9 hsc2 rfl F10 X₀ N10 T (r4 (.tail _ (.tail _ (.head _)))) hmi8 hk8 hh8 hfe8 hE ?c1 ?c2 (by omega) (by omega) I'.a1 I'.a2 ck6 ?_
  case c1 => exact Int.le_trans I'.a0 (Int.le_trans I'.a1 I'.a2)
  case c2 =>
    have := I'.a3
    rw [List.length_append, List.length_singleton] at this
    omega
  intro tk11
  dsimp only
  refine wpAny_execs_nil ?_
  have pmE : (D0.led w ++ (D1.led w ++ (D2.led w ++ ((L + 1, co7) :: (lc, listOf [.ref D0.c, .ref D1.c, .ref D2.c].toArray cc) :: ((lm, listOf [.int (if x.fmod pages ∈ S.take k then m0 else m0 + 1) u3, .int (if x.fmod pages ∈ S.take full then m1 else m1 + 1) u4, .int (if x.fmod pages ∈ S.take wide then m2 else m2 + 1) u5].toArray cm) :: (la, listOf (vsa ++ [Value.int (x.fmod pages) s.toks]).toArray (ca + 1)) :: (lr, listOf vsr4.toArray cr4) :: rest))))).Perm
      (led3 w D0 D1 D2 ((lc, listOf [.ref a0, .ref a1, .ref a2].toArray cc) :: (lm, listOf [.int (if x.fmod pages ∈ S.take k then m0 else m0 + 1) u3, .int (if x.fmod pages ∈ S.take full then m1 else m1 + 1) u4, .int (if x.fmod pages ∈ S.take wide then m2 else m2 + 1) u5].toArray cm) :: (L + 1, co7) :: (la, listOf (vsa ++ [Value.int (x.fmod pages) s.toks]).toArray (ca + 1)) :: (lr, listOf vsr4.toArray cr4) :: rest)) := by
    rw [d0, d1, d2, e0, e1, e2]
    unfold led3
    classical
    exact List.perm_iff_count.mpr fun t => by simp only [List.count_append, List.count_cons]; omega
  refine h h10 _ m8 _ ⟨nxt S (x.fmod pages), rivOf hh riv (x.fmod pages) ((x.fdiv pages).fmod hh), _, _, _, _, fullOf k wide full (x.fmod pages ∈ S.take full), D0, D1, D2, _, vsa ++ [Value.int (x.fmod pages) s.toks], vsr4, cm, ca + 1, cr4, co7, some (.ref H), I', ⟨v0, cp0.trans q0, d0.trans e0⟩, ⟨v1, cp1.trans q1, d1.trans e1⟩, ⟨v2, cp2.trans q2, d2.trans e2⟩, im6, ints_snoc ia, ir4, hco7, mf8, ⟨te4, hfe8⟩, ⟨tf8, hfu8⟩, rfl, ((pmE.map (·.1)).nodup_iff.mp L7.2)⟩ F10 (news_sub N10 fun q hq => List.mem_append_right _ (pmE.mem_iff.mpr hq))
end
end Mine

namespace Mine
section
local macro_rules | `(tactic| walk_at "RESET") => `(tactic| trivial)
local macro_rules | `(tactic| walk_at "RESET") => `(tactic| trivial)
local macro_rules | `(tactic| walk_at "RESET") => `(tactic| trivial)
local macro_rules | `(tactic| walk_at "RESET") => `(tactic| trivial)
local macro_rules | `(tactic| walk_at "RESET") => `(tactic| trivial)
local macro_rules | `(tactic| walk_at "RESET") => `(tactic| trivial)
local macro_rules | `(tactic| walk_at "RESET") => `(tactic| trivial)
local macro_rules | `(tactic| walk_at "RESET") => `(tactic| trivial)
local macro_rules | `(tactic| walk_at "RESET") => `(tactic| trivial)
local macro_rules | `(tactic| walk_at "RESET") => `(tactic| trivial)
local macro_rules | `(tactic| walk_at "RESET") => `(tactic| trivial)
local macro_rules | `(tactic| walk_at "RESET") => `(tactic| trivial)
local macro_rules | `(tactic| walk_at "RESET") => `(tactic| trivial)
local macro_rules | `(tactic| walk_at "RESET") => `(tactic| trivial)
local macro_rules | `(tactic| walk_at "RESET") => `(tactic| trivial)
local macro_rules | `(tactic| walk_at "RESET") => `(tactic| trivial)
local macro_rules | `(tactic| walk_at "RESET") => `(tactic| trivial)
local macro_rules | `(tactic| walk_at "RESET") => `(tactic| trivial)
local macro_rules | `(tactic| walk_at "RESET") => `(tactic| trivial)
local macro_rules | `(tactic| walk_at "RESET") => `(tactic| trivial)
local macro_rules | `(tactic| walk_at "RESET") => `(tactic| trivial)
local macro_rules | `(tactic| walk_at "RESET") => `(tactic| trivial)
local macro_rules | `(tactic| walk_at "RESET") => `(tactic| trivial)
local macro_rules | `(tactic| walk_at "RESET") => `(tactic| trivial)
theorem resetL17 : True := by
  w_top off
  first | walk1 | trivial
end
end Mine

namespace Mine
local macro_rules | `(tactic| k_room) => `(tactic| (show _ < _; (try simp only [depth_under_make, depth_under_kw, depth_in1, depth_deeper, depth_caller]); (try unfold recursionLimit); omega))
local macro_rules | `(tactic| k_units) => `(tactic| (show _ < _; (try simp only [units_deeper, units_in1]); (try unfold cLine); omega))
local macro_rules | `(tactic| walk_at "FILL") => `(tactic| (have _fill : (fun (_ : OpenLaw) (_ : Params → Frag) => True) PySem.Challenge.rw_bn5031_01 hd.heap_39 := by k_fill; trivial))
local macro_rules | `(tactic| walk_at "LOOK") => `(tactic| first | assumption | exact if_pos rfl | (refine Eq.trans (if_neg (by decide)) ?_; walk_at "LOOK"))
local macro_rules | `(tactic| k_mem) => `(tactic| first | assumption | (refine List.Mem.tail _ ?_; k_mem))
local macro_rules | `(tactic| walk_at "eval Name") => `(tactic| (k_here; (fail_if_success (with_reducible show wpAny _ _ (eval (Expr.Name (Str.ofString "rest") _) _) _ _ _)); (fail_if_success (with_reducible show wpAny _ _ (eval (Expr.Name (Str.ofString "len") _) _) _ _ _)); (fail_if_success (with_reducible show wpAny _ _ (eval (Expr.Name (Str.ofString "max") _) _) _ _ _)); (fail_if_success (with_reducible show wpAny _ _ (eval (Expr.Name (Str.ofString "page") _) _) _ _ _)); (fail_if_success (with_reducible show wpAny _ _ (eval (Expr.Name (Str.ofString "range") _) _) _ _ _)); k_dflt (refine' ld ?k1 ?k2 ?_; (case k1 => k_asm); (case k2 => walk_at "LOOK"); k_whole)))
local macro_rules | `(tactic| k_all) => `(tactic| with_reducible assumption)
local macro_rules | `(tactic| walk_at "subscriptTail") => `(tactic| (k_here; (with_reducible show wpAny _ _ (subscriptTail _ _ (Value.ref _) (Value.int _ _)) _ _ _); k_dflt (refine' sub_at ?k1 ?k2 ?k3 ?k4 ?k5 ?_ ?k7; (case k1 => k_asm); (case k2 => k_mem); (case k5 => exact rfl); (case k3 => decide); (case k4 => decide); (case k7 => with_unfolding_all rfl); k_whole)))
local macro_rules | `(tactic| walk_at "call builtin:len") => `(tactic| (k_here; (with_reducible show wpAny _ _ (call (Value.builtin "len") [Value.ref _]) _ _ _); k_dflt (refine' KM.len_K ?N ?hm ?hs ?hf ?_; (case N => k_asm); (case hm => k_mem); (case hs => assumption); (case hf => assumption); k_whole)))
local macro_rules | `(tactic| walk_at "isTrue BoolOp") => `(tactic| (k_here; (try dsimp only); k_gentoks; walk_at "isTrue BoolOp"))
local macro_rules | `(tactic| walk_at "binaryOp Mod int int") => `(tactic| (k_here; k_dflt (with_reducible refine mod_int' (by omega) ?_)))
local macro_rules | `(tactic| walk_at "binaryOp FloorDiv int int") => `(tactic| (k_here; k_dflt (with_reducible refine floordiv_int (by omega) ?_ (Or.inl (PyProof.noPylong_small (by omega))))))
local macro_rules | `(tactic| walk_at "loadName") => `(tactic| (k_here; k_dflt (refine' ldn ?k1 ?k2 ?_; (case k1 => k_asm); (case k2 => walk_at "LOOK"); k_whole)))

local macro_rules | `(tactic| walk_at "subscriptTail") => `(tactic| (k_here; (with_reducible show wpAny _ _ (subscriptTail _ _ (Value.ref _) (Value.int _ _)) _ _ _); k_dflt (refine' sub_at ?k1 ?k2 ?k3 ?k4 ?k5 ?_ ?k7; (case k1 => k_asm); (case k2 => k_mem); (case k5 => assumption); (case k3 => assumption); (case k4 => assumption); (case k7 => with_unfolding_all rfl); k_whole)))
theorem isl_of {h₀ h : Heap} {L D : Addr} {news : List (Addr × Obj)} {vs : List Value} {n : Nat} (N : News h₀ L h news) (hm : (D, listOf vs.toArray n) ∈ news) : h.IsList D vs.toArray := ⟨_, (N _ hm).1, rfl, n, rfl⟩
local macro_rules | `(tactic| walk_at "subscriptTail Name Slice ref ref") => `(tactic| (k_here; (with_reducible show wpAny _ _ (subscriptTail _ (PySem.Expr.Slice _ _ none _) (Value.ref _) (Value.ref _)) _ _ _); k_dflt (refine' kmk_slice_lit ?F ?N ?l ?p ?q ?e ?_ ?s ?t ?z; (case F => k_asm); (case N => k_asm); (case l => exact isl_of (by k_asm) (by k_mem)); (case p => kmk_part); (case q => kmk_part); (case e => assumption); (case s => with_unfolding_all rfl); (case t => kmk_pure); (case z => (rw [List.size_toArray, sizeLine_eq]; omega))); intro D' h' F' N' l1; (try k_lt l1); (try k_sweep)))
theorem ints_drop : ∀ {vs : List Value} {ns : List Int} (n : Nat), IntsAre vs ns → IntsAre (vs.drop n) (ns.drop n)
  | _, _, 0, h => h
  | _, _, _ + 1, .nil => by simp; exact .nil
  | _, _, n + 1, .cons _ _ h => ints_drop n h
theorem off_of {o : Obj} {v : Option Value} {P : Obj → Prop} (_h : o.data = .cell v) (H : ∀ o, P o) : P o := H o
theorem at_idx : ∀ (l : List Int) (M : Int), M ∈ l → l[l.idxOf M]? = some M
  | [], _, h => by cases h
  | a :: l, M, h => by
    by_cases e : a = M
    · subst e; rw [idx_eq]; rfl
    · rw [idx_ne e, List.getElem?_cons_succ]
      exact at_idx l M ((List.mem_cons.mp h).resolve_left fun q => e q.symm)
theorem far_max {g : Int → Int} {Bh B1 B2 : List Int} {f M : Int} (hM : M ∈ Bh.map g) (c2 : Bh = B1 ++ f :: B2) (c3 : B1.length = (Bh.map g).idxOf M) : M = g f := by
  have h := at_idx _ _ hM
  rw [← c3, c2, List.map_append, List.map_cons, List.getElem?_append_right (by rw [List.length_map]; exact Nat.le_refl _), List.length_map, Nat.sub_self] at h
  exact (Option.some.inj h).symm
theorem cut_at : ∀ {vs : List Value} {ns : List Int} (j : Nat), IntsAre vs ns → j < ns.length → ∃ p y q B1 f B2, kl_cut vs j = some (p, y, q) ∧ ns = B1 ++ f :: B2 ∧ B1.length = j ∧ IntsAre (p ++ q) (B1 ++ B2)
  | _, _, _, .nil, hj => by simp at hj
  | _, _, 0, .cons n t h, _ => ⟨[], Value.int n t, _, [], n, _, rfl, rfl, rfl, h⟩
  | _, _, j + 1, .cons n t h, hj => by
    obtain ⟨p, y, q, B1, f, B2, e1, e2, e3, e4⟩ := cut_at j h (by simpa using hj)
    refine ⟨Value.int n t :: p, y, q, n :: B1, f, B2, ?_, by rw [e2]; rfl, by rw [List.length_cons, e3], .cons n t e4⟩
    show (match kl_cut _ j with | some (p, y, q) => some (Value.int n t :: p, y, q) | none => none) = _
    rw [e1]
theorem kf_ints_of : ∀ {vs : List Value} {ns : List Int}, IntsAre vs ns → kf_ints vs = true
  | _, _, .nil => rfl
  | .int _ _ :: vs, _, .cons _ _ h => by show kf_ints vs = true; exact kf_ints_of h
theorem kf_at_of {k : Int} : ∀ {vs : List Value} {ns : List Int}, IntsAre vs ns → k ∈ ns → kf_at k vs = some (ns.idxOf k)
  | _, _, .nil, h => by cases h
  | _, _, .cons n t hh, h => by
    unfold kf_at
    by_cases e : n = k
    · subst e
      rw [idx_eq, show isInt n (.int n t) = true by simp [isInt]]; rfl
    · have h' := (List.mem_cons.mp h).resolve_left (fun q => e q.symm)
      rw [idx_ne e, show isInt k (.int n t) = false by simp [isInt, e], kf_at_of hh h']; rfl
theorem in_has {prog : Program} {w : World} {A : Around} {E : Value → Shared → Prop} {s : Shared} {h₀ : Heap} {L D : Addr} {news : List (Addr × Obj)} {vs : List Value} {ns : List Int} {n : Nat} {k : Int} {u : Tok} {Q : Value → Shared → Prop}
    (N : News h₀ L s.heap news) (hm : (D, listOf vs.toArray n) ∈ news) (hi : IntsAre vs ns) (hk : k ∈ ns) (h : Q (.bool true) s) : wpAny (model prog w) A (compareOp .In (.int k u) (.ref D)) Q E s :=
  in_list_ints (l := D) ⟨_, (N _ hm).1, rfl, n, rfl⟩ hi (by
    have e : ns.any (· == k) = true := List.any_eq_true.mpr ⟨k, hk, by simp⟩
    rw [e]; exact h)
theorem in_not {prog : Program} {w : World} {A : Around} {E : Value → Shared → Prop} {s : Shared} {h₀ : Heap} {L D : Addr} {news : List (Addr × Obj)} {vs : List Value} {ns : List Int} {n : Nat} {k : Int} {u : Tok} {Q : Value → Shared → Prop}
    (N : News h₀ L s.heap news) (hm : (D, listOf vs.toArray n) ∈ news) (hi : IntsAre vs ns) (hk : k ∉ ns) (h : Q (.bool false) s) : wpAny (model prog w) A (compareOp .In (.int k u) (.ref D)) Q E s :=
  in_list_ints (l := D) ⟨_, (N _ hm).1, rfl, n, rfl⟩ hi (by
    have e : ns.any (· == k) = false := by
      rw [List.any_eq_false]
      intro x hx q
      exact hk (by simpa using (show x = k by simpa using q) ▸ hx)
    rw [e]; exact h)
theorem index_at {prog : Program} {w : World} {A : Around} {E : Value → Shared → Prop} {s : Shared} {h₀ : Heap} {L D : Addr} {news : List (Addr × Obj)} {vs : List Value} {ns : List Int} {n : Nat} {k : Int} {u : Tok} {Q : Value → Shared → Prop}
    (N : News h₀ L s.heap news) (hm : (D, listOf vs.toArray n) ∈ news) (hi : IntsAre vs ns) (hk : k ∈ ns) (hz : ns.length ≤ 100) (h : ∀ t tk, Q (.int ((ns.idxOf k : Nat) : Int) t) { s with toks := tk }) : wpAny (model prog w) A (call (.builtin "list.index") [.ref D, .int k u]) Q E s :=
  kf_index N hm (kf_ints_of hi) (kf_at_of hi hk) rfl (by rw [hi.length, sizeLine_eq]; omega) (h _ _)
def IntEnd (h₀ : Heap) (L : Addr) (m : Str → Option Value) (s : Shared) (all : List (Addr × Obj)) (g : Int) (y : Value) (s' : Shared) : Prop := (∃ t, y = .int g t) ∧ ∃ h' tk', s' = { s with heap := h', toks := tk' } ∧ Fr h₀ L h' m ∧ News h₀ L h' all
theorem IntEnd.intro {h₀ : Heap} {L : Addr} {m : Str → Option Value} {s : Shared} {all : List (Addr × Obj)} {g g' : Int} {t : Tok} {h' : Heap} {tk' : Nat} (e : g' = g) (F : Fr h₀ L h' m) (N : News h₀ L h' all) : IntEnd h₀ L m s all g (.int g' t) { s with heap := h', toks := tk' } := ⟨⟨t, by rw [e]⟩, h', tk', rfl, F, N⟩
theorem rest_ints {prog : Program} {w : World} {A : Around} {s : Shared} {h₀ : Heap} {L : Addr} {m : Str → Option Value} {env : Env} {elt : Expr} {x : Str} {scope : Scope} {cl : List (Str × Addr)} {S : List (Addr × Obj) → Prop} {P : Nat → Value → Prop} {Fin : List Value → List (Addr × Obj) → Prop} {news : List (Addr × Obj)} {ds : List Int}
    (turn : ∀ i v I oI C oC D ys m₂ h tk (E' : Value → Shared → Prop), P i v → LCg.NsObj oC m₂ → m₂ x = some v → Fr h₀ L h m → News h₀ L h ((I, oI) :: (C, oC) :: (D, LCg.lst ys) :: news) →
      ∃ g, ds[i]? = some g ∧ wpAny (model prog w) A (eval elt (compEnvC scope cl C env)) (IntEnd h₀ L m { s with heap := h, toks := tk } ((I, oI) :: (C, oC) :: (D, LCg.lst ys) :: news) g) E' { s with heap := h, toks := tk })
    (hS : S news) (hF : ∀ ys, IntsAre ys ds → Fin ys news) : ∀ k i ys, i + k = ds.length → IntsAre ys (ds.take i) → LCg.CompRest prog w A h₀ L m env elt x scope cl s S P Fin k i ys news
  | 0, i, ys, e, hy => hF ys (by rw [List.take_of_length_le (by omega)] at hy; exact hy)
  | k + 1, i, ys, e, hy => by
    refine LCg.CompRest.succ fun v I oI C oC D m₂ h tk E' hv hC hx F N off ne => ?_
    obtain ⟨g, hg, ht⟩ := turn i v I oI C oC D ys m₂ h tk E' hv hC hx F N
    refine wpAny_mono ht (fun y s' he => ?_) fun _ _ y => y
    obtain ⟨⟨t, rfl⟩, h', tk', rfl, F', N'⟩ := he
    refine ⟨h', tk', news, rfl, F', N', off, hS, rest_ints turn hS hF k (i + 1) _ (by omega) ?_⟩
    rw [List.take_add_one, hg]
    exact ints_snoc hy
local macro_rules | `(tactic| walk_at "call builtin:max") => `(tactic| (k_here; (with_reducible show wpAny _ _ (call (Value.builtin _) [Value.ref _]) _ _ _); k_dflt (refine' kso_max ?F ?N ?l ?i ?n ?h ?_; (case i => assumption); (case F => k_asm); (case N => k_asm); (case l => exact isl_of (by k_asm) (by k_mem)); (case n => assumption); (case h => exact rfl); k_whole); intro h' M' t' k' F' N' a' b'))
local macro_rules | `(tactic| walk_at "CompSrc") => `(tactic| (k_here; refine hold ?_))
local macro_rules | `(tactic| walk_at "call builtin:list.pop") => `(tactic| (k_here; refine hold ?_))
local macro_rules | `(tactic| walk_at "exec Assign cons ListComp") => `(tactic| (k_here; refine hold ?_))
local macro_rules | `(tactic| walk_at "compareOp In int ref") => `(tactic| (k_here; k_dflt (first
  | (refine' in_has ?N ?m ?i ?k ?_; (case k => assumption); (case N => k_asm); (case m => k_mem); (case i => assumption); k_whole)
  | (refine' in_not ?N ?m ?i ?k ?_; (case k => assumption); (case N => k_asm); (case m => k_mem); (case i => assumption); k_whole))))
local macro_rules | `(tactic| walk_at "call builtin:list.index") => `(tactic| (k_here; (with_reducible show wpAny _ _ (call (Value.builtin _) [Value.ref _, Value.int _ _]) _ _ _); k_dflt (refine' index_at ?N ?m ?i ?k ?z ?_; (case k => assumption); (case N => k_asm); (case m => k_mem); (case i => assumption); (case z => assumption); k_whole); intro t' tk'))
section
variable {w : World} {A₀ : Around} {base h₀ : Heap} {outer : List Env} {L fa : Addr} {cd : Value} {m : Str → Option Value} {p : Program} {loose : List Str} {mean : ExcName → Option Value} {mg mb : Str → Option Value} {s : Shared} {E : Value → Shared → Prop} {Q : Flow → Shared → Prop}
    {dp un : Nat} {gd : Option (List Code)} {tl : List (Addr × Obj)} {sc : Scope} {body : List Stmt}
theorem least_turn {lh la cB ca W : Nat} {vsB vsa : List Value} {Bh as : List Int} {co : Obj} {cv : Option Value} {q nn M : Int} {tq tn tw tM : Tok}
    (hsc : sc = leastScope) (hbody : body = leastLoop)
    (F : Fr h₀ L s.heap m) (X₀ : (hd.heap_39 w.params).In h₀) (N : News h₀ L s.heap ((lh, listOf vsB.toArray cB) :: (L + 1, co) :: (la, listOf vsa.toArray ca) :: tl)) (T : Top p loose mean mg mb h₀)
    (hun : un < 1000) (iB : IntsAre vsB Bh) (ia : IntsAre vsa as) (hco : co.data = .cell cv) (hB20 : Bh.length ≤ 20) (ha20 : as.length ≤ 20)
    (hn0 : 0 ≤ nn) (hn63 : nn < 2 ^ 63) (hx : vsa[nn.toNat]? = some (.int q tq)) (hqa : as[nn.toNat]? = some q) (hW1 : 1 ≤ W)
    (nd : (((lh, listOf vsB.toArray cB) :: (L + 1, co) :: (la, listOf vsa.toArray ca) :: tl).map (·.1) : List Nat).Nodup)
    (hh : m (Str.ofString "held") = some (.ref lh)) (hak : m (Str.ofString "asked") = some (.ref la)) (hpl : m (Str.ofString "places") = some (.int (W : Nat) tw)) (hmi : m (Str.ofString "missed") = some (.int M tM)) (hnm : m (Str.ofString "n") = some (.int nn tn))
    (hE : PassesOwn (MO w) (Ar dp (envOfC (Str.ofString "_law_least") sc L fa cd :: outer) gd un) (envOfC (Str.ofString "_law_least") sc L fa cd) E)
    (h : ∀ (fl : Flow) h' tk m' B1 M1 vsB' cB' co' cv', (fl = .next ∨ fl = .cont) → BStep W (as.drop (nn + 1).toNat) q Bh B1 M M1 → IntsAre vsB' B1 → co'.data = .cell cv' → (∀ y, y ≠ Str.ofString "missed" → y ≠ Str.ofString "far" → m' y = m y) → (∃ t, m' (Str.ofString "missed") = some (.int M1 t)) →
      Fr h₀ L h' m' → News h₀ L h' ((lh, listOf vsB'.toArray cB') :: (L + 1, co') :: (la, listOf vsa.toArray ca) :: tl) → Q fl { s with heap := h', toks := tk })
    :
    wpAny (MO w) (Ar dp (envOfC (Str.ofString "_law_least") sc L fa cd :: outer) gd un) (execs body (envOfC (Str.ofString "_law_least") sc L fa cd)) Q E s := by
  walk_at "FILL"
  conv at hsc => rhs; whnf
  conv at hbody => rhs; whnf
  subst hsc
  subst hbody
  have hf62 : Bh.length < 2 ^ 62 := by omega
  have hpk : (slicePick vsa.toArray (some (nn + 1)) none none).toList = vsa.drop (nn + 1).toNat := pick_from vsa (by omega)
  have hlA : s.heap.IsList la vsa.toArray := ⟨_, (N _ (.tail _ (.tail _ (.head _)))).1, rfl, ca, rfl⟩
  have hszA : vsa.length ≤ 20 := by rw [ia.length]; exact ha20
  simp only [List.map_cons, List.nodup_cons, List.mem_cons, not_or] at nd
  obtain ⟨⟨n1, n2, n3⟩, ⟨n4, n5⟩, n6, _⟩ := nd
  have hoffG : ∀ (co : Obj), ∀ q ∈ ((L + 1, co) :: (la, listOf vsa.toArray ca) :: tl), q.1 ≠ lh := fun co q hq e => by
    rcases List.mem_cons.mp hq with rfl | hq
    · exact n1 e.symm
    · rcases List.mem_cons.mp hq with rfl | hq
      · exact n2 e.symm
      · exact n3 (List.mem_map.mpr ⟨q, hq, e⟩)
  have hoffH := hoffG co
  have hoffC : ∀ q ∈ ((la, listOf vsa.toArray ca) :: tl), q.1 ≠ L + 1 := fun q hq e => by
    rcases List.mem_cons.mp hq with rfl | hq
    · exact n4 e.symm
    · exact n5 (List.mem_map.mpr ⟨q, hq, e⟩)
  have zB : vsB.toArray.size = Bh.length := by rw [List.size_toArray, iB.length]
  by_cases hmem : q ∈ Bh
  · k_steps
    all_goals (try k_data)
    show Q .cont _
    exact h .cont s.heap s.toks m Bh M vsB cB co cv (.inr rfl) (.inl ⟨hmem, rfl, rfl⟩) iB hco (fun _ _ _ => rfl) ⟨tM, hmi⟩ F N
  · have irs := ints_drop (nn + 1).toNat ia
    obtain ⟨rs, hrs⟩ : ∃ rs, rs = as.drop (nn + 1).toNat := ⟨_, rfl⟩
    rw [← hrs] at irs
    have hlr : (vsa.drop (nn + 1).toNat).toArray.size = rs.length := by rw [List.size_toArray, irs.length]
    have hr20 : rs.length ≤ 20 := by rw [hrs, List.length_drop]; omega
    have hr62 : rs.length < 2 ^ 62 := by omega
    have hr100 : rs.length ≤ 100 := by omega
    have zB2 : vsB.toArray.size ≤ sizeLine := by rw [List.size_toArray, iB.length, sizeLine_eq]; omega
    k_steps
    all_goals (try k_data)
    · show wpAny _ _ (exec _ _) _ _ _
      rename Fr h₀ L _ _ => F3
      rename News h₀ L _ _ => N3
      refine LCg.Assign_ListComp_U (F₀ := F3) (by rfl) (by with_unfolding_all rfl) (by with_unfolding_all rfl) (by decide) (by rfl) (by decide) (by rfl) (by rfl) (by rfl) ?_
      k_steps
      all_goals (try k_data)
      show LCg.CompSrc _ _ _ _ _ _ _ _ _ _ _ _ _ _
      refine LCg.CompSrc.ledger (by rfl) (by k_asm) N3 (.tail _ (.head _)) zB2 fun g' => rest_ints (ds := Bh.map fun y => ((rs.idxOf y : Nat) : Int)) ?turn (.inr ⟨_, .tail _ (.head _), rfl, _, rfl⟩) ?fin _ 0 [] (by rw [List.length_map, Nat.zero_add]; exact zB) .nil
      case turn =>
        intro i v I oI C oC D ys m₂ h1 tk1 E' hv hC1 hx1 F1 N1
        obtain ⟨g, t, rfl, hg, hgi⟩ := ints_at iB (by simpa using hv)
        refine ⟨_, (by rw [List.getElem?_map, hgi]; rfl), ?_⟩
        by_cases hr : g ∈ rs
        · k_steps
          exact IntEnd.intro rfl (by assumption) (by assumption)
        · k_steps
          exact IntEnd.intro (by rw [List.idxOf_eq_length hr]) (by assumption) (by assumption)
      case fin =>
        intro ys hys D h1 tk1 F1 N1 o1
        dsimp only
        have hW : Bh.length = W := by omega
        have hds : 0 < (Bh.map fun y => ((rs.idxOf y : Nat) : Int)).length := by rw [List.length_map]; omega
        have hds2 : (Bh.map fun y => ((rs.idxOf y : Nat) : Int)).length ≤ 100 := by rw [List.length_map]; omega
        k_steps
        all_goals (try k_data)
        rename News h₀ L _ _ => N4
        rename Fr h₀ L _ _ => F4
        rename _ ∈ _ => hM
        rename ∀ a ∈ _, a ≤ _ => hMx
        show wpAny _ _ (call (Value.builtin "list.pop") _) _ _ _
        have hj := List.idxOf_lt_length_iff.mpr hM
        rw [List.length_map] at hj
        obtain ⟨p1, y1, q1, B1, f, B2, c1, c2, c3, c4⟩ := cut_at _ iB hj
        simp only [LCg.Off1] at o1
        obtain ⟨o11, o12, o13, o14, _⟩ := o1
        refine' kl_popAt F4 N4 ?hf ?hk c1 (.tail ?u1 (.tail ?u2 (.head (hoffG _)))) ?hz ?_
        case hf =>
          unfold Builtin.List.listFitsIndex
          simp only [Bool.and_eq_true, decide_eq_true_eq]
          omega
        case hk => exact (seqIndex_of (by omega) (by rw [zB]; omega)).trans (by rw [Int.toNat_natCast])
        case u1 => exact fun e => o12 e.symm
        case u2 => k_ne
        case hz => exact zB2
        intro h7 F7 N7
        dsimp only
        rename _ = Data.cell _ => hc3
        have hoffH2 := off_of hc3 hoffG
        have N8 := news_sub N7 fun q hq => .tail _ (.tail _ hq)
        clear N7 N4 N3 F4 F3
        have zP : (p1 ++ q1).toArray.size ≤ sizeLine := by
          rw [List.size_toArray, c4.length, sizeLine_eq]
          rw [c2, List.length_append, List.length_cons] at hB20
          rw [List.length_append]; omega
        k_steps
        all_goals (try k_data)
        rename News h₀ L _ _ => N9
        rename Fr h₀ L _ _ => F9
        rw [List.push_toArray] at N9
        refine h .next _ _ _ (B1 ++ B2 ++ [q]) (M + 1) _ _ _ _ (.inl rfl) (.inr (.inr ⟨hmem, hW, B1, f, B2, c2, fun y hy => ?_, rfl, rfl⟩)) (ints_snoc c4) hc3 (fun y y1 y2 => (if_neg y2).trans (if_neg y1)) ⟨_, (if_neg (by decide)).trans (if_pos rfl)⟩ F9 N9
        rw [← hrs]
        have e1 := far_max hM c2 c3
        have e2 := hMx _ (List.mem_map_of_mem hy)
        omega
    · rename News h₀ L _ _ => N4
      rename Fr h₀ L _ _ => F4
      rw [List.push_toArray] at N4
      exact h .next _ _ _ (Bh ++ [q]) (M + 1) _ _ co cv (.inl rfl) (.inr (.inl ⟨hmem, by omega, rfl, rfl⟩)) (ints_snoc iB) hco (fun y y1 y2 => if_neg y1) ⟨_, if_pos rfl⟩ F4 N4
end
end Mine

namespace Mine
section
local macro_rules | `(tactic| walk_at "RESET") => `(tactic| trivial)
local macro_rules | `(tactic| walk_at "RESET") => `(tactic| trivial)
local macro_rules | `(tactic| walk_at "RESET") => `(tactic| trivial)
local macro_rules | `(tactic| walk_at "RESET") => `(tactic| trivial)
local macro_rules | `(tactic| walk_at "RESET") => `(tactic| trivial)
local macro_rules | `(tactic| walk_at "RESET") => `(tactic| trivial)
local macro_rules | `(tactic| walk_at "RESET") => `(tactic| trivial)
local macro_rules | `(tactic| walk_at "RESET") => `(tactic| trivial)
local macro_rules | `(tactic| walk_at "RESET") => `(tactic| trivial)
local macro_rules | `(tactic| walk_at "RESET") => `(tactic| trivial)
local macro_rules | `(tactic| walk_at "RESET") => `(tactic| trivial)
local macro_rules | `(tactic| walk_at "RESET") => `(tactic| trivial)
local macro_rules | `(tactic| walk_at "RESET") => `(tactic| trivial)
local macro_rules | `(tactic| walk_at "RESET") => `(tactic| trivial)
local macro_rules | `(tactic| walk_at "RESET") => `(tactic| trivial)
local macro_rules | `(tactic| walk_at "RESET") => `(tactic| trivial)
local macro_rules | `(tactic| walk_at "RESET") => `(tactic| trivial)
local macro_rules | `(tactic| walk_at "RESET") => `(tactic| trivial)
local macro_rules | `(tactic| walk_at "RESET") => `(tactic| trivial)
local macro_rules | `(tactic| walk_at "RESET") => `(tactic| trivial)
local macro_rules | `(tactic| walk_at "RESET") => `(tactic| trivial)
local macro_rules | `(tactic| walk_at "RESET") => `(tactic| trivial)
local macro_rules | `(tactic| walk_at "RESET") => `(tactic| trivial)
local macro_rules | `(tactic| walk_at "RESET") => `(tactic| trivial)
theorem resetL18 : True := by
  w_top off
  first | walk1 | trivial
end
end Mine

namespace Mine
local macro_rules | `(tactic| k_room) => `(tactic| (show _ < _; (try simp only [depth_under_make, depth_under_kw, depth_in1, depth_deeper, depth_caller]); (try unfold recursionLimit); omega))
local macro_rules | `(tactic| k_units) => `(tactic| (show _ < _; (try simp only [units_deeper, units_in1]); (try unfold cLine); omega))
local macro_rules | `(tactic| walk_at "FILL") => `(tactic| (have _fill : (fun (_ : OpenLaw) (_ : Params → Frag) => True) PySem.Challenge.rw_bn5031_01 hd.heap_39 := by k_fill; trivial))
local macro_rules | `(tactic| walk_at "LOOK") => `(tactic| first | assumption | exact if_pos rfl | (refine Eq.trans (if_neg (by decide)) ?_; walk_at "LOOK"))
local macro_rules | `(tactic| k_mem) => `(tactic| first | assumption | (refine List.Mem.tail _ ?_; k_mem))
local macro_rules | `(tactic| walk_at "eval Name") => `(tactic| (k_here; (fail_if_success (with_reducible show wpAny _ _ (eval (Expr.Name (Str.ofString "rest") _) _) _ _ _)); (fail_if_success (with_reducible show wpAny _ _ (eval (Expr.Name (Str.ofString "len") _) _) _ _ _)); (fail_if_success (with_reducible show wpAny _ _ (eval (Expr.Name (Str.ofString "max") _) _) _ _ _));  (fail_if_success (with_reducible show wpAny _ _ (eval (Expr.Name (Str.ofString "range") _) _) _ _ _)); k_dflt (refine' ld ?k1 ?k2 ?_; (case k1 => k_asm); (case k2 => walk_at "LOOK"); k_whole)))
local macro_rules | `(tactic| k_all) => `(tactic| with_reducible assumption)
local macro_rules | `(tactic| walk_at "subscriptTail") => `(tactic| (k_here; (with_reducible show wpAny _ _ (subscriptTail _ _ (Value.ref _) (Value.int _ _)) _ _ _); k_dflt (refine' sub_at ?k1 ?k2 ?k3 ?k4 ?k5 ?_ ?k7; (case k1 => k_asm); (case k2 => k_mem); (case k5 => exact rfl); (case k3 => decide); (case k4 => decide); (case k7 => with_unfolding_all rfl); k_whole)))
local macro_rules | `(tactic| walk_at "call builtin:len") => `(tactic| (k_here; (with_reducible show wpAny _ _ (call (Value.builtin "len") [Value.ref _]) _ _ _); k_dflt (refine' KM.len_K ?N ?hm ?hs ?hf ?_; (case N => k_asm); (case hm => k_mem); (case hs => assumption); (case hf => assumption); k_whole)))
local macro_rules | `(tactic| walk_at "isTrue BoolOp") => `(tactic| (k_here; (try dsimp only); k_gentoks; walk_at "isTrue BoolOp"))
local macro_rules | `(tactic| walk_at "binaryOp Mod int int") => `(tactic| (k_here; k_dflt (with_reducible refine mod_int' (by omega) ?_)))
local macro_rules | `(tactic| walk_at "binaryOp FloorDiv int int") => `(tactic| (k_here; k_dflt (with_reducible refine floordiv_int (by omega) ?_ (Or.inl (PyProof.noPylong_small (by omega))))))
local macro_rules | `(tactic| walk_at "loadName") => `(tactic| (k_here; k_dflt (refine' ldn ?k1 ?k2 ?_; (case k1 => k_asm); (case k2 => walk_at "LOOK"); k_whole)))

local macro_rules | `(tactic| walk_at "subscriptTail") => `(tactic| (k_here; (with_reducible show wpAny _ _ (subscriptTail _ _ (Value.ref _) (Value.int _ _)) _ _ _); k_dflt (refine' sub_at ?k1 ?k2 ?k3 ?k4 ?k5 ?_ ?k7; (case k1 => k_asm); (case k2 => k_mem); (case k5 => assumption); (case k3 => assumption); (case k4 => assumption); (case k7 => with_unfolding_all rfl); k_whole)))
local macro_rules | `(tactic| walk_at "pyIter ref") => `(tactic| (k_here; refine hold ?_))
local macro_rules | `(tactic| walk_at "ENTERC") => `(tactic| (
  refine' code_defC ?k1 ?k2 ?k3 ?k4 ?k5 ?kA ?kF ?kK ?k6 ?k7 ?k8 ?k9 ?kB ?kD ?_ ?c2 ?c3 ?c4; (case kA => exact rfl); (case kF => assumption); (case kK => assumption); (case k1 => assumption); (case k2 => assumption); (case k3 => assumption); (case k4 => assumption); (case k5 => assumption); (case k6 => k_is); (case k7 => k_is); (case k8 => k_room); (case k9 => first | exact BindsTo.of_eq rfl | exact binds_K (by k_in) rfl (by k_is) rfl rfl rfl | fail "k_enter: no rule for these arguments"); (case kB => exact rfl); (case kD => decide +kernel); (case c2 => exact rfl); (case c3 => exact rfl); (case c4 => exact rfl); k_whole))
theorem rng_size (n : Nat) : Builtin.Range.rangeSize 0 (n : Int) 1 = (n : Int) := by
  unfold Builtin.Range.rangeSize
  simp only [show ((1 : Int) > 0) by decide, if_true, Int.ediv_one]
  split <;> omega
theorem rng_small (n : Nat) (h : n ≤ 100) : Builtin.Range.small 0 (n : Int) 1 = true := small_one (by omega) (by omega) (by omega) (by omega)
theorem least_start {g h : Heap} {L' D lh la lm : Nat} {dobj o' A lmo : Obj} (N : News g L' h [(D, dobj), (lh, listOf #[] 0), (L' + 1, o'), (la, A), (lm, lmo)]) (lH : @LT.lt Nat _ (L' + 1) lh ∧ @LT.lt Nat _ la lh ∧ @LT.lt Nat _ lm lh) (h1 : @LT.lt Nat _ la L') (h2 : @LT.lt Nat _ lm L') (hne : @Ne Nat la lm) :
    Led g L' h [(lh, listOf #[] 0), (L' + 1, o'), (la, A), (lm, lmo)] := by
  refine ⟨fun q hq => N q (.tail _ hq), ?_⟩
  simp only [List.map_cons, List.map_nil, List.nodup_cons, List.mem_cons, List.not_mem_nil, or_false, not_or, List.nodup_nil, and_true, not_false_eq_true]
  omega
section
variable {w : World} {h₀ : Heap} {outer : List Env} {L fa : Addr} {cd : Value} {m : Str → Option Value} {p : Program} {loose : List Str} {mean : ExcName → Option Value} {mg mb : Str → Option Value} {s : Shared} {E : Value → Shared → Prop} {Q : Flow → Shared → Prop}
    {dp un : Nat} {gd : Option (List Code)} {sc : Scope} {body : List Stmt}
theorem least_loop {lh la lm ca W r : Nat} {vsa : List Value} {as : List Int} {o' lmo : Obj} {tw tM t₀ u₀ v₀ : Tok}
    (hsc : sc = leastScope) (hbody : body = leastLoop)
    (F : Fr h₀ L s.heap m) (X₀ : (hd.heap_39 w.params).In h₀) (N : Led h₀ L s.heap [(lh, listOf #[] 0), (L + 1, o'), (la, listOf vsa.toArray ca), (lm, lmo)]) (T : Top p loose mean mg mb h₀) (hun : un < 1000)
    (hr : IsRange s.heap r 0 (as.length : Nat) 1 t₀ u₀ v₀) (ia : IntsAre vsa as) (ha20 : as.length ≤ 20) (hW1 : 1 ≤ W) (hco : o'.data = .cell none)
    (hh : m (Str.ofString "held") = some (.ref lh)) (hak : m (Str.ofString "asked") = some (.ref la)) (hpl : m (Str.ofString "places") = some (.int (W : Nat) tw)) (hmi : m (Str.ofString "missed") = some (.int 0 tM))
    (hE : PassesOwn (MO w) (Ar dp (envOfC (Str.ofString "_law_least") sc L fa cd :: outer) gd un) (envOfC (Str.ofString "_law_least") sc L fa cd) E)
    (done : ∀ h' tk m' M t B' n', BRun W as [] 0 B' M → m' (Str.ofString "missed") = some (.int M t) → Fr h₀ L h' m' → News h₀ L h' (n' ++ [(la, listOf vsa.toArray ca), (lm, lmo)]) → Q .next { s with heap := h', toks := tk }) :
    wpAny (MO w) (Ar dp (envOfC (Str.ofString "_law_least") sc L fa cd :: outer) gd un) (pyIter (.ref r)) (fun it s₂ => LoopAtV PySem.Challenge.rw_bn5031_01.row.prog w (Ar dp (envOfC (Str.ofString "_law_least") sc L fa cd :: outer) gd un) h₀ (envOfC (Str.ofString "_law_least") sc L fa cd) (Str.ofString "n") body Q E it s₂) E s := by
  refine iter_rng (n := as.length) (fun i m₁ n₁ => ∃ Bh M vsB cB co cv, IntsAre vsB Bh ∧ Bh.length ≤ i ∧ co.data = .cell cv ∧ (∀ B' M', BRun W (as.drop i) Bh M B' M' → BRun W as [] 0 B' M') ∧ (m₁ (Str.ofString "held") = some (.ref lh) ∧ m₁ (Str.ofString "asked") = some (.ref la) ∧ m₁ (Str.ofString "places") = some (.int (W : Nat) tw) ∧ ∃ t, m₁ (Str.ofString "missed") = some (.int M t)) ∧
      n₁ = [(lh, listOf vsB.toArray cB), (L + 1, co), (la, listOf vsa.toArray ca), (lm, lmo)] ∧ (n₁.map (·.1) : List Nat).Nodup) rfl hr (rng_small _ (by omega)) (rng_size _) F N.1 ⟨[], 0, [], 0, o', none, .nil, Nat.le_refl _, hco, fun _ _ h => h, ⟨hh, hak, hpl, _, hmi⟩, rfl, N.2⟩ ?turn ?done
  case done =>
    rintro m₁ n₁ h' tk ⟨Bh, M, vsB, cB, co, cv, _, _, _, hrun, ⟨_, _, _, t, hmi'⟩, rfl, _⟩ F' N'
    refine done h' tk m₁ M t Bh [(lh, listOf vsB.toArray cB), (L + 1, co)] (hrun _ _ ?_) hmi' F' N'
    rw [List.drop_length]; exact .nil
  case turn =>
    rintro i t m₁ n₁ h' tk it oi hi ⟨Bh, M, vsB, cB, co, cv, iB, hBl, hco', hrun, ⟨q1, q2, q3, tM', q4⟩, rfl, nd⟩ F' N' hap
    have LL := led_tmp N' nd hap
    have hq : as[i]? = some as[i] := List.getElem?_eq_getElem hi
    obtain ⟨tq, hq2⟩ := ia.get i as[i] hq
    have e0 : ((0 : Int) + (i : Nat)).toNat = i := by omega
    have e1 : ((0 : Int) + (i : Nat) + 1).toNat = i + 1 := by omega
    refine least_turn (q := as[i]) (tq := tq) (nn := 0 + (i : Nat)) (W := W) hsc hbody F' X₀ LL.1 T hun iB ia hco' (by omega) ha20 (by omega) (by omega) (by rw [e0]; exact hq2) (by rw [e0]; exact hq) hW1 LL.2 ((if_neg (by decide)).trans q1) ((if_neg (by decide)).trans q2) ((if_neg (by decide)).trans q3) ((if_neg (by decide)).trans q4) (if_pos rfl) hE ?_
    intro fl h7 tk7 m7 B1 M1 vsB' cB' co7 cv7 hfl hst iB' hco7 hm7 hmi7 F7 N7
    have L7 : Led h₀ L h7 ([(lh, listOf vsB'.toArray cB'), (L + 1, co7), (la, listOf vsa.toArray ca), (lm, lmo)] ++ [(it, oi)]) := ⟨N7, LL.2⟩
    obtain ⟨ha, nd7⟩ := led_tmp_back L7
    have hlen : B1.length ≤ i + 1 := by
      rcases hst with ⟨_, rfl, _⟩ | ⟨_, _, rfl, _⟩ | ⟨_, _, x1, f, x2, rfl, _, rfl, _⟩
      · omega
      · rw [List.length_append, List.length_singleton]; omega
      · rw [List.length_append, List.length_cons] at hBl
        rw [List.length_append, List.length_append, List.length_singleton]; omega
    rcases hfl with rfl | rfl <;> (show TurnEnd _ _ _ _ _ _) <;> refine TurnEnd.intro F7 L7.1 ha ⟨B1, M1, vsB', cB', co7, cv7, iB', hlen, hco7, fun B' M' hr2 => hrun B' M' (by
      rw [List.drop_eq_getElem_cons hi]
      rw [e1] at hst
      exact .cons hst hr2), ⟨(hm7 _ (by decide) (by decide)).trans ((if_neg (by decide)).trans q1), (hm7 _ (by decide) (by decide)).trans ((if_neg (by decide)).trans q2), (hm7 _ (by decide) (by decide)).trans ((if_neg (by decide)).trans q3), hmi7⟩, rfl, nd7⟩
end
theorem least_spec {w : World} {A₀ : Around} {base h₀ : Heap} {env : Env} {outer : List Env} {L : Addr} {m : Str → Option Value} {p : Program} {loose : List Str} {mean : ExcName → Option Value} {mg mb : Str → Option Value} {s : Shared} {E : Value → Shared → Prop} {Q : Value → Shared → Prop}
    {dp un : Nat} {gd : Option (List Code)} {la lm ca W : Nat} {lmo : Obj} {vsa : List Value} {as : List Int} {tw : Tok}
    (B : Below A₀ base outer h₀) (F : Fr h₀ L s.heap m) (X₀ : (hd.heap_39 w.params).In h₀) (N : News h₀ L s.heap [(la, listOf vsa.toArray ca), (lm, lmo)])
    (T : Top p loose mean mg mb h₀) (hf : env.frame = some L) (hke : env.scope.kind = .function) (hdp : dp < 600) (_hun : un < 900) (ia : IntsAre vsa as) (ha20 : as.length ≤ 20) (hW1 : 1 ≤ W) (hne : @Ne Nat la lm)
    (h : ∀ h' tk M t B', BRun W as [] 0 B' M → Fr h₀ L h' m → News h₀ L h' [(la, listOf vsa.toArray ca), (lm, lmo)] → Q (.int M t) { s with heap := h', toks := tk }) :
    wpAny (MO w) (Ar dp (env :: outer) gd un) (call (.ref 198) [.ref la, .int (W : Nat) tw]) Q E s := by
  walk_at "FILL"
  have zA : vsa.toArray.size = as.length := by rw [List.size_toArray, ia.length]
  have ha62 : as.length < 2 ^ 62 := by omega
  refine wpAny_call ?_
  walk_at "ENTERC"
  intro g L' h₁ tk₁ cells FG F' N' Y' B' X' T' l1
  k_cells Y'
  simp only [List.cons_append, List.nil_append] at N'
  dsimp only
  have hl1 : @LT.lt Nat _ la L' := l1 _ (.head _)
  have hl2 : @LT.lt Nat _ lm L' := l1 _ (.tail _ (.head _))
  k_steps
  all_goals (try k_data)
  rename IsRange _ _ _ _ _ _ _ _ => hr
  rename Fr g L' _ _ => F2
  rename News g L' _ _ => N2
  rename _ = Data.cell _ => hc0
  rename _ ∧ _ ∧ _ ∧ _ => lT
  revert lT
  rename _ ∧ _ ∧ _ => lH
  intro lT
  have L0 := least_start N2 lH hl1 hl2 hne
  show wpAny _ _ (pyIter _) _ _ _
  with_unfolding_all refine' least_loop (dp := dp + 1) (un := un + 3) (W := W) (body := leastLoop) ?hsc rfl F2 X' L0 T' (by omega) hr ia ha20 hW1 hc0 ?f1 ?f2 ?f3 ?f4 ?hE ?_
  case hsc => rfl
  case f1 => exact rfl
  case f2 => exact rfl
  case f3 => exact rfl
  case f4 => exact rfl
  case hE => passes_own
  intro h6 tk6 m6 M t B6 n6 hrun hmi6 F6 N6
  have N7 := news_sub N6 fun q hq => List.mem_append_right _ hq
  clear N6 N2 F2
  dsimp only
  k_steps
  all_goals (try k_data)
  rename News h₀ L _ _ => N9
  rename Fr h₀ L _ _ => F9
  exact h _ _ M t B6 hrun F9 N9
end Mine

namespace Mine
section
local macro_rules | `(tactic| walk_at "RESET") => `(tactic| trivial)
local macro_rules | `(tactic| walk_at "RESET") => `(tactic| trivial)
local macro_rules | `(tactic| walk_at "RESET") => `(tactic| trivial)
local macro_rules | `(tactic| walk_at "RESET") => `(tactic| trivial)
local macro_rules | `(tactic| walk_at "RESET") => `(tactic| trivial)
local macro_rules | `(tactic| walk_at "RESET") => `(tactic| trivial)
local macro_rules | `(tactic| walk_at "RESET") => `(tactic| trivial)
local macro_rules | `(tactic| walk_at "RESET") => `(tactic| trivial)
local macro_rules | `(tactic| walk_at "RESET") => `(tactic| trivial)
local macro_rules | `(tactic| walk_at "RESET") => `(tactic| trivial)
local macro_rules | `(tactic| walk_at "RESET") => `(tactic| trivial)
local macro_rules | `(tactic| walk_at "RESET") => `(tactic| trivial)
local macro_rules | `(tactic| walk_at "RESET") => `(tactic| trivial)
local macro_rules | `(tactic| walk_at "RESET") => `(tactic| trivial)
local macro_rules | `(tactic| walk_at "RESET") => `(tactic| trivial)
local macro_rules | `(tactic| walk_at "RESET") => `(tactic| trivial)
local macro_rules | `(tactic| walk_at "RESET") => `(tactic| trivial)
local macro_rules | `(tactic| walk_at "RESET") => `(tactic| trivial)
local macro_rules | `(tactic| walk_at "RESET") => `(tactic| trivial)
local macro_rules | `(tactic| walk_at "RESET") => `(tactic| trivial)
local macro_rules | `(tactic| walk_at "RESET") => `(tactic| trivial)
local macro_rules | `(tactic| walk_at "RESET") => `(tactic| trivial)
local macro_rules | `(tactic| walk_at "RESET") => `(tactic| trivial)
local macro_rules | `(tactic| walk_at "RESET") => `(tactic| trivial)
theorem resetL19 : True := by
  w_top off
  first | walk1 | trivial
end
end Mine

namespace Mine
local macro_rules | `(tactic| k_room) => `(tactic| (show _ < _; (try simp only [depth_under_make, depth_under_kw, depth_in1, depth_deeper, depth_caller]); (try unfold recursionLimit); omega))
local macro_rules | `(tactic| k_units) => `(tactic| (show _ < _; (try simp only [units_deeper, units_in1]); (try unfold cLine); omega))
local macro_rules | `(tactic| walk_at "FILL") => `(tactic| (have _fill : (fun (_ : OpenLaw) (_ : Params → Frag) => True) PySem.Challenge.rw_bn5031_01 hd.heap_39 := by k_fill; trivial))
local macro_rules | `(tactic| walk_at "LOOK") => `(tactic| first | assumption | exact if_pos rfl | (refine Eq.trans (if_neg (by decide)) ?_; walk_at "LOOK"))
local macro_rules | `(tactic| k_mem) => `(tactic| first | assumption | (refine List.Mem.tail _ ?_; k_mem))
local macro_rules | `(tactic| walk_at "eval Name") => `(tactic| (k_here; (fail_if_success (with_reducible show wpAny _ _ (eval (Expr.Name (Str.ofString "held") _) _) _ _ _)); (fail_if_success (with_reducible show wpAny _ _ (eval (Expr.Name (Str.ofString "len") _) _) _ _ _)); (fail_if_success (with_reducible show wpAny _ _ (eval (Expr.Name (Str.ofString "_law_least") _) _) _ _ _)); (fail_if_success (with_reducible show wpAny _ _ (eval (Expr.Name (Str.ofString "range") _) _) _ _ _)); k_dflt (refine' ld ?k1 ?k2 ?_; (case k1 => k_asm); (case k2 => walk_at "LOOK"); k_whole)))
local macro_rules | `(tactic| k_all) => `(tactic| with_reducible assumption)
local macro_rules | `(tactic| walk_at "subscriptTail") => `(tactic| (k_here; (with_reducible show wpAny _ _ (subscriptTail _ _ (Value.ref _) (Value.int _ _)) _ _ _); k_dflt (refine' sub_at ?k1 ?k2 ?k3 ?k4 ?k5 ?_ ?k7; (case k1 => k_asm); (case k2 => k_mem); (case k5 => exact rfl); (case k3 => decide); (case k4 => decide); (case k7 => with_unfolding_all rfl); k_whole)))
local macro_rules | `(tactic| walk_at "call builtin:len") => `(tactic| (k_here; (with_reducible show wpAny _ _ (call (Value.builtin "len") [Value.ref _]) _ _ _); k_dflt (refine' KM.len_K ?N ?hm ?hs ?hf ?_; (case N => k_asm); (case hm => k_mem); (case hs => assumption); (case hf => assumption); k_whole)))
local macro_rules | `(tactic| walk_at "isTrue BoolOp") => `(tactic| (k_here; (try dsimp only); k_gentoks; walk_at "isTrue BoolOp"))
local macro_rules | `(tactic| walk_at "binaryOp Mod int int") => `(tactic| (k_here; k_dflt (with_reducible refine mod_int' (by omega) ?_)))
local macro_rules | `(tactic| walk_at "binaryOp FloorDiv int int") => `(tactic| (k_here; k_dflt (with_reducible refine floordiv_int (by omega) ?_ (Or.inl (PyProof.noPylong_small (by omega))))))
local macro_rules | `(tactic| walk_at "loadName") => `(tactic| (k_here; k_dflt (refine' ldn ?k1 ?k2 ?_; (case k1 => k_asm); (case k2 => walk_at "LOOK"); k_whole)))

local macro_rules | `(tactic| walk_at "execs cons") => `(tactic| (k_here; refine hold ?_))
local macro_rules | `(tactic| walk_at "exec For Name Subscript cons nil") => `(tactic| (k_here; (rename Fr _ _ _ _ => lF'); (with_unfolding_all refine' For_invVF lF' ?k1 ?k2 ?_; (case k1 => exact rfl); (case k2 => exact rfl); k_whole)))
local macro_rules | `(tactic| walk_at "subscriptTail Name Slice ref ref") => `(tactic| (k_here; (with_reducible show wpAny _ _ (subscriptTail _ (PySem.Expr.Slice _ _ none _) (Value.ref _) (Value.ref _)) _ _ _); k_dflt (refine' kmk_slice_lit ?F ?N ?l ?p ?q ?e ?_ ?s ?t ?z; (case F => k_asm); (case N => k_asm); (case l => exact Fr.lst (by k_asm) (by assumption)); (case p => kmk_part); (case q => kmk_part); (case e => assumption); (case s => with_unfolding_all rfl); (case t => kmk_pure); (case z => (rw [List.size_toArray, sizeLine_eq]; omega))); intro D' h' F' N' l1; (try k_lt l1); (try k_sweep)))
local macro_rules | `(tactic| walk_at "pyIter ref") => `(tactic| (k_here; refine hold ?_))
local macro_rules | `(tactic| walk_at "call ref") => `(tactic| (k_here; refine hold ?_))
theorem pick_mid (vs : List Value) : (slicePick vs.toArray (some 1) (some 21) none).toList = (vs.drop (min 1 vs.length)).take (min 21 vs.length - min 1 vs.length) := by
  have e : sliceBounds (some 1) (some 21) none vs.toArray.size = (((min 1 vs.length : Nat) : Int), ((min 21 vs.length : Nat) : Int), 1) := by
    simp only [sliceBounds, Option.getD_none, show (1 : Int) > 0 by decide, if_true, List.size_toArray]
    simp only [show ¬ ((1 : Int) < 0) by decide, show ¬ ((21 : Int) < 0) by decide, if_false]
    congr 1
    · omega
    · congr 1; omega
  rw [kmk_pick_nat _ e]
theorem ints_take : ∀ {vs : List Value} {ns : List Int} (n : Nat), IntsAre vs ns → IntsAre (vs.take n) (ns.take n)
  | _, _, 0, _ => by simp; exact .nil
  | _, _, _ + 1, .nil => by simp; exact .nil
  | _, _, n + 1, .cons _ _ h => .cons _ _ (ints_take n h)
theorem allLt_mem {b : Nat} : ∀ {l : List (Addr × Obj)}, AllLt b l → ∀ p ∈ l, @LT.lt Nat _ p.1 b
  | [], _, _, hp => by cases hp
  | q :: l, h, p, hp => by
    rcases List.mem_cons.mp hp with rfl | hp
    · exact h.1
    · exact allLt_mem h.2 p hp
theorem LJ.ext {w : World} {L k wide : Nat} {hh pages : Int} {lc la lm lr cc a0 a1 a2 : Nat} {rest : List (Addr × Obj)} {as : List Int} {m : Str → Option Value} {n : List (Addr × Obj)} {it : Nat} {oi : Obj}
    (J : LJ w L k wide hh pages lc la lm lr cc a0 a1 a2 rest as m n) (hap : ∀ p ∈ n, p.1 ≠ it) : LJ w L k wide hh pages lc la lm lr cc a0 a1 a2 (rest ++ [(it, oi)]) as m (n ++ [(it, oi)]) := by
  obtain ⟨S, riv, m0, m1, m2, fet, full, C0, C1, C2, vsm, vsa, vsr, cm, ca, cr, co, cv, I, x0, x1, x2, im, ia, ir, hco, mf, hfe, hfu, rfl, nd⟩ := J
  refine ⟨S, riv, m0, m1, m2, fet, full, C0, C1, C2, vsm, vsa, vsr, cm, ca, cr, co, cv, I, x0, x1, x2, im, ia, ir, hco, mf, hfe, hfu, ?_, ?_⟩
  · unfold led3; simp only [List.append_assoc, List.cons_append]
  · rw [List.map_append, List.nodup_append]
    refine ⟨nd, by simp, fun x hx y hy q => ?_⟩
    obtain ⟨p, hp, rfl⟩ := List.mem_map.mp hx
    rw [List.map_singleton, List.mem_singleton] at hy
    exact hap p hp (q.trans hy)
theorem LJ.cut {w : World} {L k wide : Nat} {hh pages : Int} {lc la lm lr cc a0 a1 a2 : Nat} {rest : List (Addr × Obj)} {as : List Int} {m : Str → Option Value} {n : List (Addr × Obj)} {it : Nat} {oi : Obj}
    (J : LJ w L k wide hh pages lc la lm lr cc a0 a1 a2 (rest ++ [(it, oi)]) as m n) : ∃ n', n = n' ++ [(it, oi)] ∧ LJ w L k wide hh pages lc la lm lr cc a0 a1 a2 rest as m n' ∧ ∀ p ∈ n', ∀ q ∈ [(it, oi)], p.1 ≠ q.1 := by
  obtain ⟨S, riv, m0, m1, m2, fet, full, C0, C1, C2, vsm, vsa, vsr, cm, ca, cr, co, cv, I, x0, x1, x2, im, ia, ir, hco, mf, hfe, hfu, rfl, nd⟩ := J
  have e : led3 w C0 C1 C2 ((lc, listOf [.ref a0, .ref a1, .ref a2].toArray cc) :: (lm, listOf vsm.toArray cm) :: (L + 1, co) :: (la, listOf vsa.toArray ca) :: (lr, listOf vsr.toArray cr) :: (rest ++ [(it, oi)])) =
      led3 w C0 C1 C2 ((lc, listOf [.ref a0, .ref a1, .ref a2].toArray cc) :: (lm, listOf vsm.toArray cm) :: (L + 1, co) :: (la, listOf vsa.toArray ca) :: (lr, listOf vsr.toArray cr) :: rest) ++ [(it, oi)] := by
    unfold led3; simp only [List.append_assoc, List.cons_append]
  rw [e, List.map_append, List.nodup_append] at nd
  refine ⟨_, e, ⟨S, riv, m0, m1, m2, fet, full, C0, C1, C2, vsm, vsa, vsr, cm, ca, cr, co, cv, I, x0, x1, x2, im, ia, ir, hco, mf, hfe, hfu, rfl, nd.1⟩, fun p hp q hq => ?_⟩
  exact nd.2.2 _ (List.mem_map_of_mem hp) _ (List.mem_map_of_mem hq)
theorem LJ.frame {w : World} {L k wide : Nat} {hh pages : Int} {lc la lm lr cc a0 a1 a2 : Nat} {rest : List (Addr × Obj)} {as : List Int} {m m' : Str → Option Value} {n : List (Addr × Obj)}
    (J : LJ w L k wide hh pages lc la lm lr cc a0 a1 a2 rest as m n) (e : ∀ y, y ≠ Str.ofString "x" → m' y = m y) : LJ w L k wide hh pages lc la lm lr cc a0 a1 a2 rest as m' n := by
  obtain ⟨S, riv, m0, m1, m2, fet, full, C0, C1, C2, vsm, vsa, vsr, cm, ca, cr, co, cv, I, x0, x1, x2, im, ia, ir, hco, mf, hfe, hfu, rfl, nd⟩ := J
  refine ⟨S, riv, m0, m1, m2, fet, full, C0, C1, C2, vsm, vsa, vsr, cm, ca, cr, co, cv, I, x0, x1, x2, im, ia, ir, hco, mf.mono fun y hy => ?_, by rw [e _ (by decide)]; exact hfe, by rw [e _ (by decide)]; exact hfu, rfl, nd⟩
  simp only [lawNames, List.mem_cons, List.not_mem_nil, or_false] at hy
  rcases hy with rfl | rfl | rfl | rfl | rfl | rfl | rfl | rfl <;> exact e _ (by decide)
section
variable {w : World} {A₀ : Around} {base h₀ : Heap} {outer : List Env} {L fa : Addr} {cd : Value} {m : Str → Option Value} {p : Program} {loose : List Str} {mean : ExcName → Option Value} {mg mb : Str → Option Value} {s : Shared} {E : Value → Shared → Prop} {Q : Flow → Shared → Prop}
    {dp un : Nat} {gd : Option (List Code)} {sc : Scope} {body : List Stmt}
theorem law_loop {k wide lc la lm lr cc a0 a1 a2 sp : Nat} {hh pages : Int} {n : List (Addr × Obj)} {vs : List Value} {ns : List Int}
    (hsc : sc = lawScope) (hbody : body = from_ lawBody 6)
    (B : Below A₀ base outer h₀) (F : Fr h₀ L s.heap m) (X₀ : (hd.heap_39 w.params).In h₀) (T : Top p loose mean mg mb h₀) (N : News h₀ L s.heap n) (J : LJ w L k wide hh pages lc la lm lr cc a0 a1 a2 [] [] m n)
    (hdp : dp < 350) (hun : un < 800) (hL : h₀.IsList sp vs.toArray) (hI : IntsAre vs ns) (hlen : ns.length ≤ 63)
    (hk1 : 1 ≤ k) (hk4 : k ≤ 4) (hkw : k ≤ wide) (hw8 : wide ≤ 8) (hh1 : 1 ≤ hh) (hhk : hh ≤ k) (hp1 : 1 ≤ pages) (hp20 : pages ≤ 20)
    (hsp : m (Str.ofString "script") = some (.ref sp))
    (hE : PassesOwn (MO w) (Ar dp (envOfC (Str.ofString "law") sc L fa cd :: outer) gd un) (envOfC (Str.ofString "law") sc L fa cd) E)
    (h : ∀ h' tk m', Fr h₀ L h' m' → Q (.ret (.bool true)) { s with heap := h', toks := tk }) :
    wpAny (MO w) (Ar dp (envOfC (Str.ofString "law") sc L fa cd :: outer) gd un) (execs body (envOfC (Str.ofString "law") sc L fa cd)) Q E s := by
  walk_at "FILL"
  conv at hsc => rhs; whnf
  conv at hbody => rhs; whnf
  have hsc2 : sc = lawScope := hsc
  subst hbody
  subst hsc
  have hvl : vs.length = ns.length := hI.length
  have hpk := pick_mid vs
  refine wpAny_execs_cons ?_
  k_steps
  all_goals (try k_data)
  rename Fr h₀ L _ _ => F2
  rename News h₀ L _ _ => N2
  rename (∀ p ∈ n, p.1 < _) => lS
  obtain ⟨zs, hzs⟩ : ∃ zs, zs = (vs.drop (min 1 vs.length)).take (min 21 vs.length - min 1 vs.length) := ⟨_, rfl⟩
  rw [← hzs] at N2
  have iz : IntsAre zs ((ns.drop (min 1 vs.length)).take (min 21 vs.length - min 1 vs.length)) := by rw [hzs]; exact ints_take _ (ints_drop _ hI)
  have lz : zs.length ≤ 20 := by rw [hzs, List.length_take]; omega
  have J2 := J.ext (fun p hp => Nat.ne_of_lt (lS p hp)) (oi := listOf zs.toArray 0)
  show wpAny _ _ (pyIter _) _ _ _
  refine iter_led (vs := zs) (c := 0) (fun i m₁ n₁ => ∃ as, as.length = i ∧ LJ w L k wide hh pages lc la lm lr cc a0 a1 a2 [(_, listOf zs.toArray 0)] as m₁ n₁) rfl F2 (news_sub N2 fun q hq => ?_) ?_ ⟨[], rfl, J2⟩ ?turn ?done
  · rcases List.mem_append.mp hq with q2 | q2
    · exact .tail _ q2
    · rw [List.mem_singleton.mp q2]; exact .head _
  · rintro i m₁ n₁ ⟨as, _, S, riv, m0, m1, m2, fet, full, C0, C1, C2, vsm, vsa, vsr, cm, ca, cr, co, cv, I, x0, x1, x2, im, ia, ir, hco, mf, hfe, hfu, rfl, nd⟩
    exact List.mem_append_right _ (List.mem_append_right _ (List.mem_append_right _ (.tail _ (.tail _ (.tail _ (.tail _ (.tail _ (.head _))))))))
  case turn =>
    rintro i v m₁ n₁ h' tk it oi hv ⟨as, hal, J3⟩ F' N' hap
    obtain ⟨x, t, rfl, _, _⟩ := ints_at iz hv
    have hil : i < zs.length := (List.getElem?_eq_some_iff.mp hv).1
    have J4 := (J3.ext hap (oi := oi)).frame (m' := fun y => if y = Str.ofString "x" then some (Value.int x t) else m₁ y) fun y hy => if_neg hy
    refine loop_turn hsc2 rfl B F' X₀ N' T (by omega) (by omega) J4 (if_pos rfl) hk1 hk4 hkw hw8 hh1 hhk hp1 hp20 (by omega) hE ?_
    intro h7 tk7 m7 n7 J7 F7 N7
    obtain ⟨n8, rfl, J8, hap8⟩ := J7.cut
    show TurnEnd _ _ _ _ _ _
    exact TurnEnd.intro F7 N7 hap8 ⟨as ++ [x.fmod pages], by rw [List.length_append, hal]; rfl, J8⟩
  case done =>
    rintro m₁ n₁ h' tk ⟨as, hal, J3⟩ F' N'
    obtain ⟨S, riv, m0, m1, m2, fet, full, C0, C1, C2, vsm, vsa, vsr, cm, ca, cr, co, cv, I, x0, x1, x2, im, ia, ir, hco, mf, hfe, hfu, rfl, nd⟩ := J3
    obtain ⟨u0, u1, u2, rfl⟩ : ∃ u0 u1 u2, vsm = [.int m0 u0, .int m1 u1, .int m2 u2] := by
      cases im with | cons _ u0 im => cases im with | cons _ u1 im => cases im with | cons _ u2 im => cases im with | nil => exact ⟨u0, u1, u2, rfl⟩
    have N8 : News h₀ L h' [(la, listOf vsa.toArray ca), (lm, listOf [.int m0 u0, .int m1 u1, .int m2 u2].toArray cm)] := news_sub N' fun q hq => by
      refine List.mem_append_right _ (List.mem_append_right _ (List.mem_append_right _ ?_))
      simp only [List.mem_cons, List.not_mem_nil, or_false] at hq ⊢
      rcases hq with e | e <;> simp [e]
    have hne : @Ne Nat la lm := by
      unfold led3 at nd
      simp only [List.map_append, List.map_cons, List.nodup_append, List.nodup_cons, List.mem_cons, not_or] at nd
      obtain ⟨_, ⟨_, ⟨_, ⟨_, ⟨_, q, _⟩, _⟩, _⟩, _⟩, _⟩ := nd
      exact fun e => q e.symm
    obtain ⟨⟨tk', hk⟩, ⟨tw, hw⟩, _, _, _, has, hmi, _⟩ := mf
    clear N'
    try clear N2
    try clear F2
    dsimp only
    k_steps
    all_goals (try k_data)
    show wpAny _ _ (execs _ _) _ _ _
    refine wpAny_execs_cons ?_
    replace F' : Fr h₀ L h' m₁ := F'
    k_steps
    all_goals (try k_data)
    have has20 : as.length ≤ 20 := by omega
    show wpAny _ _ (call (Value.ref 198) _) _ _ _
    refine' least_spec (dp := dp) (un := un) (W := wide) B F' X₀ N8 T rfl rfl (by omega) (by omega) ia has20 (by omega) hne ?_
    intro h9 tk9 M t B9 hrun F9 N9
    have hM : M ≤ m2 := by
      have q := bel_best (by omega) hrun
      have e := I.lw
      rw [show (fun n : Nat => decide ((wide : Int) < (n : Int))) = limOf wide from rfl, e] at q
      exact q
    clear N8 F'
    dsimp only
    k_steps
    all_goals (try k_data)
    have e2 : decide (M ≤ [m0, m1, m2].getD (Int.toNat 2) 0) = true := decide_eq_true hM
    rw [e2]
    exact h _ _ m₁ (by assumption)
theorem lj_start {k wide lc cc la lm lr D : Nat} {hh pages : Int} {C0 C1 C2 : Cache} {co dobj : Obj} {cv : Option Value} {h1 h2 : Heap} {tl : List (Addr × Obj)} {t0 t1 t2 : Tok}
    (_F : Fr h₀ L h2 m) (N : Led h₀ L h1 (led3 w C0 C1 C2 [(lc, listOf [.ref C0.c, .ref C1.c, .ref C2.c].toArray cc), (L + 1, co)]))
    (htl : tl = led3 w C0 C1 C2 [(lc, listOf [.ref C0.c, .ref C1.c, .ref C2.c].toArray cc), (L + 1, co)])
    (N2 : News h₀ L h2 ((D, dobj) :: (lr, listOf #[] 0) :: (lm, listOf [.int 0 t0, .int 0 t1, .int 0 t2].toArray 0) :: (la, listOf #[] 0) :: tl))
    (lA : ∀ p ∈ tl, @LT.lt Nat _ p.1 la) (lM : @LT.lt Nat _ la lm ∧ AllLt lm tl) (lR : @LT.lt Nat _ lm lr ∧ @LT.lt Nat _ la lr ∧ AllLt lr tl)
    (w0 : CW w k C0 []) (p0 : C0.cap = (k : Int)) (w1 : CW w wide C1 []) (p1 : C1.cap = (k : Int)) (w2 : CW w wide C2 []) (p2 : C2.cap = (wide : Int)) (hco : co.data = .cell cv) (hh1 : 1 ≤ hh)
    (mf : MFr m k wide hh pages lc la lm lr) (hfe : ∃ t, m (Str.ofString "fetched") = some (.int 0 t)) (hfu : ∃ t, m (Str.ofString "full") = some (.int 0 t)) :
    ∃ n, News h₀ L h2 n ∧ LJ w L k wide hh pages lc la lm lr cc C0.c C1.c C2.c [] [] m n := by
  have pm : (led3 w C0 C1 C2 [(lc, listOf [.ref C0.c, .ref C1.c, .ref C2.c].toArray cc), (lm, listOf [.int 0 t0, .int 0 t1, .int 0 t2].toArray 0), (L + 1, co), (la, listOf #[] 0), (lr, listOf #[] 0)]).Perm ((lr, listOf #[] 0) :: (lm, listOf [.int 0 t0, .int 0 t1, .int 0 t2].toArray 0) :: (la, listOf #[] 0) :: tl) := by
    subst htl
    unfold led3
    classical
    exact List.perm_iff_count.mpr fun t => by simp only [List.count_append, List.count_cons, List.count_nil]; omega
  have ndt : (tl.map (·.1) : List Nat).Nodup := htl ▸ N.2
  have out : ∀ {b : Nat}, (∀ p ∈ tl, @LT.lt Nat _ p.1 b) → b ∉ (tl.map (·.1) : List Nat) := fun hb hm => by
    obtain ⟨q, hq, e⟩ := List.mem_map.mp hm
    have := hb q hq
    omega
  have nd3 : ((((lr, listOf #[] 0) :: (lm, listOf [.int 0 t0, .int 0 t1, .int 0 t2].toArray 0) :: (la, listOf #[] 0) :: tl : List (Addr × Obj)).map (·.1)) : List Nat).Nodup := by
    simp only [List.map_cons, List.nodup_cons, List.mem_cons, not_or]
    exact ⟨⟨Nat.ne_of_gt lR.1, Nat.ne_of_gt lR.2.1, out (allLt_mem lR.2.2)⟩, ⟨Nat.ne_of_gt lM.1, out (allLt_mem lM.2)⟩, out lA, ndt⟩
  refine ⟨_, news_sub N2 fun q hq => .tail _ (pm.mem_iff.mp hq), [], [], 0, 0, 0, 0, 0, C0, C1, C2, [.int 0 t0, .int 0 t1, .int 0 t2], [], [], 0, 0, 0, co, cv, LInv.start k wide hh hh1, ⟨by simpa using w0, p0, rfl⟩, ⟨by simpa using w1, p1, rfl⟩, ⟨by simpa using w2, p2, rfl⟩, .cons _ _ (.cons _ _ (.cons _ _ .nil)), .nil, .nil, hco, mf, hfe, hfu, rfl, (pm.map (·.1)).nodup_iff.mpr nd3⟩
theorem law_rest {k wide lc cc sp : Nat} {hh pages : Int} {C0 C1 C2 : Cache} {co : Obj} {cv : Option Value} {vs : List Value} {ns : List Int}
    (hsc : sc = lawScope) (hbody : body = from_ lawBody 5)
    (B : Below A₀ base outer h₀) (F : Fr h₀ L s.heap m) (X₀ : (hd.heap_39 w.params).In h₀) (T : Top p loose mean mg mb h₀)
    (N : Led h₀ L s.heap (led3 w C0 C1 C2 [(lc, listOf [.ref C0.c, .ref C1.c, .ref C2.c].toArray cc), (L + 1, co)]))
    (hdp : dp < 350) (hun : un < 800) (w0 : CW w k C0 []) (p0 : C0.cap = (k : Int)) (w1 : CW w wide C1 []) (p1 : C1.cap = (k : Int)) (w2 : CW w wide C2 []) (p2 : C2.cap = (wide : Int)) (hco : co.data = .cell cv)
    (hL : h₀.IsList sp vs.toArray) (hI : IntsAre vs ns) (hlen : ns.length ≤ 63)
    (hk1 : 1 ≤ k) (hk4 : k ≤ 4) (hkw : k ≤ wide) (hw8 : wide ≤ 8) (hh1 : 1 ≤ hh) (hhk : hh ≤ k) (hp1 : 1 ≤ pages) (hp20 : pages ≤ 20)
    (hsp : m (Str.ofString "script") = some (.ref sp)) (hk : ∃ t, m (Str.ofString "k") = some (.int k t)) (hw : ∃ t, m (Str.ofString "wide") = some (.int wide t)) (hhh : ∃ t, m (Str.ofString "h") = some (.int hh t)) (hpa : ∃ t, m (Str.ofString "pages") = some (.int pages t)) (hca : m (Str.ofString "caches") = some (.ref lc))
    (hE : PassesOwn (MO w) (Ar dp (envOfC (Str.ofString "law") sc L fa cd :: outer) gd un) (envOfC (Str.ofString "law") sc L fa cd) E)
    (h : ∀ h' tk m', Fr h₀ L h' m' → Q (.ret (.bool true)) { s with heap := h', toks := tk }) :
    wpAny (MO w) (Ar dp (envOfC (Str.ofString "law") sc L fa cd :: outer) gd un) (execs body (envOfC (Str.ofString "law") sc L fa cd)) Q E s := by
  walk_at "FILL"
  conv at hsc => rhs; whnf
  conv at hbody => rhs; whnf
  have hsc2 : sc = lawScope := hsc
  subst hbody
  subst hsc
  have hvl : vs.length = ns.length := hI.length
  have hpk := pick_mid vs
  obtain ⟨tl, htl⟩ : ∃ tl, tl = led3 w C0 C1 C2 [(lc, listOf [.ref C0.c, .ref C1.c, .ref C2.c].toArray cc), (L + 1, co)] := ⟨_, rfl⟩
  have N1 : News h₀ L s.heap tl := htl ▸ N.1
  refine wpAny_execs_cons ?_
  k_steps
  all_goals (try k_data)
  rename Fr h₀ L _ _ => F2
  rename News h₀ L _ _ => N2
  rename _ ∧ _ => lD
  revert lD
  rename _ ∧ _ => lR
  revert lR
  rename _ ∧ _ => lM
  intro lR lD
  rename (∀ p ∈ tl, p.1 < _) => lA
  show wpAny _ _ (execs _ _) _ _ _
  obtain ⟨n, N3, J3⟩ := lj_start (hh := hh) (pages := pages) F2 N htl N2 lA lM lR w0 p0 w1 p1 w2 p2 hco hh1 ⟨hk, hw, hhh, hpa, hca, rfl, rfl, rfl⟩ ⟨_, rfl⟩ ⟨_, rfl⟩
  refine law_loop hsc2 rfl B F2 X₀ T N3 J3 hdp hun hL hI hlen hk1 hk4 hkw hw8 hh1 hhk hp1 hp20 hsp hE fun h' tk m' F' => h h' tk m' F'
end
end Mine

namespace Mine
section
local macro_rules | `(tactic| walk_at "RESET") => `(tactic| trivial)
local macro_rules | `(tactic| walk_at "RESET") => `(tactic| trivial)
local macro_rules | `(tactic| walk_at "RESET") => `(tactic| trivial)
local macro_rules | `(tactic| walk_at "RESET") => `(tactic| trivial)
local macro_rules | `(tactic| walk_at "RESET") => `(tactic| trivial)
local macro_rules | `(tactic| walk_at "RESET") => `(tactic| trivial)
local macro_rules | `(tactic| walk_at "RESET") => `(tactic| trivial)
local macro_rules | `(tactic| walk_at "RESET") => `(tactic| trivial)
local macro_rules | `(tactic| walk_at "RESET") => `(tactic| trivial)
local macro_rules | `(tactic| walk_at "RESET") => `(tactic| trivial)
local macro_rules | `(tactic| walk_at "RESET") => `(tactic| trivial)
local macro_rules | `(tactic| walk_at "RESET") => `(tactic| trivial)
local macro_rules | `(tactic| walk_at "RESET") => `(tactic| trivial)
local macro_rules | `(tactic| walk_at "RESET") => `(tactic| trivial)
local macro_rules | `(tactic| walk_at "RESET") => `(tactic| trivial)
local macro_rules | `(tactic| walk_at "RESET") => `(tactic| trivial)
local macro_rules | `(tactic| walk_at "RESET") => `(tactic| trivial)
local macro_rules | `(tactic| walk_at "RESET") => `(tactic| trivial)
local macro_rules | `(tactic| walk_at "RESET") => `(tactic| trivial)
local macro_rules | `(tactic| walk_at "RESET") => `(tactic| trivial)
local macro_rules | `(tactic| walk_at "RESET") => `(tactic| trivial)
local macro_rules | `(tactic| walk_at "RESET") => `(tactic| trivial)
local macro_rules | `(tactic| walk_at "RESET") => `(tactic| trivial)
local macro_rules | `(tactic| walk_at "RESET") => `(tactic| trivial)
theorem resetL20 : True := by
  w_top off
  first | walk1 | trivial
end
end Mine

namespace Mine
local macro_rules | `(tactic| k_room) => `(tactic| (show _ < _; (try simp only [depth_under_make, depth_under_kw, depth_in1, depth_deeper, depth_caller]); (try unfold recursionLimit); omega))
local macro_rules | `(tactic| k_units) => `(tactic| (show _ < _; (try simp only [units_deeper, units_in1]); (try unfold cLine); omega))
local macro_rules | `(tactic| walk_at "FILL") => `(tactic| (have _fill : (fun (_ : OpenLaw) (_ : Params → Frag) => True) PySem.Challenge.rw_bn5031_01 hd.heap_39 := by k_fill; trivial))
local macro_rules | `(tactic| walk_at "LOOK") => `(tactic| first | assumption | exact if_pos rfl | (refine Eq.trans (if_neg (by decide)) ?_; walk_at "LOOK"))
local macro_rules | `(tactic| k_mem) => `(tactic| first | assumption | (refine List.Mem.tail _ ?_; k_mem))
local macro_rules | `(tactic| walk_at "eval Name") => `(tactic| (k_here; (fail_if_success (with_reducible show wpAny _ _ (eval (Expr.Name (Str.ofString "held") _) _) _ _ _)); (fail_if_success (with_reducible show wpAny _ _ (eval (Expr.Name (Str.ofString "len") _) _) _ _ _)); (fail_if_success (with_reducible show wpAny _ _ (eval (Expr.Name (Str.ofString "LRUCache") _) _) _ _ _)); (fail_if_success (with_reducible show wpAny _ _ (eval (Expr.Name (Str.ofString "range") _) _) _ _ _)); k_dflt (refine' ld ?k1 ?k2 ?_; (case k1 => k_asm); (case k2 => walk_at "LOOK"); k_whole)))
local macro_rules | `(tactic| k_all) => `(tactic| with_reducible assumption)
local macro_rules | `(tactic| walk_at "subscriptTail") => `(tactic| (k_here; (with_reducible show wpAny _ _ (subscriptTail _ _ (Value.ref _) (Value.int _ _)) _ _ _); k_dflt (refine' sub_at ?k1 ?k2 ?k3 ?k4 ?k5 ?_ ?k7; (case k1 => k_asm); (case k2 => k_mem); (case k5 => exact rfl); (case k3 => decide); (case k4 => decide); (case k7 => with_unfolding_all rfl); k_whole)))
local macro_rules | `(tactic| walk_at "call builtin:len") => `(tactic| (k_here; (with_reducible show wpAny _ _ (call (Value.builtin "len") [Value.ref _]) _ _ _); k_dflt (refine' KM.len_K ?N ?hm ?hs ?hf ?_; (case N => k_asm); (case hm => k_mem); (case hs => assumption); (case hf => assumption); k_whole)))
local macro_rules | `(tactic| walk_at "isTrue BoolOp") => `(tactic| (k_here; (try dsimp only); k_gentoks; walk_at "isTrue BoolOp"))
local macro_rules | `(tactic| walk_at "binaryOp Mod int int") => `(tactic| (k_here; k_dflt (with_reducible refine mod_int' (by omega) ?_)))
local macro_rules | `(tactic| walk_at "binaryOp FloorDiv int int") => `(tactic| (k_here; k_dflt (with_reducible refine floordiv_int (by omega) ?_ (Or.inl (PyProof.noPylong_small (by omega))))))
local macro_rules | `(tactic| walk_at "loadName") => `(tactic| (k_here; k_dflt (refine' ldn ?k1 ?k2 ?_; (case k1 => k_asm); (case k2 => walk_at "LOOK"); k_whole)))

local macro_rules | `(tactic| walk_at "call ref") => `(tactic| (k_here; refine hold ?_))
section
variable {w : World} {A₀ : Around} {base h₀ : Heap} {outer : List Env} {L fa : Addr} {cd : Value} {m : Str → Option Value} {p : Program} {loose : List Str} {mean : ExcName → Option Value} {mg mb : Str → Option Value} {s : Shared} {E : Value → Shared → Prop} {Q : Flow → Shared → Prop}
    {dp un : Nat} {gd : Option (List Code)} {sc : Scope} {st : Stmt}
theorem cw_init {k : Nat} {C : Cache} {W : Nat} (he : C.ents = []) (hc : C.cap = (k : Int)) (hT : Nonempty (Thr w C.cap C.thr (limOf W))) (hW : 1 ≤ W) (hkW : k ≤ W) (ok : C.Ok w) : CW w W C [] where
  thr := hT
  hW := hW
  hc0 := by omega
  hcW := by omega
  ok := ok
  hct := by rw [he]; intro x hx; cases hx
  hsv := by rw [he]; intro x hx; cases hx
  rc := ⟨[], by rw [he], .nil, rfl⟩
theorem led_new1 {h1 h2 : Heap} {l : List (Addr × Obj)} {a : Nat} {o : Obj} (H : Led h₀ L h1 l) (N : News h₀ L h2 ((a, o) :: l)) (lt : ∀ p ∈ l, @LT.lt Nat _ p.1 a) : Led h₀ L h2 ((a, o) :: l) := by
  refine ⟨N, ?_⟩
  rw [List.map_cons, List.nodup_cons]
  refine ⟨fun hm => ?_, H.2⟩
  obtain ⟨q, hq, e⟩ := List.mem_map.mp hm
  have := lt q hq
  exact Nat.ne_of_lt this e
theorem led_turn3 {C0 C1 C2 : Cache} {x y : Addr × Obj} : (x :: (C2.led w ++ (C1.led w ++ (C0.led w ++ [y])))).Perm (led3 w C0 C1 C2 [x, y]) := by
  unfold led3
  classical
  exact List.perm_iff_count.mpr fun t => by simp only [List.count_append, List.count_cons, List.count_nil]; omega
theorem lim_two (k : Nat) : (fun n : Nat => decide ((k : Int) + (k : Int) < (n : Int))) = limOf (k + k) := by
  funext n
  have : ((k : Int) + (k : Int) < (n : Int)) = (((k + k : Nat) : Int) < (n : Int)) := by push_cast; rfl
  show decide _ = decide _
  simp only [this]
theorem lim_half (k : Nat) : (fun n : Nat => decide ((k : Int) + (k : Int) / 2 < (n : Int))) = limOf (k + k / 2) := by
  funext n
  have : ((k : Int) + (k : Int) / 2 < (n : Int)) = (((k + k / 2 : Nat) : Int) < (n : Int)) := by push_cast; rfl
  show decide _ = decide _
  simp only [this]
theorem if4 {k : Nat} {f : Int} {co : Obj} {tf tk : Tok}
    (hsc : sc = lawScope) (hst : st = stOf (nth lawBody 4))
    (B : Below A₀ base outer h₀) (F : Fr h₀ L s.heap m) (X₀ : (hd.heap_39 w.params).In h₀) (T : Top p loose mean mg mb h₀) (N : Led h₀ L s.heap [(L + 1, co)])
    (hdp : dp < 350) (hun : un < 800) (hk1 : 1 ≤ k) (hk4 : k ≤ 4)
    (hf : m (Str.ofString "first") = some (.int f tf)) (hk : m (Str.ofString "k") = some (.int (k : Nat) tk))
    (hE : PassesOwn (MO w) (Ar dp (envOfC (Str.ofString "law") sc L fa cd :: outer) gd un) (envOfC (Str.ofString "law") sc L fa cd) E)
    (h : ∀ h' tk m' C0 C1 C2 lc wide tw, k ≤ wide → wide ≤ 8 → CW w k C0 [] → C0.cap = (k : Int) → CW w wide C1 [] → C1.cap = (k : Int) → CW w wide C2 [] → C2.cap = (wide : Int) → (∀ y, y ≠ Str.ofString "wide" → y ≠ Str.ofString "caches" → m' y = m y) → m' (Str.ofString "wide") = some (.int (wide : Nat) tw) → m' (Str.ofString "caches") = some (.ref lc) →
      Fr h₀ L h' m' → Led h₀ L h' (led3 w C0 C1 C2 [(lc, listOf [.ref C0.c, .ref C1.c, .ref C2.c].toArray 0), (L + 1, co)]) → Q .next { s with heap := h', toks := tk }) :
    wpAny (MO w) (Ar dp (envOfC (Str.ofString "law") sc L fa cd :: outer) gd un) (exec st (envOfC (Str.ofString "law") sc L fa cd)) Q E s := by
  walk_at "FILL"
  conv at hsc => rhs; whnf
  conv at hst => rhs; whnf
  subst hsc
  subst hst
  have N1 := N.1
  k_steps
  all_goals (try k_data)
  · rename Fr h₀ L _ _ => F2
    rename News h₀ L _ _ => N2
    show wpAny _ _ (call (Value.ref 185) _) _ _ _
    refine' init2 (dp := dp) (un := un) B F2 X₀ ⟨N2, N.2⟩ T rfl rfl (by omega) (by omega) rfl ?_
    intro h3 tk3 C0 e0 p0 t0 _ ok0 F3 L3
    have N3 := L3.1
    dsimp only
    try clear N2
    try clear F2
    k_steps
    all_goals (try k_data)
    rename Fr h₀ L _ _ => F4
    rename News h₀ L _ _ => N4
    show wpAny _ _ (call (Value.ref 185) _) _ _ _
    refine' init2 (dp := dp) (un := un) B F4 X₀ ⟨N4, L3.2⟩ T rfl rfl (by omega) (by omega) rfl ?_
    intro h5 tk5 C1 e1 p1 t1 _ ok1 F5 L5
    have N5 := L5.1
    dsimp only
    try clear N4
    try clear F4
    try clear N3
    try clear F3
    k_steps
    all_goals (try k_data)
    rename Fr h₀ L _ _ => F6
    rename News h₀ L _ _ => N6
    show wpAny _ _ (call (Value.ref 185) _) _ _ _
    refine' init2 (dp := dp) (un := un) B F6 X₀ ⟨N6, L5.2⟩ T rfl rfl (by omega) (by omega) rfl ?_
    intro h7 tk7 C2 e2 p2 t2 _ ok2 F7 L7
    obtain ⟨tl, htl⟩ : ∃ tl, tl = C2.led w ++ (C1.led w ++ (C0.led w ++ [(L + 1, co)])) := ⟨_, rfl⟩
    have N7 := L7.1
    rw [← htl] at N7
    dsimp only
    try clear N6
    try clear F6
    try clear N5
    try clear F5
    k_steps
    all_goals (try k_data)
    rename Fr h₀ L _ _ => F8
    rename News h₀ L _ _ => N8
    rename (∀ q ∈ tl, q.1 < _) => l8
    subst htl
    have L8 := (led_new1 L7 N8 l8).perm led_turn3
    have hw : ((k + k : Nat) : Int) = (k : Int) + (k : Int) := by omega
    refine h _ _ _ C0 C1 C2 _ (k + k) _ (by omega) (by omega) (cw_init e0 p0 ⟨by rw [p0, t0]; exact thr0 w _ _⟩ hk1 (Nat.le_refl _) ok0) p0 (cw_init e1 p1 ⟨by rw [p1, t1, ← lim_two]; exact thr1 w _ _⟩ (by omega) (by omega) ok1) p1 (cw_init e2 (p2.trans hw.symm) ⟨by rw [p2, t2, ← hw]; exact thr0 w _ _⟩ (by omega) (Nat.le_refl _) ok2) (p2.trans hw.symm) (fun y y1 y2 => (if_neg y2).trans (if_neg y1)) ((if_neg (by decide)).trans ((if_pos rfl).trans (by rw [hw]))) (if_pos rfl) F8 L8
  · rename Fr h₀ L _ _ => F2
    rename News h₀ L _ _ => N2
    show wpAny _ _ (call (Value.ref 185) _) _ _ _
    refine' init2 (dp := dp) (un := un) B F2 X₀ ⟨N2, N.2⟩ T rfl rfl (by omega) (by omega) rfl ?_
    intro h3 tk3 C0 e0 p0 t0 _ ok0 F3 L3
    have N3 := L3.1
    dsimp only
    try clear N2
    try clear F2
    k_steps
    all_goals (try k_data)
    rename Fr h₀ L _ _ => F4
    rename News h₀ L _ _ => N4
    show wpAny _ _ (call (Value.ref 185) _) _ _ _
    refine' init1 (dp := dp) (un := un) B F4 X₀ ⟨N4, L3.2⟩ T rfl rfl (by omega) (by omega) ?_
    intro h5 tk5 C1 e1 p1 t1 _ ok1 F5 L5
    have N5 := L5.1
    dsimp only
    try clear N4
    try clear F4
    try clear N3
    try clear F3
    k_steps
    all_goals (try k_data)
    rename Fr h₀ L _ _ => F6
    rename News h₀ L _ _ => N6
    show wpAny _ _ (call (Value.ref 185) _) _ _ _
    refine' init2 (dp := dp) (un := un) B F6 X₀ ⟨N6, L5.2⟩ T rfl rfl (by omega) (by omega) rfl ?_
    intro h7 tk7 C2 e2 p2 t2 _ ok2 F7 L7
    obtain ⟨tl, htl⟩ : ∃ tl, tl = C2.led w ++ (C1.led w ++ (C0.led w ++ [(L + 1, co)])) := ⟨_, rfl⟩
    have N7 := L7.1
    rw [← htl] at N7
    dsimp only
    try clear N6
    try clear F6
    try clear N5
    try clear F5
    k_steps
    all_goals (try k_data)
    rename Fr h₀ L _ _ => F8
    rename News h₀ L _ _ => N8
    rename (∀ q ∈ tl, q.1 < _) => l8
    subst htl
    have L8 := (led_new1 L7 N8 l8).perm led_turn3
    obtain ⟨u1, t1⟩ := t1
    have hw : ((k + k / 2 : Nat) : Int) = (k : Int) + (k : Int).fdiv 2 := by
      rw [Int.fdiv_eq_ediv_of_nonneg _ (by decide)]; omega
    refine h _ _ _ C0 C1 C2 _ (k + k / 2) _ (by omega) (by omega) (cw_init e0 p0 ⟨by rw [p0, t0]; exact thr0 w _ _⟩ hk1 (Nat.le_refl _) ok0) p0 (cw_init e1 p1 ⟨by rw [p1, t1, ← lim_half]; exact thrH w _ _ (by omega) (by omega)⟩ (by omega) (by omega) ok1) p1 (cw_init e2 (p2.trans hw.symm) ⟨by rw [p2, t2, ← hw]; exact thr0 w _ _⟩ (by omega) (Nat.le_refl _) ok2) (p2.trans hw.symm) (fun y y1 y2 => (if_neg y2).trans (if_neg y1)) ((if_neg (by decide)).trans ((if_pos rfl).trans (by rw [hw]))) (if_pos rfl) F8 L8
end
end Mine

namespace Mine
section
local macro_rules | `(tactic| walk_at "RESET") => `(tactic| trivial)
local macro_rules | `(tactic| walk_at "RESET") => `(tactic| trivial)
local macro_rules | `(tactic| walk_at "RESET") => `(tactic| trivial)
local macro_rules | `(tactic| walk_at "RESET") => `(tactic| trivial)
local macro_rules | `(tactic| walk_at "RESET") => `(tactic| trivial)
local macro_rules | `(tactic| walk_at "RESET") => `(tactic| trivial)
local macro_rules | `(tactic| walk_at "RESET") => `(tactic| trivial)
local macro_rules | `(tactic| walk_at "RESET") => `(tactic| trivial)
local macro_rules | `(tactic| walk_at "RESET") => `(tactic| trivial)
local macro_rules | `(tactic| walk_at "RESET") => `(tactic| trivial)
local macro_rules | `(tactic| walk_at "RESET") => `(tactic| trivial)
local macro_rules | `(tactic| walk_at "RESET") => `(tactic| trivial)
local macro_rules | `(tactic| walk_at "RESET") => `(tactic| trivial)
local macro_rules | `(tactic| walk_at "RESET") => `(tactic| trivial)
local macro_rules | `(tactic| walk_at "RESET") => `(tactic| trivial)
local macro_rules | `(tactic| walk_at "RESET") => `(tactic| trivial)
local macro_rules | `(tactic| walk_at "RESET") => `(tactic| trivial)
local macro_rules | `(tactic| walk_at "RESET") => `(tactic| trivial)
local macro_rules | `(tactic| walk_at "RESET") => `(tactic| trivial)
local macro_rules | `(tactic| walk_at "RESET") => `(tactic| trivial)
local macro_rules | `(tactic| walk_at "RESET") => `(tactic| trivial)
local macro_rules | `(tactic| walk_at "RESET") => `(tactic| trivial)
local macro_rules | `(tactic| walk_at "RESET") => `(tactic| trivial)
local macro_rules | `(tactic| walk_at "RESET") => `(tactic| trivial)
theorem resetL21 : True := by
  w_top off
  first | walk1 | trivial
end
end Mine

namespace Mine
local macro_rules | `(tactic| k_room) => `(tactic| (show _ < _; (try simp only [depth_under_make, depth_under_kw, depth_in1, depth_deeper, depth_caller]); (try unfold recursionLimit); omega))
local macro_rules | `(tactic| k_units) => `(tactic| (show _ < _; (try simp only [units_deeper, units_in1]); (try unfold cLine); omega))
local macro_rules | `(tactic| walk_at "FILL") => `(tactic| (have _fill : (fun (_ : OpenLaw) (_ : Params → Frag) => True) PySem.Challenge.rw_bn5031_01 hd.heap_39 := by k_fill; trivial))
local macro_rules | `(tactic| walk_at "LOOK") => `(tactic| first | assumption | exact if_pos rfl | (refine Eq.trans (if_neg (by decide)) ?_; walk_at "LOOK"))
local macro_rules | `(tactic| k_mem) => `(tactic| first | assumption | (refine List.Mem.tail _ ?_; k_mem))
local macro_rules | `(tactic| walk_at "eval Name") => `(tactic| (k_here; (fail_if_success (with_reducible show wpAny _ _ (eval (Expr.Name (Str.ofString "held") _) _) _ _ _)); (fail_if_success (with_reducible show wpAny _ _ (eval (Expr.Name (Str.ofString "len") _) _) _ _ _)); (fail_if_success (with_reducible show wpAny _ _ (eval (Expr.Name (Str.ofString "LRUCache") _) _) _ _ _)); (fail_if_success (with_reducible show wpAny _ _ (eval (Expr.Name (Str.ofString "range") _) _) _ _ _)); k_dflt (refine' ld ?k1 ?k2 ?_; (case k1 => k_asm); (case k2 => walk_at "LOOK"); k_whole)))
local macro_rules | `(tactic| k_all) => `(tactic| with_reducible assumption)
local macro_rules | `(tactic| walk_at "subscriptTail") => `(tactic| (k_here; (with_reducible show wpAny _ _ (subscriptTail _ _ (Value.ref _) (Value.int _ _)) _ _ _); k_dflt (refine' sub_at ?k1 ?k2 ?k3 ?k4 ?k5 ?_ ?k7; (case k1 => k_asm); (case k2 => k_mem); (case k5 => exact rfl); (case k3 => decide); (case k4 => decide); (case k7 => with_unfolding_all rfl); k_whole)))
local macro_rules | `(tactic| walk_at "call builtin:len") => `(tactic| (k_here; (with_reducible show wpAny _ _ (call (Value.builtin "len") [Value.ref _]) _ _ _); k_dflt (refine' KM.len_K ?N ?hm ?hs ?hf ?_; (case N => k_asm); (case hm => k_mem); (case hs => assumption); (case hf => assumption); k_whole)))
local macro_rules | `(tactic| walk_at "isTrue BoolOp") => `(tactic| (k_here; (try dsimp only); k_gentoks; walk_at "isTrue BoolOp"))
local macro_rules | `(tactic| walk_at "binaryOp Mod int int") => `(tactic| (k_here; k_dflt (with_reducible refine mod_int' (by omega) ?_)))
local macro_rules | `(tactic| walk_at "binaryOp FloorDiv int int") => `(tactic| (k_here; k_dflt (with_reducible refine floordiv_int (by omega) ?_ (Or.inl (PyProof.noPylong_small (by omega))))))
local macro_rules | `(tactic| walk_at "loadName") => `(tactic| (k_here; k_dflt (refine' ldn ?k1 ?k2 ?_; (case k1 => k_asm); (case k2 => walk_at "LOOK"); k_whole)))

local macro_rules | `(tactic| walk_at "call ref") => `(tactic| (k_here; refine hold ?_))
section
variable {w : World} {A₀ : Around} {base h₀ : Heap} {outer : List Env} {L fa : Addr} {cd : Value} {m : Str → Option Value} {p : Program} {loose : List Str} {mean : ExcName → Option Value} {mg mb : Str → Option Value} {s : Shared} {E : Value → Shared → Prop} {Q : Flow → Shared → Prop}
    {dp un : Nat} {gd : Option (List Code)} {sc : Scope} {body : List Stmt}
theorem law_all {sp : Nat} {f kk pp hv : Int} {co : Obj} {cv : Option Value} {vs : List Value} {ns : List Int} {tf tk tp th : Tok}
    (hsc : sc = lawScope) (hbody : body = from_ lawBody 4)
    (B : Below A₀ base outer h₀) (F : Fr h₀ L s.heap m) (X₀ : (hd.heap_39 w.params).In h₀) (T : Top p loose mean mg mb h₀) (N : News h₀ L s.heap [(L + 1, co)])
    (hdp : dp < 350) (hun : un < 800) (hco : co.data = .cell cv) (hL : h₀.IsList sp vs.toArray) (hI : IntsAre vs ns) (hlen : ns.length ≤ 63)
    (hk1 : 1 ≤ kk) (hk4 : kk ≤ 4) (hh1 : 1 ≤ hv) (hhk : hv ≤ kk) (hp1 : 1 ≤ pp) (hp20 : pp ≤ 20)
    (hsp : m (Str.ofString "script") = some (.ref sp)) (hf : m (Str.ofString "first") = some (.int f tf)) (hk : m (Str.ofString "k") = some (.int kk tk)) (hpa : m (Str.ofString "pages") = some (.int pp tp)) (hhh : m (Str.ofString "h") = some (.int hv th))
    (hE : PassesOwn (MO w) (Ar dp (envOfC (Str.ofString "law") sc L fa cd :: outer) gd un) (envOfC (Str.ofString "law") sc L fa cd) E)
    (h : ∀ h' tk m', Fr h₀ L h' m' → Q (.ret (.bool true)) { s with heap := h', toks := tk }) :
    wpAny (MO w) (Ar dp (envOfC (Str.ofString "law") sc L fa cd :: outer) gd un) (execs body (envOfC (Str.ofString "law") sc L fa cd)) Q E s := by
  conv at hbody => rhs; whnf
  subst hbody
  obtain ⟨k, rfl⟩ := Int.eq_ofNat_of_zero_le (show 0 ≤ kk by omega)
  refine wpAny_execs_cons ?_
  refine if4 (f := f) (k := k) hsc rfl B F X₀ T ⟨N, by simp⟩ hdp hun (by omega) (by omega) hf hk hE ?_
  intro h7 tk7 m7 C0 C1 C2 lc wide tw hkw hw8 w0 p0 w1 p1 w2 p2 hm7 hw7 hc7 F7 L7
  dsimp only
  refine law_rest (hh := hv) (pages := pp) hsc rfl B F7 X₀ T L7 hdp hun w0 p0 w1 p1 w2 p2 hco hL hI hlen (by omega) (by omega) hkw hw8 hh1 hhk hp1 hp20 ((hm7 _ (by decide) (by decide)).trans hsp) ⟨_, (hm7 _ (by decide) (by decide)).trans hk⟩ ⟨_, hw7⟩ ⟨_, (hm7 _ (by decide) (by decide)).trans hhh⟩ ⟨_, (hm7 _ (by decide) (by decide)).trans hpa⟩ hc7 hE fun h' tk m' F' => h h' tk m' F'
end
end Mine

namespace Mine
section
local macro_rules | `(tactic| walk_at "RESET") => `(tactic| trivial)
local macro_rules | `(tactic| walk_at "RESET") => `(tactic| trivial)
local macro_rules | `(tactic| walk_at "RESET") => `(tactic| trivial)
local macro_rules | `(tactic| walk_at "RESET") => `(tactic| trivial)
local macro_rules | `(tactic| walk_at "RESET") => `(tactic| trivial)
local macro_rules | `(tactic| walk_at "RESET") => `(tactic| trivial)
local macro_rules | `(tactic| walk_at "RESET") => `(tactic| trivial)
local macro_rules | `(tactic| walk_at "RESET") => `(tactic| trivial)
local macro_rules | `(tactic| walk_at "RESET") => `(tactic| trivial)
local macro_rules | `(tactic| walk_at "RESET") => `(tactic| trivial)
local macro_rules | `(tactic| walk_at "RESET") => `(tactic| trivial)
local macro_rules | `(tactic| walk_at "RESET") => `(tactic| trivial)
local macro_rules | `(tactic| walk_at "RESET") => `(tactic| trivial)
local macro_rules | `(tactic| walk_at "RESET") => `(tactic| trivial)
local macro_rules | `(tactic| walk_at "RESET") => `(tactic| trivial)
local macro_rules | `(tactic| walk_at "RESET") => `(tactic| trivial)
local macro_rules | `(tactic| walk_at "RESET") => `(tactic| trivial)
local macro_rules | `(tactic| walk_at "RESET") => `(tactic| trivial)
local macro_rules | `(tactic| walk_at "RESET") => `(tactic| trivial)
local macro_rules | `(tactic| walk_at "RESET") => `(tactic| trivial)
local macro_rules | `(tactic| walk_at "RESET") => `(tactic| trivial)
local macro_rules | `(tactic| walk_at "RESET") => `(tactic| trivial)
local macro_rules | `(tactic| walk_at "RESET") => `(tactic| trivial)
local macro_rules | `(tactic| walk_at "RESET") => `(tactic| trivial)
theorem resetL22 : True := by
  w_top off
  first | walk1 | trivial
end
end Mine

namespace Mine
local macro_rules | `(tactic| walk_at "execs cons") => `(tactic| ((with_reducible show wpAny _ _ (execs (Stmt.If _ _ _ _ :: _) _) _ _ _); refine hold ?_))
theorem bk (f : Int) : 1 ≤ f.fmod 4 + 1 ∧ f.fmod 4 + 1 ≤ 4 := by
  have a := Int.fmod_nonneg_of_pos f (b := 4) (by decide)
  have b := Int.fmod_lt_of_pos f (b := 4) (by decide)
  omega
theorem bp (f g : Int) : 1 ≤ f.fmod 4 + 1 + 1 + g.fmod 5 ∧ f.fmod 4 + 1 + 1 + g.fmod 5 ≤ 20 := by
  have a := Int.fmod_nonneg_of_pos f (b := 4) (by decide)
  have b := Int.fmod_lt_of_pos f (b := 4) (by decide)
  have c := Int.fmod_nonneg_of_pos g (b := 5) (by decide)
  have d := Int.fmod_lt_of_pos g (b := 5) (by decide)
  omega
theorem bh (f g : Int) : 1 ≤ g.fmod (f.fmod 4 + 1) + 1 ∧ g.fmod (f.fmod 4 + 1) + 1 ≤ f.fmod 4 + 1 := by
  have k := (bk f).1
  have a := Int.fmod_nonneg_of_pos g (b := f.fmod 4 + 1) (by omega)
  have b := Int.fmod_lt_of_pos g (b := f.fmod 4 + 1) (by omega)
  omega
theorem holds0 : PySem.Challenge.rw_bn5031_01.Holds := hd (by
  k_go0
  k_steps
  · exfalso
    rename _ + 1 = 0 => hz
    exact absurd (Int.le_trans (bk _).1 (Int.le_of_eq hz)) (by decide)
  all_goals
    rename Fr _ _ _ _ => F2
    rename News _ _ _ _ => N2
    rename Below _ _ _ _ => K0
    rename Top _ _ _ _ _ _ => T0
    rename IntsAre _ _ => hI0
    rename _ = Data.cell _ => hc0
    show wpAny _ _ (execs _ _) _ _ _
    with_unfolding_all refine' law_all ?hs ?hb K0 F2 ?X T0 N2 ?d ?u hc0 ?L hI0 ?len (bk _).1 (bk _).2 (bh _ _).1 (bh _ _).2 (bp _ _).1 (bp _ _).2 ?e1 ?e2 ?e3 ?e4 ?e5 ?hE ?fin
    case hs => rfl
    case hb => rfl
    case X => assumption
    case d => decide
    case u => decide
    case L => assumption
    case len => omega
    case e1 => rfl
    case e2 => rfl
    case e3 => rfl
    case e4 => rfl
    case e5 => rfl
    case hE => passes_own
    case fin =>
      intro h7 tk7 m7 F7
      dsimp only
      k_steps
    )
end Mine

theorem PySem.Challenge.cw_bn5031_01_holds : PySem.Challenge.rw_bn5031_01.Holds :=
  Mine.holds0
#print axioms PySem.Challenge.cw_bn5031_01_holds
