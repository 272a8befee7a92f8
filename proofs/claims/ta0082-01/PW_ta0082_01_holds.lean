import PyProof.Rows.All
import Wide.All
import OpenK.AllK
import Wide.FinOn
import Lean
import PySem.Challenge.RW_ta0082_01
set_option Elab.async false
open PySem PySem.W PyProof.Rows
local macro_rules | `(tactic| walk_at "compareOp In") => `(tactic| k_extra "my compareOp In")
local macro_rules | `(tactic| walk_at "getMethod ref") => `(tactic| k_extra "my getMethod ref")
local macro_rules | `(tactic| walk_at "call builtin:dict.get") => `(tactic| k_extra "my call builtin:dict.get")
local macro_rules | `(tactic| walk_at "subscriptTail") => `(tactic| k_extra "my subscriptTail")
local macro_rules | `(tactic| walk_at "binaryOp Add") => `(tactic| k_extra "my binaryOp Add")
local macro_rules | `(tactic| walk_at "call type:bytes") => `(tactic| k_extra "my call type:bytes")
local macro_rules | `(tactic| walk_at "eval Tuple") => `(tactic| k_extra "my eval Tuple")
local macro_rules | `(tactic| walk_at "call ref") => `(tactic| k_extra "my call ref")
local macro_rules | `(tactic| walk_at "pyIter str") => `(tactic| k_extra "my pyIter str")
local macro_rules | `(tactic| walk_at "eval Name") => `(tactic| k_extra "my eval Name")
local macro_rules | `(tactic| walk_at "call builtin:min") => `(tactic| k_extra "my call builtin:min")
local macro_rules | `(tactic| walk_at "Keeps") => `(tactic| k_extra "my Keeps")
local macro_rules | `(tactic| kmk_sum) => `(tactic| k_extra "my kmk_sum")
local macro_rules | `(tactic| walk_at "XEnd") => `(tactic| k_extra "my XEnd")
local macro_rules | `(tactic| walk_at "IsIntV") => `(tactic| k_extra "my IsIntV")
local macro_rules | `(tactic| walk_at "XPost") => `(tactic| k_extra "my XPost")
local macro_rules | `(tactic| walk_at "call builtin:chr") => `(tactic| k_extra "my call builtin:chr")
local macro_rules | `(tactic| walk_at "binaryOp Mod int int") => `(tactic| k_extra "my binaryOp Mod int int")
local macro_rules | `(tactic| walk_at "compareOp NotEq ref ref") => `(tactic| k_extra "my compareOp NotEq ref ref")
local macro_rules | `(tactic| walk_at "KswEnd") => `(tactic| k_extra "my KswEnd")
local macro_rules | `(tactic| k_upd) => `(tactic| k_extra "my k_upd")
local macro_rules | `(tactic| k_all) => `(tactic| k_extra "my k_all")
local macro_rules | `(tactic| walk_at "call builtin:len") => `(tactic| k_extra "my call builtin:len")
local macro_rules | `(tactic| walk_at "binaryOp Mult int int") => `(tactic| k_extra "my binaryOp Mult int int")
local macro_rules | `(tactic| walk_at "compareOp Eq ref ref") => `(tactic| k_extra "my compareOp Eq ref ref")
local macro_rules | `(tactic| walk_at "last subscriptTail") => `(tactic| k_extra "my last subscriptTail")
local macro_rules | `(tactic| walk_at "subscriptTail Name Slice ref ref") => `(tactic| k_extra "my subscriptTail Name Slice ref ref")
local macro_rules | `(tactic| k_updF) => `(tactic| k_extra "my k_updF")
local macro_rules | `(tactic| walk_at "CompEnd") => `(tactic| k_extra "my CompEnd")
local macro_rules | `(tactic| walk_at "pyIter bytes") => `(tactic| k_extra "my pyIter bytes")
local macro_rules | `(tactic| walk_at "CompSrc") => `(tactic| k_extra "my CompSrc")
local macro_rules | `(tactic| walk_at "binaryOp Mult ref int") => `(tactic| k_extra "my binaryOp Mult ref int")
local macro_rules | `(tactic| walk_at "call builtin:str.join") => `(tactic| k_extra "my call builtin:str.join")
local macro_rules | `(tactic| walk_at "compareOp NotIn") => `(tactic| k_extra "my compareOp NotIn")

section
open PySem PySem.W PyProof.Rows
namespace Mine

noncomputable abbrev EvOut (α : Type) := Option (Except Value α × Pos × BT × Nat × Nat)
noncomputable abbrev EvRec := Ctx → Pos → BT → Nat → Nat → Option (Result × BT × Nat × Nat)

/-- a tree run to its leaf: the heap a tree of objects, its size, the next token -/
noncomputable def evT (S : Setting) (rc : EvRec) (Γ : Ctx) {α : Type} (t : Sem α) : Pos → BT → Nat → Nat → EvOut α :=
  @Sem.rec α (fun _ => Pos → BT → Nat → Nat → EvOut α)
    (fun a p T n k => some (.ok a, p, T, n, k))
    (fun e p T n k => some (.error e, p, T, n, k))
    (fun _ _ _ _ _ => none)
    (fun _ _ _ _ _ => none)
    (fun _ _ ih p T n k => ih () p T n k)
    (fun q _ ih _ T n k => ih () q T n k)
    (fun a _ _ ih p T n k => @Bool.rec (fun _ => EvOut α) none
      (@Option.rec Obj (fun _ => EvOut α) none (fun o => @Option.rec Obj (fun _ => EvOut α) none (fun o' => ih o' p T n k) (alive o)) (T.get a)) (Nat.blt a n))
    (fun a _ f _ ih p T n k => @Bool.rec (fun _ => EvOut α) none
      (@Option.rec Obj (fun _ => EvOut α) none (fun o => @Option.rec Obj (fun _ => EvOut α) none (fun _ => ih () p (T.set a f) n k) (alive o)) (T.get a)) (Nat.blt a n))
    (fun o _ ih p T n k => @Option.rec Obj (fun _ => EvOut α) none (fun _ => ih n p (T.ins n o) (n + 1) k) ((T.ins n o).get n))
    (fun _ _ _ _ _ _ _ => none)
    (fun _ _ ih p T n k => ih () p T n k)
    (fun _ _ _ _ _ _ _ => none)
    (fun _ ih p T n k => ih k p T n (k + 1))
    (fun _ ih p T n k => ih S p T n k)
    (fun _ _ _ _ _ _ _ _ => none)
    (fun _ _ _ _ _ _ _ _ => none)
    (fun c h _ _ _ ih p T n k => @Option.rec (Result × BT × Nat × Nat) (fun _ => EvOut α) none (fun x => ih x.1 p x.2.1 x.2.2.1 x.2.2.2) (rc (Γ.enter c h p) p T n k))
    (fun own _ ih p T n k => ih (if own then Γ.own else Γ.handled) p T n k)
    (fun _ _ _ _ _ _ _ => none)
    (fun _ _ _ _ _ _ _ => none)
    (fun _ _ _ _ _ _ _ _ _ => none)
    (fun _ _ _ _ _ _ _ _ _ => none)
    (fun _ ih p T n k => ih ((Γ.code, p) :: Γ.below) p T n k)
    (fun _ _ _ _ _ _ _ => none)
    (fun _ ih p T n k => ih 0 p T n k)
    (fun _ _ _ _ _ _ _ _ _ _ => none)
    t

noncomputable def evC (S : Setting) (den : Code → Sem PySem.Fin) (f : Nat) : EvRec :=
  @Nat.rec (fun _ => EvRec) (fun _ _ _ _ _ => none) (fun _ ih Γ p T n k =>
    @Option.rec (Except Value PySem.Fin × Pos × BT × Nat × Nat) (fun _ => Option (Result × BT × Nat × Nat)) none
      (fun x => @Except.rec Value Fin (fun _ => Option (Result × BT × Nat × Nat)) (fun e => some (.error e, x.2.2))
        (fun fin => @PySem.Fin.rec (fun _ => Option (Result × BT × Nat × Nat)) (fun fl => some (.ok fl, x.2.2))
          (fun c => @Bool.rec (fun _ => Option (Result × BT × Nat × Nat)) none (ih (Γ.goto c) x.2.1 x.2.2.1 x.2.2.2.1 x.2.2.2.2) c.quiet) fin) x.1)
      (evT S ih Γ (den Γ.code) p T n k)) f

section
variable {M : Model} {rc : EvRec} {life : Life} {g : Array GenState} {d : Drawn} {os : OsState}

noncomputable abbrev at_ (T : BT) (n : Nat) (life : Life) (g : Array GenState) (d : Drawn) (k : Nat) (os : OsState) : Shared := ⟨absHeap T n life, g, d, k, os⟩

noncomputable abbrev EvRecOk (M : Model) (rc : EvRec) (life : Life) (g : Array GenState) (d : Drawn) (os : OsState) : Prop :=
  ∀ Γ p T n k r T' n' k', rc Γ p T n k = some (r, T', n', k') → ∀ R : Result → Shared → Prop, R r (at_ T' n' life g d k' os) → wpCode M Γ R p (at_ T n life g d k os)

noncomputable abbrev EvPost {α : Type} (Q : α → Pos → Shared → Prop) (E : Value → Pos → Shared → Prop) (r : Except Value α) (p : Pos) (s : Shared) : Prop := match r with
  | .ok a => Q a p s
  | .error e => E e p s

theorem evT_sound (hrc : EvRecOk M rc life g d os) {Γ : Ctx} {α : Type} (t : Sem α) : ∀ {p : Pos} {T : BT} {n k : Nat} {r : Except Value α} {p' : Pos} {T' : BT} {n' k' : Nat} {Q : α → Pos → Shared → Prop} {E : Value → Pos → Shared → Prop},
    evT ⟨M.prog, M.w.params⟩ rc Γ t p T n k = some (r, p', T', n', k') → EvPost Q E r p' (at_ T' n' life g d k' os) → Sem.wp M Γ t Q E p (at_ T n life g d k os) := by
  induction t with
  | pure a =>
    intro p T n k r p' T' n' k' Q E h q
    have h : some (Except.ok a, p, T, n, k) = some (r, p', T', n', k') := h
    cases h
    exact q
  | raise e =>
    intro p T n k r p' T' n' k' Q E h q
    have h : some (Except.error e, p, T, n, k) = some (r, p', T', n', k') := h
    cases h
    exact q
  | rule _ f ih => intro p T n k r p' T' n' k' Q E h q; exact ih () h q
  | «at» _ f ih => intro p T n k r p' T' n' k' Q E h q; exact ih () h q
  | point _ f ih => intro p T n k r p' T' n' k' Q E h q; exact ih () h q
  | fresh f ih => intro p T n k r p' T' n' k' Q E h q; exact ih k (n := n) h q
  | ask f ih => intro p T n k r p' T' n' k' Q E h q; exact ih _ h q
  | handled own f ih => intro p T n k r p' T' n' k' Q E h q; exact ih _ h q
  | stack f ih => intro p T n k r p' T' n' k' Q E h q; exact ih _ h q
  | thread f ih => intro p T n k r p' T' n' k' Q E h q; exact ih _ h q
  | load a part f ih =>
    intro p T n k r p' T' n' k' Q E h q
    have h : @Bool.rec (fun _ => EvOut _) none
      (@Option.rec Obj (fun _ => EvOut _) none (fun o => @Option.rec Obj (fun _ => EvOut _) none (fun o' => evT ⟨M.prog, M.w.params⟩ rc Γ (f o') p T n k) (alive o)) (T.get a)) (Nat.blt a n) = some (r, p', T', n', k') := h
    cases hb : Nat.blt a n with
    | false => rw [hb] at h; cases h
    | true =>
      rw [hb] at h
      have hlt : a < n := Nat.le_of_ble_eq_true hb
      cases ho : T.get a with
      | none => rw [ho] at h; cases h
      | some o =>
        rw [ho] at h
        cases ha : alive o with
        | none => dsimp only at h; rw [ha] at h; cases h
        | some o' =>
          dsimp only at h
          rw [ha] at h
          exact ⟨o', (abs_get hlt ho).trans ha, ih o' h q⟩
  | update a part u f ih =>
    intro p T n k r p' T' n' k' Q E h q
    have h : @Bool.rec (fun _ => EvOut _) none
      (@Option.rec Obj (fun _ => EvOut _) none (fun o => @Option.rec Obj (fun _ => EvOut _) none (fun _ => evT ⟨M.prog, M.w.params⟩ rc Γ (f ()) p (T.set a u) n k) (alive o)) (T.get a)) (Nat.blt a n) = some (r, p', T', n', k') := h
    cases hb : Nat.blt a n with
    | false => rw [hb] at h; cases h
    | true =>
      rw [hb] at h
      have hlt : a < n := Nat.le_of_ble_eq_true hb
      cases ho : T.get a with
      | none => rw [ho] at h; cases h
      | some o =>
        rw [ho] at h
        cases ha : alive o with
        | none => dsimp only at h; rw [ha] at h; cases h
        | some o' =>
          dsimp only at h
          rw [ha] at h
          have := ih () h q
          rw [at_, absHeap_set ho] at this
          exact ⟨by rw [abs_get hlt ho, ha]; rfl, this⟩
  | alloc o f ih =>
    intro p T n k r p' T' n' k' Q E h q
    have h : @Option.rec Obj (fun _ => EvOut _) none (fun _ => evT ⟨M.prog, M.w.params⟩ rc Γ (f n) p (T.ins n o) (n + 1) k) ((T.ins n o).get n) = some (r, p', T', n', k') := h
    cases ho : (T.ins n o).get n with
    | none => rw [ho] at h; cases h
    | some o' =>
      rw [ho] at h
      have := ih n h q
      rw [at_, absHeap_ins (by rw [ho]; rfl)] at this
      show Sem.wp M Γ (f (absHeap T n life).objs.size) Q E p _
      rw [absHeap_size]
      exact this
  | call c hd gd l f ih =>
    intro p T n k r p' T' n' k' Q E h q
    have h : @Option.rec (Result × BT × Nat × Nat) (fun _ => EvOut _) none (fun x => evT ⟨M.prog, M.w.params⟩ rc Γ (f x.1) p x.2.1 x.2.2.1 x.2.2.2) (rc (Γ.enter c hd p) p T n k) = some (r, p', T', n', k') := h
    cases hx : rc (Γ.enter c hd p) p T n k with
    | none => rw [hx] at h; cases h
    | some x =>
      obtain ⟨r₁, T₁, n₁, k₁⟩ := x
      rw [hx] at h
      exact hrc _ _ _ _ _ _ _ _ _ hx _ (ih r₁ h q)
  | _ => intro p T n k r p' T' n' k' Q E h q; cases h

theorem evC_sound (f : Nat) : EvRecOk M (evC ⟨M.prog, M.w.params⟩ M.den f) life g d os := by
  induction f with
  | zero => intro Γ p T n k r T' n' k' h; cases h
  | succ f ih =>
    intro Γ p T n k r T' n' k' h R hR
    rw [wpCode_iff_wp]
    have h : @Option.rec (Except Value PySem.Fin × Pos × BT × Nat × Nat) (fun _ => Option (Result × BT × Nat × Nat)) none
      (fun x => @Except.rec Value Fin (fun _ => Option (Result × BT × Nat × Nat)) (fun e => some (.error e, x.2.2))
        (fun fin => @PySem.Fin.rec (fun _ => Option (Result × BT × Nat × Nat)) (fun fl => some (.ok fl, x.2.2))
          (fun c => @Bool.rec (fun _ => Option (Result × BT × Nat × Nat)) none (evC ⟨M.prog, M.w.params⟩ M.den f (Γ.goto c) x.2.1 x.2.2.1 x.2.2.2.1 x.2.2.2.2) c.quiet) fin) x.1)
      (evT ⟨M.prog, M.w.params⟩ (evC ⟨M.prog, M.w.params⟩ M.den f) Γ (M.den Γ.code) p T n k) = some (r, T', n', k') := h
    cases hx : evT ⟨M.prog, M.w.params⟩ (evC ⟨M.prog, M.w.params⟩ M.den f) Γ (M.den Γ.code) p T n k with
    | none => rw [hx] at h; cases h
    | some x =>
      obtain ⟨r₁, p₁, T₁, n₁, k₁⟩ := x
      rw [hx] at h
      refine evT_sound ih _ hx ?_
      cases r₁ with
      | error e => cases h; exact hR
      | ok fin =>
        cases fin with
        | done fl => cases h; exact hR
        | again c =>
          dsimp only at h
          cases hq : c.quiet with
          | false => rw [hq] at h; cases h
          | true =>
            rw [hq] at h
            exact ⟨hq, ih _ _ _ _ _ _ _ _ _ h R hR⟩

/-- the two together, the tree's den written by another name of it -/
theorem ev_run {prog : Program} {w : World} {den : Code → Sem PySem.Fin} (hden : denote table = den) {f : Nat} {Γ : Ctx} {α : Type} {t : Sem α} {p : Pos} {T : BT} {n k : Nat} {a : α} {p' : Pos} {T' : BT} {n' k' : Nat} {Q : α → Pos → Shared → Prop} {E : Value → Pos → Shared → Prop}
    (h : evT ⟨prog, w.params⟩ (evC ⟨prog, w.params⟩ den f) Γ t p T n k = some (.ok a, p', T', n', k')) (q : Q a p' (at_ T' n' life g d k' os)) :
    Sem.wp (model prog w) Γ t Q E p (at_ T n life g d k os) := by
  subst hden
  exact evT_sound (M := model prog w) (evC_sound (M := model prog w) f) t h q
end
end Mine
end

section
open PySem PySem.W PyProof.Rows
namespace Mine

noncomputable def rowOf (e : DictEntry) : Option (Int × Str) := match e with
  | ⟨h, .int k _, .str v _⟩ => if h = hashInt k then some (k, v) else none
  | _ => none
theorem rowOf_some {e : DictEntry} {r : Int × Str} (h : rowOf e = some r) : e.hash = hashInt r.1 ∧ ∃ t u, e.key = .int r.1 t ∧ e.val = .str r.2 u := by
  obtain ⟨h0, k, v⟩ := e
  unfold rowOf at h
  split at h
  · rename_i heq
    cases heq
    split at h
    · rename_i hx
      cases h
      exact ⟨hx, _, _, rfl, rfl⟩
    · cases h
  · cases h
theorem rowOf_mk (k : Int) (t : Tok) (v : Str) (u : Tok) : rowOf ⟨hashInt k, .int k t, .str v u⟩ = some (k, v) := by
  unfold rowOf; simp

/-- the dict at a, its rows in order -/
noncomputable def DictIs (h : Heap) (a : Addr) (rows : List (Int × Str)) : Prop :=
  ∃ es ep, h.get? a = some ⟨.type "dict", none, .dict es ep, #[]⟩ ∧ es.toList.map rowOf = rows.map some

theorem DictIs.keys {es : Array DictEntry} {rows : List (Int × Str)} (h : es.toList.map rowOf = rows.map some) : IntKeys es := by
  intro e he
  have hm : rowOf e ∈ es.toList.map rowOf := List.mem_map_of_mem (Array.mem_toList_iff.mpr he)
  rw [h] at hm
  obtain ⟨r, _, hr⟩ := List.mem_map.mp hm
  obtain ⟨h1, t, u, h2, _⟩ := rowOf_some hr.symm
  exact ⟨r.1, t, h2, h1⟩
theorem DictIs.fresh {es : Array DictEntry} {rows : List (Int × Str)} {k : Int} (h : es.toList.map rowOf = rows.map some) (hk : k ∉ rows.map (·.1)) : (es.findIdx? fun e => Value.isInt k e.key) = none := by
  refine Array.findIdx?_eq_none_iff.mpr fun e he => ?_
  have hm : rowOf e ∈ es.toList.map rowOf := List.mem_map_of_mem (Array.mem_toList_iff.mpr he)
  rw [h] at hm
  obtain ⟨r, hr0, hr⟩ := List.mem_map.mp hm
  obtain ⟨h1, t, u, h2, _⟩ := rowOf_some hr.symm
  rw [h2]
  show (r.1 == k) = false
  refine beq_eq_false_iff_ne.mpr fun e' => hk ?_
  exact e' ▸ List.mem_map_of_mem hr0
theorem rows_size {es : Array DictEntry} {rows : List (Int × Str)} (h : es.toList.map rowOf = rows.map some) : es.size = rows.length := by
  have := congrArg List.length h
  simpa using this

/-- all below lo as it stood -/
structure Over (lo : Nat) (h h' : Heap) : Prop where
  life : h'.life = h.life
  below : ∀ b, b < lo → h'.objs[b]? = h.objs[b]?
theorem Over.refl (lo : Nat) (h : Heap) : Over lo h h := ⟨rfl, fun _ _ => rfl⟩
theorem Over.trans {lo : Nat} {h h' h'' : Heap} (a : Over lo h h') (b : Over lo h' h'') : Over lo h h'' := ⟨b.life.trans a.life, fun x hx => (b.below x hx).trans (a.below x hx)⟩
theorem Over.push {lo : Nat} {h h' : Heap} (a : Over lo h h') (o : Obj) (hl : lo ≤ h'.objs.size) : Over lo h (h'.push o) := ⟨a.life, fun b hb => by
  show (h'.objs.push o)[b]? = _
  rw [Array.getElem?_push, if_neg (by omega)]; exact a.below b hb⟩
theorem Over.update {lo : Nat} {h h' : Heap} (a : Over lo h h') {x : Addr} (f : Obj → Obj) (hx : lo ≤ x) : Over lo h (h'.update x f) := ⟨a.life, fun b hb => by
  show (h'.objs.modify x f)[b]? = _
  rw [Array.getElem?_modify, if_neg (by omega)]; exact a.below b hb⟩

theorem size_update (h : Heap) (x : Addr) (f : Obj → Obj) : (h.update x f).objs.size = h.objs.size := by
  show (h.objs.modify x f).size = _
  exact Array.size_modify ..
theorem size_push (h : Heap) (o : Obj) : (h.push o).objs.size = h.objs.size + 1 := by
  show (h.objs.push o).size = _
  exact Array.size_push ..

section
variable {prog : Program} {w : World} {A : Around} {E : Value → Shared → Prop} {s : Shared}

/-- what a put makes: the row behind, nothing else -/
theorem put_core {d : Addr} {rows : List (Int × Str)} {k : Int} {t : Tok} {v : Str} {u : Tok} {Q : Unit → Shared → Prop} (hd : DictIs s.heap d rows) (hl : rows.length ≤ sizeLine)
    (hQ : ∀ f, DictIs (s.heap.update d f) d (rows ++ [(k, v)]) → (∀ b, b ≠ d → (s.heap.update d f).get? b = s.heap.get? b) → Q () { s with heap := s.heap.update d f }) {part : Option Value} :
    wpAny (model prog w) A (updateDictKeys d (·.push ⟨hashInt k, .int k t, .str v u⟩) part) Q E s := by
  obtain ⟨es, ep, ho, he⟩ := hd
  refine wpAny_updateDictKeys ho rfl (hQ _ ⟨es.push ⟨hashInt k, .int k t, .str v u⟩, ep + 1, Heap.get?_update_self _ ho rfl, ?_⟩ fun b hb => Heap.get?_update_ne _ _ _ _ hb) (by rw [rows_size he]; exact hl) (by simp)
  rw [Array.toList_push, List.map_append, he, List.map_append]
  simp [rowOf_mk]

theorem dictSet_row {d : Addr} {rows : List (Int × Str)} {k : Int} {t : Tok} {v : Str} {u : Tok} {Q : Unit → Shared → Prop} (hd : DictIs s.heap d rows) (hl : rows.length ≤ sizeLine) (hk : k ∉ rows.map (·.1))
    (hQ : ∀ f, DictIs (s.heap.update d f) d (rows ++ [(k, v)]) → (∀ b, b ≠ d → (s.heap.update d f).get? b = s.heap.get? b) → Q () { s with heap := s.heap.update d f, toks := s.toks + 1 }) :
    wpAny (model prog w) A (dictSet d (.int k t) (.str v u)) Q E s := by
  unfold dictSet
  refine wpAny_holding ?_
  refine wpAny_bind (wpAny_pyHash_int ?_)
  unfold dictSetHashed
  refine wpAny_holding ?_
  obtain ⟨es, ep, ho, he⟩ := hd
  refine wpAny_bind (wpAny_dictFind_int (s := { s with toks := s.toks + 1 }) ho rfl (DictIs.keys he) ?_)
  rw [DictIs.fresh he hk]
  exact wpAny_bind (wpAny_rule (put_core (s := { s with toks := s.toks + 1 }) ⟨es, ep, ho, he⟩ hl hQ))

theorem dictPut_row {d : Addr} {rows : List (Int × Str)} {k : Int} {t : Tok} {v : Str} {u : Tok} {Q : Unit → Shared → Prop} (hd : DictIs s.heap d rows) (hl : rows.length ≤ sizeLine) (hk : k ∉ rows.map (·.1))
    (hQ : ∀ f, DictIs (s.heap.update d f) d (rows ++ [(k, v)]) → (∀ b, b ≠ d → (s.heap.update d f).get? b = s.heap.get? b) → Q () { s with heap := s.heap.update d f }) :
    wpAny (model prog w) A (dictPut d (hashInt k) (.int k t) (.str v u)) Q E s := by
  unfold dictPut
  obtain ⟨es, ep, ho, he⟩ := hd
  refine wpAny_bind (wpAny_dictFind_int ho rfl (DictIs.keys he) ?_)
  rw [DictIs.fresh he hk]
  exact put_core ⟨es, ep, ho, he⟩ hl hQ

noncomputable abbrev semK (r : Int × Str) : Sem Value := mkInt r.1
noncomputable abbrev semV (p : Pos) (r : Int × Str) : Sem Value := do let x ← mkText r.2; standAt p; pure x
noncomputable abbrev semKV (p : Pos) (r : Int × Str) : Sem Value × Sem Value := (semK r, semV p r)

theorem semK_wp {r : Int × Str} {Q : Value → Shared → Prop} (h : Q (.int r.1 s.toks) { s with toks := s.toks + 1 }) : wpAny (model prog w) A (semK r) Q E s := wpAny_mkInt h
theorem semV_wp {p : Pos} {r : Int × Str} {Q : Value → Shared → Prop} (h : Q (.str r.2 s.toks) { s with toks := s.toks + 1 }) : wpAny (model prog w) A (semV p r) Q E s :=
  wpAny_bind (wpAny_mkText (wpAny_bind (wpAny_standAt (wpAny_pure h))))

/-- what a run of the sub-display makes -/
noncomputable abbrev SubPost (s : Shared) (d : Addr) (rows : List (Int × Str)) (c : Nat) (Q : Shared → Prop) : Prop :=
  ∀ h' tk, @Eq Nat tk (s.toks + c) → DictIs h' d rows → h'.objs.size = s.heap.objs.size → Over d s.heap h' → (∀ b, b ≠ d → h'.get? b = s.heap.get? b) → Q { s with heap := h', toks := tk }

theorem long_loop {d : Addr} {p : Pos} : ∀ (l done : List (Int × Str)) (s : Shared) {Q : Unit → Shared → Prop}, DictIs s.heap d done → ((done ++ l).map (·.1)).Nodup → (done ++ l).length ≤ sizeLine →
    SubPost s d (done ++ l) (3 * l.length) (Q ()) →
    wpAny (model prog w) A (forIn (l.map (semKV p)) () fun (x : Sem Value × Sem Value) (_ : Unit) => do
      let kv ← x.1
      let vv ← holding [kv] x.2
      holding [kv, vv] (dictSet d kv vv)
      pure (ForInStep.yield ())) (fun _ s' => Q () s') E s
  | [], done, s, Q, hd, hn, hl, hQ => by
    rw [List.map_nil, List.forIn_nil]
    rw [List.append_nil] at hQ
    exact wpAny_pure (hQ _ _ rfl hd rfl (Over.refl _ _) fun _ _ => rfl)
  | r :: l, done, s, Q, hd, hn, hl, hQ => by
    rw [List.map_cons, List.forIn_cons]
    have hk : r.1 ∉ done.map (·.1) := by
      rw [List.map_append, List.map_cons, List.nodup_append] at hn
      exact fun hm => hn.2.2 _ hm _ (.head _) rfl
    have e : done ++ r :: l = (done ++ [r]) ++ l := by simp
    refine wpAny_bind (wpAny_bind (semK_wp (wpAny_bind (wpAny_holding (semV_wp (wpAny_bind (wpAny_holding (dictSet_row (rows := done) (k := r.1) (v := r.2) ?_ ?_ hk fun f h1 h2 => wpAny_pure ?_))))))))
    · exact hd
    · rw [List.length_append] at hl; omega
    · refine long_loop l (done ++ [r]) _ h1 (e ▸ hn) (e ▸ hl) fun h' tk h0 h3 h4 h5 h6 => ?_
      exact hQ h' tk (h0.trans (by simp only [List.length_cons]; omega)) (e ▸ h3) (h4.trans (size_update _ _ _)) (((Over.refl _ _).update f (Nat.le_refl d)).trans h5) fun b hb => (h6 b hb).trans (h2 b hb)

theorem pairs_wp {p : Pos} : ∀ (l : List (Int × Str)) (s : Shared) {Q : List (Value × Value) → Shared → Prop},
    (∀ (vs : List (Value × Value)) tk, @Eq Nat tk (s.toks + 2 * l.length) → vs.map (fun x => match x with | (.int k _, .str v _) => some (k, v) | _ => none) = l.map some → Q vs { s with toks := tk }) →
    wpAny (model prog w) A (evalPairs (l.map (semKV p))) Q E s
  | [], s, Q, h => wpAny_pure (h [] s.toks rfl rfl)
  | r :: l, s, Q, h => by
    show wpAny _ _ (do let kv ← semK r; let vv ← holding [kv] (semV p r); return (kv, vv) :: (← holding [kv, vv] (evalPairs (l.map (semKV p))))) _ _ _
    refine wpAny_bind (semK_wp (wpAny_bind (wpAny_holding (semV_wp (wpAny_bind (wpAny_holding (pairs_wp l _ fun vs tk h0 hv => wpAny_pure (h _ tk (h0.trans (by simp only [List.length_cons]; omega)) ?_))))))))
    rw [List.map_cons, List.map_cons, hv]

theorem short_loop {d : Addr} : ∀ (vs : List (Value × Value)) (l done : List (Int × Str)) (s : Shared) {Q : Unit → Shared → Prop},
    vs.map (fun x => match x with | (.int k _, .str v _) => some (k, v) | _ => none) = l.map some → DictIs s.heap d done → ((done ++ l).map (·.1)).Nodup → (done ++ l).length ≤ sizeLine →
    SubPost s d (done ++ l) l.length (Q ()) →
    wpAny (model prog w) A (forIn vs () fun (x : Value × Value) (_ : Unit) => do
      dictSet d x.1 x.2
      pure (ForInStep.yield ())) (fun _ s' => Q () s') E s
  | [], [], done, s, Q, _, hd, hn, hl, hQ => by
    rw [List.forIn_nil]
    rw [List.append_nil] at hQ
    exact wpAny_pure (hQ _ _ rfl hd rfl (Over.refl _ _) fun _ _ => rfl)
  | [], _ :: _, _, _, _, hv, _, _, _, _ => by simp at hv
  | _ :: _, [], _, _, _, hv, _, _, _, _ => by simp at hv
  | x :: vs, r :: l, done, s, Q, hv, hd, hn, hl, hQ => by
    rw [List.map_cons, List.map_cons, List.cons.injEq] at hv
    have hk : r.1 ∉ done.map (·.1) := by
      rw [List.map_append, List.map_cons, List.nodup_append] at hn
      exact fun hm => hn.2.2 _ hm _ (.head _) rfl
    have e : done ++ r :: l = (done ++ [r]) ++ l := by simp
    obtain ⟨a, b⟩ := x
    have hx : ∃ t u, a = .int r.1 t ∧ b = .str r.2 u := by
      have := hv.1
      split at this
      · rename_i heq
        cases heq; cases this; exact ⟨_, _, rfl, rfl⟩
      · cases this
    obtain ⟨t, u, rfl, rfl⟩ := hx
    rw [List.forIn_cons]
    refine wpAny_bind (wpAny_bind (dictSet_row (rows := done) hd ?_ hk fun f h1 h2 => wpAny_pure ?_))
    · rw [List.length_append] at hl; omega
    · refine short_loop vs l (done ++ [r]) _ hv.2 h1 (e ▸ hn) (e ▸ hl) fun h' tk h0 h3 h4 h5 h6 => ?_
      exact hQ h' tk (h0.trans (by simp only [List.length_cons]; omega)) (e ▸ h3) (h4.trans (size_update _ _ _)) (((Over.refl _ _).update f (Nat.le_refl d)).trans h5) fun b hb => (h6 b hb).trans (h2 b hb)

theorem dictIs_nil {h : Heap} : DictIs (h.push { cls := .type "dict", data := .dict #[] }) h.objs.size [] := ⟨#[], 0, Heap.get?_push_size _ rfl, rfl⟩

theorem subDict_wp {p : Pos} {l : List (Int × Str)} {Q : Addr → Shared → Prop} (hn : (l.map (·.1)).Nodup) (hl : l.length ≤ sizeLine)
    (hQ : ∀ h' tk, @Eq Nat tk (s.toks + 3 * l.length) → DictIs h' s.heap.objs.size l → h'.objs.size = s.heap.objs.size + 1 → Over s.heap.objs.size s.heap h' → (∀ b o, s.heap.get? b = some o → h'.get? b = some o) → Q s.heap.objs.size { s with heap := h', toks := tk }) :
    wpAny (model prog w) A (subDict (l.map (semKV p))) Q E s := by
  unfold subDict
  have close : ∀ (s₁ : Shared), s₁.heap = s.heap.push { cls := .type "dict", data := .dict #[] } → s₁.gens = s.gens → s₁.drawn = s.drawn → s₁.os = s.os → ∀ c, @Eq Nat (s₁.toks + c) (s.toks + 3 * l.length) → SubPost s₁ s.heap.objs.size ([] ++ l) c (fun s' => Q s.heap.objs.size s') := by
    intro s₁ e1 e2 e3 e4 c ec h' tk h0 h1 h2 h3 h4
    have hb : Over s.heap.objs.size s.heap h' := ((Over.refl _ _).push _ (Nat.le_refl _)).trans (e1 ▸ h3)
    have hk : ∀ b o, s.heap.get? b = some o → h'.get? b = some o := fun b o ho => by
      rw [h4 b (Nat.ne_of_lt (Heap.lt_size ho)), e1]
      exact Heap.get?_push_of_some _ ho
    have := hQ h' tk (h0.trans ec) h1 (by rw [h2, e1, size_push]) hb hk
    obtain ⟨hp, g, d, t, os⟩ := s₁
    dsimp only at e2 e3 e4
    subst e2 e3 e4
    exact this
  refine wpAny_bind (wpAny_alloc (wpAny_bind (wpAny_holding ?_)))
  by_cases h15 : (l.map (semKV p)).length ≤ 15
  · rw [if_pos h15]
    refine wpAny_bind (pairs_wp l _ fun vs tk h0 hv => wpAny_holding (wpAny_bind ?_))
    refine wpAny_mono (short_loop (Q := fun _ s' => wpAny (model prog w) A (pure s.heap.objs.size) Q E s') vs l [] _ hv dictIs_nil (by simpa using hn) (by simpa using hl) ?_) (fun _ _ h => wpAny_pure h) fun _ _ h => h
    intro h' tk' z a b c e
    exact wpAny_pure (close ⟨_, _, _, _, _⟩ rfl rfl rfl rfl l.length (by dsimp only at h0 ⊢; omega) h' tk' z a b c e)
  · rw [if_neg h15]
    refine wpAny_bind (wpAny_rule (wpAny_bind ?_))
    refine wpAny_mono (long_loop (Q := fun _ s' => wpAny (model prog w) A (pure s.heap.objs.size) Q E s') l [] _ dictIs_nil (by simpa using hn) (by simpa using hl) ?_) (fun _ _ h => wpAny_pure h) fun _ _ h => h
    intro h' tk' z a b c e
    exact wpAny_pure (close ⟨_, _, _, _, _⟩ rfl rfl rfl rfl (3 * l.length) rfl h' tk' z a b c e)
end
end Mine
end

section
open PySem PySem.W PyProof.Rows
namespace Mine

theorem sub_dict_dict : isSubtype (.type "dict") (.type "dict") = pure true := by rw [isSubtype_type]; kernel_rfl
theorem look_dict_iter : typeLookup (.type "dict") "__iter__" = pure (some (.builtin "dict.__iter__")) := by
  rw [typeLookup_type, builtinLookup_eq_fast]; kernel_rfl

section
variable {prog : Program} {w : World} {A : Around} {E : Value → Shared → Prop} {s : Shared}

/-- a state that parts from s in its heap and tokens alone, its heap from s's at d alone -/
noncomputable def Parts (s : Shared) (d : Addr) (s' : Shared) : Prop :=
  s' = { s with heap := s'.heap } ∧ s'.heap.objs.size = s.heap.objs.size ∧ Over d s.heap s'.heap ∧ ∀ b, b ≠ d → s'.heap.get? b = s.heap.get? b

theorem merge_wp {d a : Addr} (hda : d ≠ a) (hm : (a == sysModules) = false) {main sub : List (Int × Str)} {Q : Unit → Shared → Prop} (hd : DictIs s.heap d main) (hne : main ≠ []) (ha : DictIs s.heap a sub) (hn : ((main ++ sub).map (·.1)).Nodup) (hl : (main ++ sub).length ≤ sizeLine)
    (hQ : SubPost s d (main ++ sub) 0 (Q ())) : wpAny (model prog w) A (mergeMapping d (.ref a) false) Q E s := by
  unfold mergeMapping
  obtain ⟨ee, ep, ha1, ha2⟩ := ha
  have hT : s.TypeIs (.ref a) "dict" := ⟨_, ha1, rfl⟩
  refine wpAny_bind (wpAny_isInstance hT sub_dict_dict ?_)
  rw [if_pos rfl]
  refine wpAny_bind (wpAny_specialOf hT look_dict_iter (wpAny_bind (wpAny_pure ?_)))
  rw [show (some (Value.builtin "dict.__iter__") == some (Value.builtin "dict.__iter__")) = true from beq_self_eq_true _]
  dsimp only
  rw [hm]
  have hd' := hd
  obtain ⟨es, ep', hd1, hd2⟩ := hd
  have hne' : es.isEmpty = false := by
    have h1 := rows_size hd2
    rw [Array.isEmpty_eq_false_iff]
    rintro rfl
    cases main with
    | nil => exact hne rfl
    | cons _ _ => cases h1
  rw [if_neg Bool.false_ne_true]
  refine wpAny_bind (wpAny_dictEntries hd1 rfl ?_)
  rw [hne']
  rw [if_neg Bool.false_ne_true]
  refine wpAny_bind (wpAny_dictEntries ha1 rfl (wpAny_bind (wpAny_dictEpoch ha1 rfl ?_)))
  have hsz : ee.size = sub.length := rows_size ha2
  rw [hsz, List.range_eq_range']
  refine wpAny_bind ?_
  refine wpAny_forIn_list _ (fun rest _ s' => ∃ done todo, sub = done ++ todo ∧ rest = List.range' done.length todo.length ∧ DictIs s'.heap d (main ++ done) ∧ Parts s d s') _ ?_ ?_ _ _
    ⟨[], sub, rfl, rfl, by simpa using hd', rfl, rfl, Over.refl _ _, fun _ _ => rfl⟩
  · rintro x rest b s' ⟨done, todo, e1, e2, h0, p1, p2, p3, p4⟩
    cases todo with
    | nil => cases e2
    | cons r l =>
      have hle : done.length < sub.length := by rw [e1, List.length_append, List.length_cons]; omega
      rw [List.length_cons, List.range'_succ, List.cons.injEq] at e2
      obtain ⟨rfl, rfl⟩ := e2
      have hi : done.length < ee.size := by omega
      have hrow : rowOf ee[done.length] = some r := by
        have h1 : (ee.toList.map rowOf)[done.length]? = (sub.map some)[done.length]? := by rw [ha2]
        rw [List.getElem?_map, List.getElem?_map, Array.getElem?_toList, Array.getElem?_eq_getElem hi] at h1
        have h2 : sub[done.length]? = some r := by rw [e1, List.getElem?_append_right (Nat.le_refl _), Nat.sub_self]; rfl
        rw [h2] at h1
        exact Option.some.inj h1
      obtain ⟨h1, t, u, h2, h3⟩ := rowOf_some hrow
      have hk : r.1 ∉ (main ++ done).map (·.1) := by
        have e3 : main ++ sub = (main ++ done) ++ r :: l := by rw [e1, List.append_assoc]
        rw [e3, List.map_append, List.map_cons, List.nodup_append] at hn
        exact fun hm => hn.2.2 _ hm _ (.head _) rfl
      have ha3 : s'.heap.get? a = some ⟨.type "dict", none, .dict ee ep, #[]⟩ := (p4 a (Ne.symm hda)).trans ha1
      refine wpAny_bind (wpAny_dictEntries ha3 rfl ?_)
      rw [Array.getElem?_eq_getElem hi]
      dsimp only
      generalize ee[done.length] = e0 at h1 h2 h3
      obtain ⟨hh, kk, vv⟩ := e0
      dsimp only at h1 h2 h3
      subst h1 h2 h3
      refine wpAny_bind (wpAny_holding (dictPut_row (rows := main ++ done) h0 ?_ hk fun f h4 h5 => ?_))
      · rw [e1] at hl; simp only [List.length_append] at hl ⊢; omega
      have ha4 : (s'.heap.update d f).get? a = some ⟨.type "dict", none, .dict ee ep, #[]⟩ := (h5 a (Ne.symm hda)).trans ha3
      refine wpAny_bind (wpAny_dictEpoch (s := { s' with heap := s'.heap.update d f }) ha4 rfl ?_)
      rw [if_neg (by simp)]
      refine wpAny_pure ⟨done ++ [r], l, by rw [e1]; simp, by simp, by simpa using h4, ?_, (size_update _ _ _).trans p2, p3.update f (Nat.le_refl d), fun b hb => (h5 b hb).trans (p4 b hb)⟩
      rw [p1]
  · rintro b s' ⟨done, todo, e1, e2, h0, p1, p2, p3, p4⟩
    have : todo = [] := by
      cases todo with
      | nil => rfl
      | cons _ _ => rw [List.length_cons, List.range'_succ] at e2; cases e2
    subst this
    rw [List.append_nil] at e1
    subst e1
    rw [p1]
    exact wpAny_pure (hQ _ s.toks rfl h0 p2 p3 p4)

noncomputable abbrev flushM (run : List (Sem Value × Sem Value)) (main : Option Addr) : Sem (Option Addr) :=
  if run.isEmpty = true then pure main
  else match main with
    | none => do
      let d ← subDict run
      pure (some d)
    | some d => do
      let sub ← holding [Value.ref d] (subDict run)
      (holding [Value.ref d, Value.ref sub] (mergeMapping d (Value.ref sub) false)).onRaise fun x => do
        let _ ← holding [Value.ref d, x] (runValue (Code.builtin "proto.let_go" { }))
        pure ()
      pure (some d)

/-- what stands between two flushes: m of them, the rows that they took -/
noncomputable def Mid (s : Shared) (m : Nat) (done : List (Int × Str)) (main : Option Addr) (s' : Shared) : Prop :=
  s' = { s with heap := s'.heap, toks := s'.toks } ∧ @Eq Nat s'.toks (s.toks + 3 * done.length) ∧ s'.heap.objs.size = s.heap.objs.size + m ∧ Over s.heap.objs.size s.heap s'.heap ∧
  ((m = 0 ∧ done = [] ∧ main = none) ∨ (0 < m ∧ done ≠ [] ∧ main = some s.heap.objs.size ∧ DictIs s'.heap s.heap.objs.size done))

theorem flush_wp {p : Pos} {s s' : Shared} {m : Nat} {done pend : List (Int × Str)} {main : Option Addr} {Q : Option Addr → Shared → Prop} (low : sysModules < s.heap.objs.size) (M : Mid s m done main s') (hp : pend ≠ [])
    (hn : ((done ++ pend).map (·.1)).Nodup) (hl : (done ++ pend).length ≤ sizeLine) (hQ : ∀ s'', Mid s (m + 1) (done ++ pend) (some s.heap.objs.size) s'' → Q (some s.heap.objs.size) s'') :
    wpAny (model prog w) A (flushM (pend.map (semKV p)) main) Q E s' := by
  unfold flushM
  rw [if_neg (by cases pend with | nil => exact absurd rfl hp | cons _ _ => exact Bool.false_ne_true)]
  obtain ⟨e1, e0, e2, e3, e4⟩ := M
  have hn2 : (pend.map (·.1)).Nodup := by rw [List.map_append, List.nodup_append] at hn; exact hn.2.1
  have hl2 : pend.length ≤ sizeLine := by rw [List.length_append] at hl; omega
  rcases e4 with ⟨rfl, rfl, rfl⟩ | ⟨hm, hne, rfl, hd⟩
  · refine wpAny_bind (subDict_wp hn2 hl2 fun h' tk z1 h1 h2 h3 h4 => wpAny_pure ?_)
    rw [Nat.add_zero] at e2
    rw [e2] at h1 h3 ⊢
    refine hQ _ ⟨?_, ?_, by rw [h2, e2], e3.trans h3, .inr ⟨Nat.succ_pos _, by simpa using hp, rfl, by simpa using h1⟩⟩
    · rw [e1]
    · simp only [List.nil_append, List.length_nil] at e0 ⊢; omega
  · refine wpAny_bind (wpAny_holding (subDict_wp hn2 hl2 fun h' tk z1 h1 h2 h3 h4 => wpAny_bind (wpAny_onRaise ?_)))
    have hd0 := hd
    obtain ⟨es, ep, hd1, hd2⟩ := hd
    have n1 : s.heap.objs.size ≠ s'.heap.objs.size := by omega
    have n2 : s'.heap.objs.size ≠ sysModules := fun e => by
      have low' : @LT.lt Nat _ sysModules s.heap.objs.size := low
      have e' : @Eq Nat s'.heap.objs.size sysModules := e
      omega
    refine wpAny_holding (merge_wp (main := done) (sub := pend) n1 (beq_eq_false_iff_ne.mpr n2) ⟨es, ep, h4 _ _ hd1, hd2⟩ hne h1 hn hl fun h'' tk' z2 q1 q2 q3 q4 => wpAny_pure ?_)
    refine hQ _ ⟨?_, ?_, ?_, ?_, .inr ⟨Nat.succ_pos _, by simp [hp], rfl, q1⟩⟩
    · rw [e1]
    · rw [List.length_append]; dsimp only at z1 z2 ⊢; omega
    · rw [q2]; show h'.objs.size = _; rw [h2, e2]; omega
    · refine (e3.trans ⟨h3.life, fun b hb => h3.below b (by omega)⟩).trans q3

theorem display_wp {p : Pos} {rows : List (Int × Str)} {Q : Value → Shared → Prop} (low : sysModules < s.heap.objs.size) (hr : rows ≠ []) (hn : (rows.map (·.1)).Nodup) (hl : rows.length ≤ sizeLine)
    (hQ : ∀ h' tk, @Eq Nat tk (s.toks + 3 * rows.length) → DictIs h' s.heap.objs.size rows → h'.objs.size = s.heap.objs.size + (rows.length + 16) / 17 → Over s.heap.objs.size s.heap h' → Q (.ref s.heap.objs.size) { s with heap := h', toks := tk }) :
    wpAny (model prog w) A (dictDisplay (rows.map fun r => (some (semK r), semV p r))) Q E s := by
  unfold dictDisplay
  dsimp only
  refine wpAny_bind ?_
  refine wpAny_forIn_list _ (fun rest b s' => ∃ m done pend todo, rows = done ++ pend ++ todo ∧ rest = todo.map (fun r => (some (semK r), semV p r)) ∧ b.2 = pend.map (semKV p) ∧ pend.length < 17 ∧ done.length = 17 * m ∧ Mid s m done b.1 s') _ ?_ ?_ _ _
    ⟨0, [], [], rows, rfl, rfl, rfl, by decide, rfl, rfl, rfl, rfl, Over.refl _ _, .inl ⟨rfl, rfl, rfl⟩⟩
  · rintro x rest ⟨main, run⟩ s' ⟨m, done, pend, todo, e1, e2, e3, e4, e5, M⟩
    dsimp only at e3 M ⊢
    subst e3
    cases todo with
    | nil => cases e2
    | cons r l =>
      rw [List.map_cons, List.cons.injEq] at e2
      obtain ⟨rfl, rfl⟩ := e2
      dsimp only
      have e6 : pend.map (semKV p) ++ [(semK r, semV p r)] = (pend ++ [r]).map (semKV p) := by simp
      rw [e6, List.length_map]
      by_cases h17 : (pend ++ [r]).length = 17
      · rw [if_pos (by rw [h17]; rfl)]
        refine wpAny_bind (flush_wp low M (by simp) ?_ ?_ fun s'' M' => wpAny_pure ?_)
        · rw [e1] at hn
          have e7 : done ++ pend ++ r :: l = (done ++ (pend ++ [r])) ++ l := by simp
          rw [e7, List.map_append, List.nodup_append] at hn
          exact hn.1
        · rw [e1] at hl; simp only [List.length_append, List.length_cons] at hl ⊢; simp; omega
        · exact ⟨m + 1, done ++ (pend ++ [r]), [], l, by rw [e1]; simp, rfl, rfl, by decide, by rw [List.length_append, h17, e5]; omega, M'⟩
      · rw [if_neg (by simpa using h17)]
        refine wpAny_pure ⟨m, done, pend ++ [r], l, by rw [e1]; simp, rfl, rfl, ?_, e5, M⟩
        rw [List.length_append] at h17 ⊢
        simp only [List.length_cons, List.length_nil] at h17 ⊢
        omega
  · rintro ⟨main, run⟩ s' ⟨m, done, pend, todo, e1, e2, e3, e4, e5, M⟩
    dsimp only at e3 M ⊢
    subst e3
    have : todo = [] := by cases todo with | nil => rfl | cons _ _ => cases e2
    subst this
    rw [List.append_nil] at e1
    have fin : ∀ (m' : Nat) (s'' : Shared), Mid s m' rows (some s.heap.objs.size) s'' → m' = (rows.length + 16) / 17 → Q (.ref s.heap.objs.size) s'' := by
      rintro m' s'' ⟨q1, q0, q2, q3, q4⟩ e
      rcases q4 with ⟨_, q4, _⟩ | ⟨_, _, _, q4⟩
      · exact absurd q4 hr
      · rw [q1]; exact hQ _ _ q0 q4 (by rw [q2, e]) q3
    by_cases hp : pend = []
    · subst hp
      rw [List.append_nil] at e1
      subst e1
      refine wpAny_bind ?_
      rw [List.map_nil]
      show wpAny _ _ (pure main) _ _ _
      refine wpAny_pure ?_
      have M' := M
      obtain ⟨q1, q0, q2, q3, q4⟩ := M'
      rcases q4 with ⟨_, q4, _⟩ | ⟨_, _, rfl, q4⟩
      · exact absurd q4 hr
      · exact wpAny_pure (fin _ _ M (by rw [e5]; omega))
    · refine wpAny_bind (flush_wp low M hp (e1 ▸ hn) (e1 ▸ hl) fun s'' M' => wpAny_pure (fin _ _ (e1 ▸ M') ?_))
      rw [e1, List.length_append, e5]
      have : pend.length ≠ 0 := fun h => hp (List.length_eq_zero_iff.mp h)
      omega
end
end Mine
end

section
open PySem PySem.W PyProof.Rows
set_option linter.unusedVariables false
set_option maxRecDepth 100000
namespace Mine
noncomputable abbrev pw : Program := PySem.Challenge.pw_ta0082_01
noncomputable def noStmt : Stmt := .Pass default
noncomputable def stAt (i : Nat) : Stmt := PySem.Challenge.pw_ta0082_01.main.body.getD i noStmt
noncomputable def bodyOf : Stmt → List Stmt
  | .FunctionDef _ _ b _ _ _ _ _ _ _ => b
  | .ClassDef _ _ _ b _ _ _ _ _ _ _ => b
  | _ => []
noncomputable def argsOf : Stmt → Arguments
  | .FunctionDef _ a _ _ _ _ _ _ _ _ => a
  | _ => ⟨[], [], none, [], [], none, []⟩
noncomputable def scopeOf : Stmt → Scope
  | .FunctionDef _ _ _ _ _ _ s _ _ _ => s
  | .ClassDef _ _ _ _ _ _ s _ _ _ _ => s
  | _ => default
-- in_table_b1
noncomputable def q2P : Arguments := by
  have h : argsOf (stAt 2) = ?x := by
    conv => lhs; whnf
  exact ?x
noncomputable def q2B : List Stmt := by
  have h : bodyOf (stAt 2) = ?x := by
    conv => lhs; whnf
  exact ?x
noncomputable def q2S : Scope := by
  have h : scopeOf (stAt 2) = ?x := by
    conv => lhs; whnf
  exact ?x
-- map_table_b3
noncomputable def q4P : Arguments := by
  have h : argsOf (stAt 4) = ?x := by
    conv => lhs; whnf
  exact ?x
noncomputable def q4B : List Stmt := by
  have h : bodyOf (stAt 4) = ?x := by
    conv => lhs; whnf
  exact ?x
noncomputable def q4S : Scope := by
  have h : scopeOf (stAt 4) = ?x := by
    conv => lhs; whnf
  exact ?x
-- Int2AP
noncomputable def q6P : Arguments := by
  have h : argsOf (stAt 6) = ?x := by
    conv => lhs; whnf
  exact ?x
noncomputable def q6B : List Stmt := by
  have h : bodyOf (stAt 6) = ?x := by
    conv => lhs; whnf
  exact ?x
noncomputable def q6S : Scope := by
  have h : scopeOf (stAt 6) = ?x := by
    conv => lhs; whnf
  exact ?x
-- Whitespace.__init__
noncomputable def q8m1P : Arguments := by
  have h : argsOf ((bodyOf (stAt 8)).getD 1 noStmt) = ?x := by
    conv => lhs; whnf
  exact ?x
noncomputable def q8m1B : List Stmt := by
  have h : bodyOf ((bodyOf (stAt 8)).getD 1 noStmt) = ?x := by
    conv => lhs; whnf
  exact ?x
noncomputable def q8m1S : Scope := by
  have h : scopeOf ((bodyOf (stAt 8)).getD 1 noStmt) = ?x := by
    conv => lhs; whnf
  exact ?x
-- Whitespace.longest_run_of_spaces
noncomputable def q8m2P : Arguments := by
  have h : argsOf ((bodyOf (stAt 8)).getD 2 noStmt) = ?x := by
    conv => lhs; whnf
  exact ?x
noncomputable def q8m2B : List Stmt := by
  have h : bodyOf ((bodyOf (stAt 8)).getD 2 noStmt) = ?x := by
    conv => lhs; whnf
  exact ?x
noncomputable def q8m2S : Scope := by
  have h : scopeOf ((bodyOf (stAt 8)).getD 2 noStmt) = ?x := by
    conv => lhs; whnf
  exact ?x
-- Whitespace.indent_level
noncomputable def q8m3P : Arguments := by
  have h : argsOf ((bodyOf (stAt 8)).getD 3 noStmt) = ?x := by
    conv => lhs; whnf
  exact ?x
noncomputable def q8m3B : List Stmt := by
  have h : bodyOf ((bodyOf (stAt 8)).getD 3 noStmt) = ?x := by
    conv => lhs; whnf
  exact ?x
noncomputable def q8m3S : Scope := by
  have h : scopeOf ((bodyOf (stAt 8)).getD 3 noStmt) = ?x := by
    conv => lhs; whnf
  exact ?x
-- Whitespace.equal
noncomputable def q8m4P : Arguments := by
  have h : argsOf ((bodyOf (stAt 8)).getD 4 noStmt) = ?x := by
    conv => lhs; whnf
  exact ?x
noncomputable def q8m4B : List Stmt := by
  have h : bodyOf ((bodyOf (stAt 8)).getD 4 noStmt) = ?x := by
    conv => lhs; whnf
  exact ?x
noncomputable def q8m4S : Scope := by
  have h : scopeOf ((bodyOf (stAt 8)).getD 4 noStmt) = ?x := by
    conv => lhs; whnf
  exact ?x
-- Whitespace.not_equal_witness
noncomputable def q8m5P : Arguments := by
  have h : argsOf ((bodyOf (stAt 8)).getD 5 noStmt) = ?x := by
    conv => lhs; whnf
  exact ?x
noncomputable def q8m5B : List Stmt := by
  have h : bodyOf ((bodyOf (stAt 8)).getD 5 noStmt) = ?x := by
    conv => lhs; whnf
  exact ?x
noncomputable def q8m5S : Scope := by
  have h : scopeOf ((bodyOf (stAt 8)).getD 5 noStmt) = ?x := by
    conv => lhs; whnf
  exact ?x
-- Whitespace.less
noncomputable def q8m6P : Arguments := by
  have h : argsOf ((bodyOf (stAt 8)).getD 6 noStmt) = ?x := by
    conv => lhs; whnf
  exact ?x
noncomputable def q8m6B : List Stmt := by
  have h : bodyOf ((bodyOf (stAt 8)).getD 6 noStmt) = ?x := by
    conv => lhs; whnf
  exact ?x
noncomputable def q8m6S : Scope := by
  have h : scopeOf ((bodyOf (stAt 8)).getD 6 noStmt) = ?x := by
    conv => lhs; whnf
  exact ?x
-- Whitespace.not_less_witness
noncomputable def q8m7P : Arguments := by
  have h : argsOf ((bodyOf (stAt 8)).getD 7 noStmt) = ?x := by
    conv => lhs; whnf
  exact ?x
noncomputable def q8m7B : List Stmt := by
  have h : bodyOf ((bodyOf (stAt 8)).getD 7 noStmt) = ?x := by
    conv => lhs; whnf
  exact ?x
noncomputable def q8m7S : Scope := by
  have h : scopeOf ((bodyOf (stAt 8)).getD 7 noStmt) = ?x := by
    conv => lhs; whnf
  exact ?x
-- format_witnesses
noncomputable def q9P : Arguments := by
  have h : argsOf (stAt 9) = ?x := by
    conv => lhs; whnf
  exact ?x
noncomputable def q9B : List Stmt := by
  have h : bodyOf (stAt 9) = ?x := by
    conv => lhs; whnf
  exact ?x
noncomputable def q9S : Scope := by
  have h : scopeOf (stAt 9) = ?x := by
    conv => lhs; whnf
  exact ?x
-- _law_unit
noncomputable def q11P : Arguments := by
  have h : argsOf (stAt 11) = ?x := by
    conv => lhs; whnf
  exact ?x
noncomputable def q11B : List Stmt := by
  have h : bodyOf (stAt 11) = ?x := by
    conv => lhs; whnf
  exact ?x
noncomputable def q11S : Scope := by
  have h : scopeOf (stAt 11) = ?x := by
    conv => lhs; whnf
  exact ?x
-- _law_spelled
noncomputable def q12P : Arguments := by
  have h : argsOf (stAt 12) = ?x := by
    conv => lhs; whnf
  exact ?x
noncomputable def q12B : List Stmt := by
  have h : bodyOf (stAt 12) = ?x := by
    conv => lhs; whnf
  exact ?x
noncomputable def q12S : Scope := by
  have h : scopeOf (stAt 12) = ?x := by
    conv => lhs; whnf
  exact ?x
-- _law_letters
noncomputable def q13P : Arguments := by
  have h : argsOf (stAt 13) = ?x := by
    conv => lhs; whnf
  exact ?x
noncomputable def q13B : List Stmt := by
  have h : bodyOf (stAt 13) = ?x := by
    conv => lhs; whnf
  exact ?x
noncomputable def q13S : Scope := by
  have h : scopeOf (stAt 13) = ?x := by
    conv => lhs; whnf
  exact ?x
-- _law_read
noncomputable def q14P : Arguments := by
  have h : argsOf (stAt 14) = ?x := by
    conv => lhs; whnf
  exact ?x
noncomputable def q14B : List Stmt := by
  have h : bodyOf (stAt 14) = ?x := by
    conv => lhs; whnf
  exact ?x
noncomputable def q14S : Scope := by
  have h : scopeOf (stAt 14) = ?x := by
    conv => lhs; whnf
  exact ?x
-- _law_number
noncomputable def q15P : Arguments := by
  have h : argsOf (stAt 15) = ?x := by
    conv => lhs; whnf
  exact ?x
noncomputable def q15B : List Stmt := by
  have h : bodyOf (stAt 15) = ?x := by
    conv => lhs; whnf
  exact ?x
noncomputable def q15S : Scope := by
  have h : scopeOf (stAt 15) = ?x := by
    conv => lhs; whnf
  exact ?x
-- _law_last
noncomputable def q16P : Arguments := by
  have h : argsOf (stAt 16) = ?x := by
    conv => lhs; whnf
  exact ?x
noncomputable def q16B : List Stmt := by
  have h : bodyOf (stAt 16) = ?x := by
    conv => lhs; whnf
  exact ?x
noncomputable def q16S : Scope := by
  have h : scopeOf (stAt 16) = ?x := by
    conv => lhs; whnf
  exact ?x
-- law
noncomputable def q17P : Arguments := by
  have h : argsOf (stAt 17) = ?x := by
    conv => lhs; whnf
  exact ?x
noncomputable def q17B : List Stmt := by
  have h : bodyOf (stAt 17) = ?x := by
    conv => lhs; whnf
  exact ?x
noncomputable def q17S : Scope := by
  have h : scopeOf (stAt 17) = ?x := by
    conv => lhs; whnf
  exact ?x
noncomputable def a0 (P : Params) : Obj := ⟨(.type "dict"), none, (.dict #[⟨PyData.keyHash P (.ofString "__name__"), (.str (.ofString "__name__") 1), (.str (.ofString "builtins") 160)⟩, ⟨PyData.keyHash P (.ofString "__doc__"), (.str (.ofString "__doc__") 2), (.builtin "builtins.__doc__:str#opaque")⟩, ⟨PyData.keyHash P (.ofString "__package__"), (.str (.ofString "__package__") 3), (.builtin "builtins.__package__:str#opaque")⟩, ⟨PyData.keyHash P (.ofString "__loader__"), (.str (.ofString "__loader__") 4), (.builtin "builtins.__loader__:shared#opaque")⟩, ⟨PyData.keyHash P (.ofString "__spec__"), (.str (.ofString "__spec__") 5), (.builtin "builtins.__spec__#opaque")⟩, ⟨PyData.keyHash P (.ofString "__build_class__"), (.str (.ofString "__build_class__") 6), (.builtin "__build_class__")⟩, ⟨PyData.keyHash P (.ofString "__import__"), (.str (.ofString "__import__") 7), (.builtin "__import__")⟩, ⟨PyData.keyHash P (.ofString "abs"), (.str (.ofString "abs") 8), (.builtin "abs")⟩, ⟨PyData.keyHash P (.ofString "all"), (.str (.ofString "all") 9), (.builtin "all")⟩, ⟨PyData.keyHash P (.ofString "any"), (.str (.ofString "any") 10), (.builtin "any")⟩, ⟨PyData.keyHash P (.ofString "ascii"), (.str (.ofString "ascii") 11), (.builtin "ascii")⟩, ⟨PyData.keyHash P (.ofString "bin"), (.str (.ofString "bin") 12), (.builtin "bin")⟩, ⟨PyData.keyHash P (.ofString "breakpoint"), (.str (.ofString "breakpoint") 13), (.builtin "breakpoint")⟩, ⟨PyData.keyHash P (.ofString "callable"), (.str (.ofString "callable") 14), (.builtin "callable")⟩, ⟨PyData.keyHash P (.ofString "chr"), (.str (.ofString "chr") 15), (.builtin "chr")⟩, ⟨PyData.keyHash P (.ofString "compile"), (.str (.ofString "compile") 16), (.builtin "compile")⟩, ⟨PyData.keyHash P (.ofString "delattr"), (.str (.ofString "delattr") 17), (.builtin "delattr")⟩, ⟨PyData.keyHash P (.ofString "dir"), (.str (.ofString "dir") 18), (.builtin "dir")⟩, ⟨PyData.keyHash P (.ofString "divmod"), (.str (.ofString "divmod") 19), (.builtin "divmod")⟩, ⟨PyData.keyHash P (.ofString "eval"), (.str (.ofString "eval") 20), (.builtin "eval")⟩, ⟨PyData.keyHash P (.ofString "exec"), (.str (.ofString "exec") 21), (.builtin "exec")⟩, ⟨PyData.keyHash P (.ofString "format"), (.str (.ofString "format") 22), (.builtin "format")⟩, ⟨PyData.keyHash P (.ofString "getattr"), (.str (.ofString "getattr") 23), (.builtin "getattr")⟩, ⟨PyData.keyHash P (.ofString "globals"), (.str (.ofString "globals") 24), (.builtin "globals")⟩, ⟨PyData.keyHash P (.ofString "hasattr"), (.str (.ofString "hasattr") 25), (.builtin "hasattr")⟩, ⟨PyData.keyHash P (.ofString "hash"), (.str (.ofString "hash") 26), (.builtin "hash")⟩, ⟨PyData.keyHash P (.ofString "hex"), (.str (.ofString "hex") 27), (.builtin "hex")⟩, ⟨PyData.keyHash P (.ofString "id"), (.str (.ofString "id") 28), (.builtin "id")⟩, ⟨PyData.keyHash P (.ofString "input"), (.str (.ofString "input") 29), (.builtin "input")⟩, ⟨PyData.keyHash P (.ofString "isinstance"), (.str (.ofString "isinstance") 30), (.builtin "isinstance")⟩, ⟨PyData.keyHash P (.ofString "issubclass"), (.str (.ofString "issubclass") 31), (.builtin "issubclass")⟩, ⟨PyData.keyHash P (.ofString "iter"), (.str (.ofString "iter") 32), (.builtin "iter")⟩, ⟨PyData.keyHash P (.ofString "aiter"), (.str (.ofString "aiter") 33), (.builtin "aiter")⟩, ⟨PyData.keyHash P (.ofString "len"), (.str (.ofString "len") 34), (.builtin "len")⟩, ⟨PyData.keyHash P (.ofString "locals"), (.str (.ofString "locals") 35), (.builtin "locals")⟩, ⟨PyData.keyHash P (.ofString "max"), (.str (.ofString "max") 36), (.builtin "max")⟩, ⟨PyData.keyHash P (.ofString "min"), (.str (.ofString "min") 37), (.builtin "min")⟩, ⟨PyData.keyHash P (.ofString "next"), (.str (.ofString "next") 38), (.builtin "next")⟩, ⟨PyData.keyHash P (.ofString "anext"), (.str (.ofString "anext") 39), (.builtin "anext")⟩, ⟨PyData.keyHash P (.ofString "oct"), (.str (.ofString "oct") 40), (.builtin "oct")⟩, ⟨PyData.keyHash P (.ofString "ord"), (.str (.ofString "ord") 41), (.builtin "ord")⟩, ⟨PyData.keyHash P (.ofString "pow"), (.str (.ofString "pow") 42), (.builtin "pow")⟩, ⟨PyData.keyHash P (.ofString "print"), (.str (.ofString "print") 43), (.builtin "print")⟩, ⟨PyData.keyHash P (.ofString "repr"), (.str (.ofString "repr") 44), (.builtin "repr")⟩, ⟨PyData.keyHash P (.ofString "round"), (.str (.ofString "round") 45), (.builtin "round")⟩, ⟨PyData.keyHash P (.ofString "setattr"), (.str (.ofString "setattr") 46), (.builtin "setattr")⟩, ⟨PyData.keyHash P (.ofString "sorted"), (.str (.ofString "sorted") 47), (.builtin "sorted")⟩, ⟨PyData.keyHash P (.ofString "sum"), (.str (.ofString "sum") 48), (.builtin "sum")⟩, ⟨PyData.keyHash P (.ofString "vars"), (.str (.ofString "vars") 49), (.builtin "vars")⟩, ⟨PyData.keyHash P (.ofString "None"), (.str (.ofString "None") 50), .none⟩, ⟨PyData.keyHash P (.ofString "Ellipsis"), (.str (.ofString "Ellipsis") 51), .ellipsis⟩, ⟨PyData.keyHash P (.ofString "NotImplemented"), (.str (.ofString "NotImplemented") 52), .notImplemented⟩, ⟨PyData.keyHash P (.ofString "False"), (.str (.ofString "False") 53), (.bool false)⟩, ⟨PyData.keyHash P (.ofString "True"), (.str (.ofString "True") 54), (.bool true)⟩, ⟨PyData.keyHash P (.ofString "bool"), (.str (.ofString "bool") 55), (.type "bool")⟩, ⟨PyData.keyHash P (.ofString "memoryview"), (.str (.ofString "memoryview") 56), (.type "memoryview")⟩, ⟨PyData.keyHash P (.ofString "bytearray"), (.str (.ofString "bytearray") 57), (.type "bytearray")⟩, ⟨PyData.keyHash P (.ofString "bytes"), (.str (.ofString "bytes") 58), (.type "bytes")⟩, ⟨PyData.keyHash P (.ofString "classmethod"), (.str (.ofString "classmethod") 59), (.type "classmethod")⟩, ⟨PyData.keyHash P (.ofString "complex"), (.str (.ofString "complex") 60), (.type "complex")⟩, ⟨PyData.keyHash P (.ofString "dict"), (.str (.ofString "dict") 61), (.type "dict")⟩, ⟨PyData.keyHash P (.ofString "enumerate"), (.str (.ofString "enumerate") 62), (.type "enumerate")⟩, ⟨PyData.keyHash P (.ofString "filter"), (.str (.ofString "filter") 63), (.type "filter")⟩, ⟨PyData.keyHash P (.ofString "float"), (.str (.ofString "float") 64), (.type "float")⟩, ⟨PyData.keyHash P (.ofString "frozenset"), (.str (.ofString "frozenset") 65), (.type "frozenset")⟩, ⟨PyData.keyHash P (.ofString "property"), (.str (.ofString "property") 66), (.type "property")⟩, ⟨PyData.keyHash P (.ofString "int"), (.str (.ofString "int") 67), (.type "int")⟩, ⟨PyData.keyHash P (.ofString "list"), (.str (.ofString "list") 68), (.type "list")⟩, ⟨PyData.keyHash P (.ofString "map"), (.str (.ofString "map") 69), (.type "map")⟩, ⟨PyData.keyHash P (.ofString "object"), (.str (.ofString "object") 70), (.type "object")⟩, ⟨PyData.keyHash P (.ofString "range"), (.str (.ofString "range") 71), (.type "range")⟩, ⟨PyData.keyHash P (.ofString "reversed"), (.str (.ofString "reversed") 72), (.type "reversed")⟩, ⟨PyData.keyHash P (.ofString "set"), (.str (.ofString "set") 73), (.type "set")⟩, ⟨PyData.keyHash P (.ofString "slice"), (.str (.ofString "slice") 74), (.type "slice")⟩, ⟨PyData.keyHash P (.ofString "staticmethod"), (.str (.ofString "staticmethod") 75), (.type "staticmethod")⟩, ⟨PyData.keyHash P (.ofString "str"), (.str (.ofString "str") 76), (.type "str")⟩, ⟨PyData.keyHash P (.ofString "super"), (.str (.ofString "super") 77), (.type "super")⟩, ⟨PyData.keyHash P (.ofString "tuple"), (.str (.ofString "tuple") 78), (.type "tuple")⟩, ⟨PyData.keyHash P (.ofString "type"), (.str (.ofString "type") 79), (.type "type")⟩, ⟨PyData.keyHash P (.ofString "zip"), (.str (.ofString "zip") 80), (.type "zip")⟩, ⟨PyData.keyHash P (.ofString "__debug__"), (.str (.ofString "__debug__") 81), (.bool true)⟩, ⟨PyData.keyHash P (.ofString "BaseException"), (.str (.ofString "BaseException") 82), (.type "BaseException")⟩, ⟨PyData.keyHash P (.ofString "BaseExceptionGroup"), (.str (.ofString "BaseExceptionGroup") 83), (.type "BaseExceptionGroup")⟩, ⟨PyData.keyHash P (.ofString "Exception"), (.str (.ofString "Exception") 84), (.type "Exception")⟩, ⟨PyData.keyHash P (.ofString "GeneratorExit"), (.str (.ofString "GeneratorExit") 85), (.type "GeneratorExit")⟩, ⟨PyData.keyHash P (.ofString "KeyboardInterrupt"), (.str (.ofString "KeyboardInterrupt") 86), (.type "KeyboardInterrupt")⟩, ⟨PyData.keyHash P (.ofString "SystemExit"), (.str (.ofString "SystemExit") 87), (.type "SystemExit")⟩, ⟨PyData.keyHash P (.ofString "ArithmeticError"), (.str (.ofString "ArithmeticError") 88), (.type "ArithmeticError")⟩, ⟨PyData.keyHash P (.ofString "AssertionError"), (.str (.ofString "AssertionError") 89), (.type "AssertionError")⟩, ⟨PyData.keyHash P (.ofString "AttributeError"), (.str (.ofString "AttributeError") 90), (.type "AttributeError")⟩, ⟨PyData.keyHash P (.ofString "BufferError"), (.str (.ofString "BufferError") 91), (.type "BufferError")⟩, ⟨PyData.keyHash P (.ofString "EOFError"), (.str (.ofString "EOFError") 92), (.type "EOFError")⟩, ⟨PyData.keyHash P (.ofString "ImportError"), (.str (.ofString "ImportError") 93), (.type "ImportError")⟩, ⟨PyData.keyHash P (.ofString "LookupError"), (.str (.ofString "LookupError") 94), (.type "LookupError")⟩, ⟨PyData.keyHash P (.ofString "MemoryError"), (.str (.ofString "MemoryError") 95), (.type "MemoryError")⟩, ⟨PyData.keyHash P (.ofString "NameError"), (.str (.ofString "NameError") 96), (.type "NameError")⟩, ⟨PyData.keyHash P (.ofString "OSError"), (.str (.ofString "OSError") 97), (.type "OSError")⟩, ⟨PyData.keyHash P (.ofString "ReferenceError"), (.str (.ofString "ReferenceError") 98), (.type "ReferenceError")⟩, ⟨PyData.keyHash P (.ofString "RuntimeError"), (.str (.ofString "RuntimeError") 99), (.type "RuntimeError")⟩, ⟨PyData.keyHash P (.ofString "StopAsyncIteration"), (.str (.ofString "StopAsyncIteration") 100), (.type "StopAsyncIteration")⟩, ⟨PyData.keyHash P (.ofString "StopIteration"), (.str (.ofString "StopIteration") 101), (.type "StopIteration")⟩, ⟨PyData.keyHash P (.ofString "SyntaxError"), (.str (.ofString "SyntaxError") 102), (.type "SyntaxError")⟩, ⟨PyData.keyHash P (.ofString "SystemError"), (.str (.ofString "SystemError") 103), (.type "SystemError")⟩, ⟨PyData.keyHash P (.ofString "TypeError"), (.str (.ofString "TypeError") 104), (.type "TypeError")⟩, ⟨PyData.keyHash P (.ofString "ValueError"), (.str (.ofString "ValueError") 105), (.type "ValueError")⟩, ⟨PyData.keyHash P (.ofString "Warning"), (.str (.ofString "Warning") 106), (.type "Warning")⟩, ⟨PyData.keyHash P (.ofString "FloatingPointError"), (.str (.ofString "FloatingPointError") 107), (.type "FloatingPointError")⟩, ⟨PyData.keyHash P (.ofString "OverflowError"), (.str (.ofString "OverflowError") 108), (.type "OverflowError")⟩, ⟨PyData.keyHash P (.ofString "ZeroDivisionError"), (.str (.ofString "ZeroDivisionError") 109), (.type "ZeroDivisionError")⟩, ⟨PyData.keyHash P (.ofString "BytesWarning"), (.str (.ofString "BytesWarning") 110), (.type "BytesWarning")⟩, ⟨PyData.keyHash P (.ofString "DeprecationWarning"), (.str (.ofString "DeprecationWarning") 111), (.type "DeprecationWarning")⟩, ⟨PyData.keyHash P (.ofString "EncodingWarning"), (.str (.ofString "EncodingWarning") 112), (.type "EncodingWarning")⟩, ⟨PyData.keyHash P (.ofString "FutureWarning"), (.str (.ofString "FutureWarning") 113), (.type "FutureWarning")⟩, ⟨PyData.keyHash P (.ofString "ImportWarning"), (.str (.ofString "ImportWarning") 114), (.type "ImportWarning")⟩, ⟨PyData.keyHash P (.ofString "PendingDeprecationWarning"), (.str (.ofString "PendingDeprecationWarning") 115), (.type "PendingDeprecationWarning")⟩, ⟨PyData.keyHash P (.ofString "ResourceWarning"), (.str (.ofString "ResourceWarning") 116), (.type "ResourceWarning")⟩, ⟨PyData.keyHash P (.ofString "RuntimeWarning"), (.str (.ofString "RuntimeWarning") 117), (.type "RuntimeWarning")⟩, ⟨PyData.keyHash P (.ofString "SyntaxWarning"), (.str (.ofString "SyntaxWarning") 118), (.type "SyntaxWarning")⟩, ⟨PyData.keyHash P (.ofString "UnicodeWarning"), (.str (.ofString "UnicodeWarning") 119), (.type "UnicodeWarning")⟩, ⟨PyData.keyHash P (.ofString "UserWarning"), (.str (.ofString "UserWarning") 120), (.type "UserWarning")⟩, ⟨PyData.keyHash P (.ofString "BlockingIOError"), (.str (.ofString "BlockingIOError") 121), (.type "BlockingIOError")⟩, ⟨PyData.keyHash P (.ofString "ChildProcessError"), (.str (.ofString "ChildProcessError") 122), (.type "ChildProcessError")⟩, ⟨PyData.keyHash P (.ofString "ConnectionError"), (.str (.ofString "ConnectionError") 123), (.type "ConnectionError")⟩, ⟨PyData.keyHash P (.ofString "FileExistsError"), (.str (.ofString "FileExistsError") 124), (.type "FileExistsError")⟩, ⟨PyData.keyHash P (.ofString "FileNotFoundError"), (.str (.ofString "FileNotFoundError") 125), (.type "FileNotFoundError")⟩, ⟨PyData.keyHash P (.ofString "InterruptedError"), (.str (.ofString "InterruptedError") 126), (.type "InterruptedError")⟩, ⟨PyData.keyHash P (.ofString "IsADirectoryError"), (.str (.ofString "IsADirectoryError") 127), (.type "IsADirectoryError")⟩, ⟨PyData.keyHash P (.ofString "NotADirectoryError"), (.str (.ofString "NotADirectoryError") 128), (.type "NotADirectoryError")⟩, ⟨PyData.keyHash P (.ofString "PermissionError"), (.str (.ofString "PermissionError") 129), (.type "PermissionError")⟩, ⟨PyData.keyHash P (.ofString "ProcessLookupError"), (.str (.ofString "ProcessLookupError") 130), (.type "ProcessLookupError")⟩, ⟨PyData.keyHash P (.ofString "TimeoutError"), (.str (.ofString "TimeoutError") 131), (.type "TimeoutError")⟩, ⟨PyData.keyHash P (.ofString "IndentationError"), (.str (.ofString "IndentationError") 132), (.type "IndentationError")⟩, ⟨PyData.keyHash P (.ofString "_IncompleteInputError"), (.str (.ofString "_IncompleteInputError") 133), (.type "_IncompleteInputError")⟩, ⟨PyData.keyHash P (.ofString "IndexError"), (.str (.ofString "IndexError") 134), (.type "IndexError")⟩, ⟨PyData.keyHash P (.ofString "KeyError"), (.str (.ofString "KeyError") 135), (.type "KeyError")⟩, ⟨PyData.keyHash P (.ofString "ModuleNotFoundError"), (.str (.ofString "ModuleNotFoundError") 136), (.type "ModuleNotFoundError")⟩, ⟨PyData.keyHash P (.ofString "NotImplementedError"), (.str (.ofString "NotImplementedError") 137), (.type "NotImplementedError")⟩, ⟨PyData.keyHash P (.ofString "PythonFinalizationError"), (.str (.ofString "PythonFinalizationError") 138), (.type "PythonFinalizationError")⟩, ⟨PyData.keyHash P (.ofString "RecursionError"), (.str (.ofString "RecursionError") 139), (.type "RecursionError")⟩, ⟨PyData.keyHash P (.ofString "UnboundLocalError"), (.str (.ofString "UnboundLocalError") 140), (.type "UnboundLocalError")⟩, ⟨PyData.keyHash P (.ofString "UnicodeError"), (.str (.ofString "UnicodeError") 141), (.type "UnicodeError")⟩, ⟨PyData.keyHash P (.ofString "BrokenPipeError"), (.str (.ofString "BrokenPipeError") 142), (.type "BrokenPipeError")⟩, ⟨PyData.keyHash P (.ofString "ConnectionAbortedError"), (.str (.ofString "ConnectionAbortedError") 143), (.type "ConnectionAbortedError")⟩, ⟨PyData.keyHash P (.ofString "ConnectionRefusedError"), (.str (.ofString "ConnectionRefusedError") 144), (.type "ConnectionRefusedError")⟩, ⟨PyData.keyHash P (.ofString "ConnectionResetError"), (.str (.ofString "ConnectionResetError") 145), (.type "ConnectionResetError")⟩, ⟨PyData.keyHash P (.ofString "TabError"), (.str (.ofString "TabError") 146), (.type "TabError")⟩, ⟨PyData.keyHash P (.ofString "UnicodeDecodeError"), (.str (.ofString "UnicodeDecodeError") 147), (.type "UnicodeDecodeError")⟩, ⟨PyData.keyHash P (.ofString "UnicodeEncodeError"), (.str (.ofString "UnicodeEncodeError") 148), (.type "UnicodeEncodeError")⟩, ⟨PyData.keyHash P (.ofString "UnicodeTranslateError"), (.str (.ofString "UnicodeTranslateError") 149), (.type "UnicodeTranslateError")⟩, ⟨PyData.keyHash P (.ofString "ExceptionGroup"), (.str (.ofString "ExceptionGroup") 150), (.type "ExceptionGroup")⟩, ⟨PyData.keyHash P (.ofString "EnvironmentError"), (.str (.ofString "EnvironmentError") 151), (.type "OSError")⟩, ⟨PyData.keyHash P (.ofString "IOError"), (.str (.ofString "IOError") 152), (.type "OSError")⟩, ⟨PyData.keyHash P (.ofString "open"), (.str (.ofString "open") 153), (.builtin "open")⟩, ⟨PyData.keyHash P (.ofString "quit"), (.str (.ofString "quit") 154), (.builtin "builtins.quit#opaque")⟩, ⟨PyData.keyHash P (.ofString "exit"), (.str (.ofString "exit") 155), (.builtin "builtins.exit#opaque")⟩, ⟨PyData.keyHash P (.ofString "copyright"), (.str (.ofString "copyright") 156), (.builtin "builtins.copyright#opaque")⟩, ⟨PyData.keyHash P (.ofString "credits"), (.str (.ofString "credits") 157), (.builtin "builtins.credits#opaque")⟩, ⟨PyData.keyHash P (.ofString "license"), (.str (.ofString "license") 158), (.builtin "builtins.license#opaque")⟩, ⟨PyData.keyHash P (.ofString "help"), (.str (.ofString "help") 159), (.builtin "builtins.help#opaque")⟩] 159), #[]⟩
noncomputable def a1 (P : Params) : Obj := ⟨(.type "dict"), none, (.dict #[⟨PyData.keyHash P (.ofString "builtins"), (.str (.ofString "builtins") 162), (.ref 4)⟩, ⟨PyData.keyHash P (.ofString "__main__"), (.str (.ofString "__main__") 163), (.ref 5)⟩] 2), #[]⟩
noncomputable def a2 (P : Params) : Obj := ⟨.none, none, (.dict #[] 0), #[]⟩
noncomputable def a3 (P : Params) : Obj := ⟨(.type "dict"), none, (.dict #[⟨PyData.keyHash P (.ofString "__name__"), (.str (.ofString "__name__") 165), (.str (.ofString "cpy313.stringprep") 187)⟩, ⟨PyData.keyHash P (.ofString "__doc__"), (.str (.ofString "__doc__") 166), .none⟩, ⟨PyData.keyHash P (.ofString "__package__"), (.str (.ofString "__package__") 167), .none⟩, ⟨PyData.keyHash P (.ofString "__loader__"), (.str (.ofString "__loader__") 168), (.builtin "__main__.__loader__#opaque")⟩, ⟨PyData.keyHash P (.ofString "__spec__"), (.str (.ofString "__spec__") 169), .none⟩, ⟨PyData.keyHash P (.ofString "__annotations__"), (.str (.ofString "__annotations__") 170), (.ref 6)⟩, ⟨PyData.keyHash P (.ofString "__builtins__"), (.str (.ofString "__builtins__") 171), (.ref 4)⟩, ⟨PyData.keyHash P (.ofString "__file__"), (.str (.ofString "__file__") 173), (.str (.ofString "/claim/cut.py") 172)⟩, ⟨PyData.keyHash P (.ofString "__cached__"), (.str (.ofString "__cached__") 174), .none⟩, ⟨PyData.keyHash P (.ofString "b1_set"), (.str (.ofString "b1_set") 248), (.ref 22)⟩, ⟨PyData.keyHash P (.ofString "in_table_b1"), (.str (.ofString "in_table_b1") 255), (.ref 32)⟩] 11), #[]⟩
noncomputable def a4 (P : Params) : Obj := ⟨(.type "module"), (some 0), .plain, #[]⟩
noncomputable def a5 (P : Params) : Obj := ⟨(.type "module"), (some 3), .plain, #[]⟩
noncomputable def a6 (P : Params) : Obj := ⟨(.type "dict"), none, (.dict #[] 0), #[]⟩
noncomputable def a7 (P : Params) : Obj := ⟨(.type "tuple"), none, (.seq #[] 0), #[]⟩
noncomputable def a8 (P : Params) : Obj := ⟨.none, none, (.fields #[]), #[]⟩
noncomputable def a9 (P : Params) : Obj := ⟨(.type "code"), none, (.fields #[(.str (.ofString "<module>") 176), (.str (.ofString "<module>") 177), (.str (.ofString "/claim/cut.py") 178), (.int (1) 0), (.int (0) 0), (.int (0) 0), (.int (0) 0), (.int (0) 0), (.ref 7), (.bool false), (.int (175) 0), (.ref 8), .none, .none, .none, .none, (.int (179) 0), (.int (1) 0), (.str (.ofString "/claim/cut.py") 180)]), #[]⟩
noncomputable def a10 (P : Params) : Obj := ⟨(.type "frame"), none, .plain, #[(some (.ref 9)), (some (.ref 3)), (some (.ref 3)), none, (some (.str (.ofString "__main__") 164)), none, (some (.ref 0))]⟩
noncomputable def a11 (P : Params) : Obj := ⟨(.type "tuple"), none, (.seq #[] 0), #[]⟩
noncomputable def a12 (P : Params) : Obj := ⟨.none, none, (.fields #[(.int (3) 0), (.int (0) 0), (.ref 31)]), #[]⟩
noncomputable def a13 (P : Params) : Obj := ⟨(.type "code"), none, (.fields #[(.str (.ofString "<module>") 182), (.str (.ofString "<module>") 183), (.str (.ofString "/claim/cut.py") 184), (.int (1) 0), (.int (0) 0), (.int (0) 0), (.int (0) 0), (.int (0) 0), (.ref 11), (.bool false), (.int (181) 0), (.ref 12), .none, .none, .none, .none, (.int (185) 0), (.int (1) 0), (.str (.ofString "/claim/cut.py") 186)]), #[]⟩
noncomputable def a14 (P : Params) : Obj := ⟨(.type "frame"), none, .plain, #[(some (.ref 13)), (some (.ref 3)), (some (.ref 3)), none, (some (.str (.ofString "__main__") 164)), none, (some (.ref 0))]⟩
noncomputable def a15 (P : Params) : Obj := ⟨(.type "list"), none, (.seq #[(.int (173) 189), (.int (847) 190), (.int (6150) 191), (.int (6155) 192), (.int (6156) 193), (.int (6157) 194), (.int (8203) 195), (.int (8204) 196), (.int (8205) 197), (.int (8288) 198), (.int (65279) 199)] 0), #[]⟩
noncomputable def a16 (P : Params) : Obj := ⟨(.type "range"), none, (.fields #[(.int (65024) 200), (.int (65040) 201), (.int (1) 202)]), #[]⟩
noncomputable def a17 (P : Params) : Obj := ⟨(.type "list"), none, (.seq #[(.int (65024) 205), (.int (65025) 206), (.int (65026) 207), (.int (65027) 208), (.int (65028) 209), (.int (65029) 210), (.int (65030) 211), (.int (65031) 212), (.int (65032) 213), (.int (65033) 214), (.int (65034) 215), (.int (65035) 216), (.int (65036) 217), (.int (65037) 218), (.int (65038) 219), (.int (65039) 220)] 18), #[]⟩
noncomputable def a18 (P : Params) : Obj := ⟨(.type "range_iterator"), none, (.fields #[(.int (65040) 0), (.int (0) 0), (.int (1) 0)]), #[]⟩
noncomputable def a19 (P : Params) : Obj := ⟨(.type "tuple"), none, (.seq #[] 0), #[]⟩
noncomputable def a20 (P : Params) : Obj := ⟨(.type "StopIteration"), none, (.fields #[(.ref 19), .none, .none, .none, (.bool false), .none]), #[]⟩
noncomputable def a21 (P : Params) : Obj := ⟨(.type "list"), none, (.seq #[(.int (173) 189), (.int (847) 190), (.int (6150) 191), (.int (6155) 192), (.int (6156) 193), (.int (6157) 194), (.int (8203) 195), (.int (8204) 196), (.int (8205) 197), (.int (8288) 198), (.int (65279) 199), (.int (65024) 205), (.int (65025) 206), (.int (65026) 207), (.int (65027) 208), (.int (65028) 209), (.int (65029) 210), (.int (65030) 211), (.int (65031) 212), (.int (65032) 213), (.int (65033) 214), (.int (65034) 215), (.int (65035) 216), (.int (65036) 217), (.int (65037) 218), (.int (65038) 219), (.int (65039) 220)] 0), #[]⟩
noncomputable def a22 (P : Params) : Obj := ⟨(.type "set"), none, (.set #[(65024, (.int (65024) 205)), (65025, (.int (65025) 206)), (65026, (.int (65026) 207)), (65027, (.int (65027) 208)), (65028, (.int (65028) 209)), (65029, (.int (65029) 210)), (6150, (.int (6150) 191)), (65030, (.int (65030) 211)), (65031, (.int (65031) 212)), (65032, (.int (65032) 213)), (65033, (.int (65033) 214)), (6155, (.int (6155) 192)), (6156, (.int (6156) 193)), (6157, (.int (6157) 194)), (8203, (.int (8203) 195)), (8204, (.int (8204) 196)), (8205, (.int (8205) 197)), (65034, (.int (65034) 215)), (65035, (.int (65035) 216)), (65036, (.int (65036) 217)), (65037, (.int (65037) 218)), (65038, (.int (65038) 219)), (65039, (.int (65039) 220)), (173, (.int (173) 189)), (847, (.int (847) 190)), (8288, (.int (8288) 198)), (65279, (.int (65279) 199))] 29 ⟨127, #[0, 1, 2, 3, 4, 5, 6, 7, 8, 9, 10, 11, 12, 13, 14, 15, 16, 17, 18, 19, 20, 21, 22, 45, 79, 96, 127], #[], 0, !P.followText "set-order", 2, true⟩), #[]⟩
noncomputable def a23 (P : Params) : Obj := ⟨(.type "list_iterator"), none, (.fields #[.none, (.int (27) 0)]), #[]⟩
noncomputable def a24 (P : Params) : Obj := ⟨(.type "tuple"), none, (.seq #[] 0), #[]⟩
noncomputable def a25 (P : Params) : Obj := ⟨(.type "StopIteration"), none, (.fields #[(.ref 24), .none, .none, .none, (.bool false), .none]), #[]⟩
noncomputable def a26 (P : Params) : Obj := ⟨(.type "tuple"), none, (.seq #[] 0), #[]⟩
noncomputable def a27 (P : Params) : Obj := ⟨.none, none, (.fields #[]), #[]⟩
noncomputable def a28 (P : Params) : Obj := ⟨(.type "tuple"), none, (.seq #[(.str (.ofString "code") 252)] 0), #[]⟩
noncomputable def a29 (P : Params) : Obj := ⟨(.type "tuple"), none, (.seq #[] 0), #[]⟩
noncomputable def a30 (P : Params) : Obj := ⟨.none, none, (.func { name := (.ofString "in_table_b1"), qualname := (.ofString "in_table_b1"), params := q2P, body := .stmts q2B, scope := q2S, globals := 0, closure := [], defaults := .none, kwdefaults := .none, doc := .none, pyModule := .none, annotations := none, code := .none, closureTuple := .none, builtins := 0 }), #[]⟩
noncomputable def a31 (P : Params) : Obj := ⟨(.type "code"), none, (.fields #[(.str (.ofString "in_table_b1") 249), (.str (.ofString "in_table_b1") 250), (.str (.ofString "/claim/cut.py") 251), (.int (3) 0), (.int (1) 0), (.int (0) 0), (.int (0) 0), (.int (3) 0), (.ref 26), (.bool true), (.int (181) 0), (.ref 27), .none, (.ref 28), (.ref 29), (.ref 30), (.int (253) 0), (.int (3) 0), (.str (.ofString "/claim/cut.py") 254)]), #[]⟩
noncomputable def a32 (P : Params) : Obj := ⟨(.type "function"), none, (.func { name := (.ofString "in_table_b1"), qualname := (.ofString "in_table_b1"), params := q2P, body := .stmts q2B, scope := q2S, globals := 3, closure := [], defaults := .none, kwdefaults := .none, doc := .none, pyModule := (.str (.ofString "cpy313.stringprep") 187), annotations := none, code := (.ref 31), closureTuple := .none, builtins := 0 }), #[]⟩
noncomputable def p3 (P : Params) : Obj := ⟨(.type "dict"), none, (.dict #[⟨PyData.keyHash P (.ofString "__name__"), (.str (.ofString "__name__") 165), (.str (.ofString "__main__") 164)⟩, ⟨PyData.keyHash P (.ofString "__doc__"), (.str (.ofString "__doc__") 166), .none⟩, ⟨PyData.keyHash P (.ofString "__package__"), (.str (.ofString "__package__") 167), .none⟩, ⟨PyData.keyHash P (.ofString "__loader__"), (.str (.ofString "__loader__") 168), (.builtin "__main__.__loader__#opaque")⟩, ⟨PyData.keyHash P (.ofString "__spec__"), (.str (.ofString "__spec__") 169), .none⟩, ⟨PyData.keyHash P (.ofString "__annotations__"), (.str (.ofString "__annotations__") 170), (.ref 6)⟩, ⟨PyData.keyHash P (.ofString "__builtins__"), (.str (.ofString "__builtins__") 171), (.ref 4)⟩, ⟨PyData.keyHash P (.ofString "__file__"), (.str (.ofString "__file__") 173), (.str (.ofString "/claim/cut.py") 172)⟩, ⟨PyData.keyHash P (.ofString "__cached__"), (.str (.ofString "__cached__") 174), .none⟩] 9), #[]⟩
noncomputable def p12 (P : Params) : Obj := ⟨.none, none, (.fields #[]), #[]⟩
noncomputable def f3 (P : Params) : Obj := ⟨(.type "dict"), none, (.dict #[⟨PyData.keyHash P (.ofString "__name__"), (.str (.ofString "__name__") 165), (.str (.ofString "law_ta0082_01") 2344)⟩, ⟨PyData.keyHash P (.ofString "__doc__"), (.str (.ofString "__doc__") 166), .none⟩, ⟨PyData.keyHash P (.ofString "__package__"), (.str (.ofString "__package__") 167), .none⟩, ⟨PyData.keyHash P (.ofString "__loader__"), (.str (.ofString "__loader__") 168), (.builtin "__main__.__loader__#opaque")⟩, ⟨PyData.keyHash P (.ofString "__spec__"), (.str (.ofString "__spec__") 169), .none⟩, ⟨PyData.keyHash P (.ofString "__annotations__"), (.str (.ofString "__annotations__") 170), (.ref 6)⟩, ⟨PyData.keyHash P (.ofString "__builtins__"), (.str (.ofString "__builtins__") 171), (.ref 4)⟩, ⟨PyData.keyHash P (.ofString "__file__"), (.str (.ofString "__file__") 173), (.str (.ofString "/claim/cut.py") 172)⟩, ⟨PyData.keyHash P (.ofString "__cached__"), (.str (.ofString "__cached__") 174), .none⟩, ⟨PyData.keyHash P (.ofString "b1_set"), (.str (.ofString "b1_set") 248), (.ref 22)⟩, ⟨PyData.keyHash P (.ofString "in_table_b1"), (.str (.ofString "in_table_b1") 255), (.ref 32)⟩, ⟨PyData.keyHash P (.ofString "b3_exceptions"), (.str (.ofString "b3_exceptions") 2206), (.ref 33)⟩, ⟨PyData.keyHash P (.ofString "map_table_b3"), (.str (.ofString "map_table_b3") 2214), (.ref 78)⟩, ⟨PyData.keyHash P (.ofString "Int2AP"), (.str (.ofString "Int2AP") 2226), (.ref 85)⟩, ⟨PyData.keyHash P (.ofString "Whitespace"), (.str (.ofString "Whitespace") 2334), (.ref 147)⟩, ⟨PyData.keyHash P (.ofString "format_witnesses"), (.str (.ofString "format_witnesses") 2343), (.ref 158)⟩, ⟨PyData.keyHash P (.ofString "_law_unit"), (.str (.ofString "_law_unit") 2353), (.ref 165)⟩, ⟨PyData.keyHash P (.ofString "_law_spelled"), (.str (.ofString "_law_spelled") 2367), (.ref 172)⟩, ⟨PyData.keyHash P (.ofString "_law_letters"), (.str (.ofString "_law_letters") 2373), (.ref 177)⟩, ⟨PyData.keyHash P (.ofString "_law_read"), (.str (.ofString "_law_read") 2382), (.ref 184)⟩, ⟨PyData.keyHash P (.ofString "_law_number"), (.str (.ofString "_law_number") 2391), (.ref 191)⟩, ⟨PyData.keyHash P (.ofString "_law_last"), (.str (.ofString "_law_last") 2408), (.ref 198)⟩, ⟨PyData.keyHash P (.ofString "law"), (.str (.ofString "law") 2414), (.ref 203)⟩] 23), #[]⟩
noncomputable def f12 (P : Params) : Obj := ⟨.none, none, (.fields #[(.int (3) 0), (.int (0) 0), (.ref 31), (.int (6) 0), (.int (0) 0), (.ref 77), (.int (12) 0), (.int (0) 0), (.ref 84), (.int (21) 0), (.int (0) 0), (.ref 91), (.int (87) 0), (.int (0) 0), (.ref 157), (.int (94) 0), (.int (0) 0), (.ref 164), (.int (101) 0), (.int (0) 0), (.ref 171), (.int (120) 0), (.int (0) 0), (.ref 176), (.int (129) 0), (.int (0) 0), (.ref 183), (.int (131) 0), (.int (0) 0), (.ref 190), (.int (136) 0), (.int (0) 0), (.ref 197), (.int (148) 0), (.int (0) 0), (.ref 202)]), #[]⟩
noncomputable def f72 (P : Params) : Obj := ⟨(.type "tuple"), none, (.seq #[] 0), #[]⟩
noncomputable def f73 (P : Params) : Obj := ⟨.none, none, (.fields #[]), #[]⟩
noncomputable def f74 (P : Params) : Obj := ⟨(.type "tuple"), none, (.seq #[(.str (.ofString "code") 2210), (.str (.ofString "r") 2211)] 0), #[]⟩
noncomputable def f75 (P : Params) : Obj := ⟨(.type "tuple"), none, (.seq #[] 0), #[]⟩
noncomputable def f76 (P : Params) : Obj := ⟨.none, none, (.func { name := (.ofString "map_table_b3"), qualname := (.ofString "map_table_b3"), params := q4P, body := .stmts q4B, scope := q4S, globals := 0, closure := [], defaults := .none, kwdefaults := .none, doc := .none, pyModule := .none, annotations := none, code := .none, closureTuple := .none, builtins := 0 }), #[]⟩
noncomputable def f77 (P : Params) : Obj := ⟨(.type "code"), none, (.fields #[(.str (.ofString "map_table_b3") 2207), (.str (.ofString "map_table_b3") 2208), (.str (.ofString "/claim/cut.py") 2209), (.int (6) 0), (.int (1) 0), (.int (0) 0), (.int (0) 0), (.int (3) 0), (.ref 72), (.bool true), (.int (181) 0), (.ref 73), .none, (.ref 74), (.ref 75), (.ref 76), (.int (2212) 0), (.int (6) 0), (.str (.ofString "/claim/cut.py") 2213)]), #[]⟩
noncomputable def f78 (P : Params) : Obj := ⟨(.type "function"), none, (.func { name := (.ofString "map_table_b3"), qualname := (.ofString "map_table_b3"), params := q4P, body := .stmts q4B, scope := q4S, globals := 3, closure := [], defaults := .none, kwdefaults := .none, doc := .none, pyModule := (.str (.ofString "cpy313.stringprep") 187), annotations := none, code := (.ref 77), closureTuple := .none, builtins := 0 }), #[]⟩
noncomputable def f79 (P : Params) : Obj := ⟨(.type "tuple"), none, (.seq #[] 0), #[]⟩
noncomputable def f80 (P : Params) : Obj := ⟨.none, none, (.fields #[]), #[]⟩
noncomputable def f81 (P : Params) : Obj := ⟨(.type "tuple"), none, (.seq #[(.str (.ofString "num") 2220), (.str (.ofString "val") 2221), (.str (.ofString "AP") 2222), (.str (.ofString "mod") 2223)] 0), #[]⟩
noncomputable def f82 (P : Params) : Obj := ⟨(.type "tuple"), none, (.seq #[] 0), #[]⟩
noncomputable def f83 (P : Params) : Obj := ⟨.none, none, (.func { name := (.ofString "Int2AP"), qualname := (.ofString "Int2AP"), params := q6P, body := .stmts q6B, scope := q6S, globals := 0, closure := [], defaults := .none, kwdefaults := .none, doc := .none, pyModule := .none, annotations := none, code := .none, closureTuple := .none, builtins := 0 }), #[]⟩
noncomputable def f84 (P : Params) : Obj := ⟨(.type "code"), none, (.fields #[(.str (.ofString "Int2AP") 2217), (.str (.ofString "Int2AP") 2218), (.str (.ofString "/claim/cut.py") 2219), (.int (12) 0), (.int (1) 0), (.int (0) 0), (.int (0) 0), (.int (3) 0), (.ref 79), (.bool true), (.int (181) 0), (.ref 80), .none, (.ref 81), (.ref 82), (.ref 83), (.int (2224) 0), (.int (12) 0), (.str (.ofString "/claim/cut.py") 2225)]), #[]⟩
noncomputable def f85 (P : Params) : Obj := ⟨(.type "function"), none, (.func { name := (.ofString "Int2AP"), qualname := (.ofString "Int2AP"), params := q6P, body := .stmts q6B, scope := q6S, globals := 3, closure := [], defaults := .none, kwdefaults := .none, doc := .none, pyModule := (.str (.ofString "cpy313.imaplib") 2215), annotations := none, code := (.ref 84), closureTuple := .none, builtins := 0 }), #[]⟩
noncomputable def f86 (P : Params) : Obj := ⟨(.type "tuple"), none, (.seq #[] 0), #[]⟩
noncomputable def f87 (P : Params) : Obj := ⟨(.type "builtin_function_or_method"), none, (.fields #[(.builtin "type.__prepare__"), (.type "type")]), #[]⟩
noncomputable def f88 (P : Params) : Obj := ⟨(.type "dict"), none, (.dict #[⟨PyData.keyHash P (.ofString "__module__"), (.str (.ofString "__module__") 2236), (.str (.ofString "cpy313.tabnanny") 2227)⟩, ⟨PyData.keyHash P (.ofString "__qualname__"), (.str (.ofString "__qualname__") 2238), (.str (.ofString "Whitespace") 2237)⟩, ⟨PyData.keyHash P (.ofString "__firstlineno__"), (.str (.ofString "__firstlineno__") 2240), (.int (21) 2239)⟩, ⟨PyData.keyHash P (.ofString "S"), (.str (.ofString "S") 2244), (.str (.ofString " ") 2242)⟩, ⟨PyData.keyHash P (.ofString "T"), (.str (.ofString "T") 2245), (.str (.ofString "\t") 2243)⟩, ⟨PyData.keyHash P (.ofString "__init__"), (.str (.ofString "__init__") 2260), (.ref 102)⟩, ⟨PyData.keyHash P (.ofString "longest_run_of_spaces"), (.str (.ofString "longest_run_of_spaces") 2269), (.ref 109)⟩, ⟨PyData.keyHash P (.ofString "indent_level"), (.str (.ofString "indent_level") 2281), (.ref 116)⟩, ⟨PyData.keyHash P (.ofString "equal"), (.str (.ofString "equal") 2289), (.ref 123)⟩, ⟨PyData.keyHash P (.ofString "not_equal_witness"), (.str (.ofString "not_equal_witness") 2300), (.ref 130)⟩, ⟨PyData.keyHash P (.ofString "less"), (.str (.ofString "less") 2310), (.ref 137)⟩, ⟨PyData.keyHash P (.ofString "not_less_witness"), (.str (.ofString "not_less_witness") 2321), (.ref 144)⟩, ⟨PyData.keyHash P (.ofString "__static_attributes__"), (.str (.ofString "__static_attributes__") 2327), (.ref 145)⟩] 13), #[]⟩
noncomputable def f89 (P : Params) : Obj := ⟨(.type "tuple"), none, (.seq #[] 0), #[]⟩
noncomputable def f90 (P : Params) : Obj := ⟨.none, none, (.fields #[(.int (24) 0), (.int (4) 0), (.ref 101), (.int (47) 0), (.int (4) 0), (.ref 108), (.int (51) 0), (.int (4) 0), (.ref 115), (.int (58) 0), (.int (4) 0), (.ref 122), (.int (61) 0), (.int (4) 0), (.ref 129), (.int (69) 0), (.int (4) 0), (.ref 136), (.int (80) 0), (.int (4) 0), (.ref 143)]), #[]⟩
noncomputable def f91 (P : Params) : Obj := ⟨(.type "code"), none, (.fields #[(.str (.ofString "Whitespace") 2231), (.str (.ofString "Whitespace") 2232), (.str (.ofString "/claim/cut.py") 2233), (.int (21) 0), (.int (0) 0), (.int (0) 0), (.int (0) 0), (.int (0) 0), (.ref 89), (.bool false), (.int (181) 0), (.ref 90), .none, .none, .none, .none, (.int (2234) 0), (.int (21) 0), (.str (.ofString "/claim/cut.py") 2235)]), #[]⟩
noncomputable def f92 (P : Params) : Obj := ⟨(.type "frame"), none, .plain, #[(some (.ref 91)), (some (.ref 3)), (some (.ref 88)), none, (some (.str (.ofString "cpy313.tabnanny") 2227)), none, (some (.ref 0))]⟩
noncomputable def f93 (P : Params) : Obj := ⟨(.type "str_ascii_iterator"), none, (.fields #[.none, (.int (2) 0)]), #[]⟩
noncomputable def f94 (P : Params) : Obj := ⟨(.type "tuple"), none, (.seq #[] 0), #[]⟩
noncomputable def f95 (P : Params) : Obj := ⟨(.type "StopIteration"), none, (.fields #[(.ref 94), .none, .none, .none, (.bool false), .none]), #[]⟩
noncomputable def f96 (P : Params) : Obj := ⟨(.type "tuple"), none, (.seq #[] 0), #[]⟩
noncomputable def f97 (P : Params) : Obj := ⟨.none, none, (.fields #[]), #[]⟩
noncomputable def f98 (P : Params) : Obj := ⟨(.type "tuple"), none, (.seq #[(.str (.ofString "self") 2249), (.str (.ofString "ws") 2250), (.str (.ofString "S") 2251), (.str (.ofString "T") 2252), (.str (.ofString "count") 2253), (.str (.ofString "b") 2254), (.str (.ofString "n") 2255), (.str (.ofString "nt") 2256), (.str (.ofString "ch") 2257)] 0), #[]⟩
noncomputable def f99 (P : Params) : Obj := ⟨(.type "tuple"), none, (.seq #[] 0), #[]⟩
noncomputable def f100 (P : Params) : Obj := ⟨.none, none, (.func { name := (.ofString "__init__"), qualname := (.ofString "Whitespace.__init__"), params := q8m1P, body := .stmts q8m1B, scope := q8m1S, globals := 0, closure := [], defaults := .none, kwdefaults := .none, doc := .none, pyModule := .none, annotations := none, code := .none, closureTuple := .none, builtins := 0 }), #[]⟩
noncomputable def f101 (P : Params) : Obj := ⟨(.type "code"), none, (.fields #[(.str (.ofString "__init__") 2246), (.str (.ofString "Whitespace.__init__") 2247), (.str (.ofString "/claim/cut.py") 2248), (.int (24) 0), (.int (2) 0), (.int (0) 0), (.int (0) 0), (.int (3) 0), (.ref 96), (.bool true), (.int (181) 0), (.ref 97), .none, (.ref 98), (.ref 99), (.ref 100), (.int (2258) 0), (.int (24) 0), (.str (.ofString "/claim/cut.py") 2259)]), #[]⟩
noncomputable def f102 (P : Params) : Obj := ⟨(.type "function"), none, (.func { name := (.ofString "__init__"), qualname := (.ofString "Whitespace.__init__"), params := q8m1P, body := .stmts q8m1B, scope := q8m1S, globals := 3, closure := [], defaults := .none, kwdefaults := .none, doc := .none, pyModule := (.str (.ofString "cpy313.tabnanny") 2227), annotations := none, code := (.ref 101), closureTuple := .none, builtins := 0 }), #[]⟩
noncomputable def f103 (P : Params) : Obj := ⟨(.type "tuple"), none, (.seq #[] 0), #[]⟩
noncomputable def f104 (P : Params) : Obj := ⟨.none, none, (.fields #[]), #[]⟩
noncomputable def f105 (P : Params) : Obj := ⟨(.type "tuple"), none, (.seq #[(.str (.ofString "self") 2264), (.str (.ofString "count") 2265), (.str (.ofString "trailing") 2266)] 0), #[]⟩
noncomputable def f106 (P : Params) : Obj := ⟨(.type "tuple"), none, (.seq #[] 0), #[]⟩
noncomputable def f107 (P : Params) : Obj := ⟨.none, none, (.func { name := (.ofString "longest_run_of_spaces"), qualname := (.ofString "Whitespace.longest_run_of_spaces"), params := q8m2P, body := .stmts q8m2B, scope := q8m2S, globals := 0, closure := [], defaults := .none, kwdefaults := .none, doc := .none, pyModule := .none, annotations := none, code := .none, closureTuple := .none, builtins := 0 }), #[]⟩
noncomputable def f108 (P : Params) : Obj := ⟨(.type "code"), none, (.fields #[(.str (.ofString "longest_run_of_spaces") 2261), (.str (.ofString "Whitespace.longest_run_of_spaces") 2262), (.str (.ofString "/claim/cut.py") 2263), (.int (47) 0), (.int (1) 0), (.int (0) 0), (.int (0) 0), (.int (3) 0), (.ref 103), (.bool true), (.int (181) 0), (.ref 104), .none, (.ref 105), (.ref 106), (.ref 107), (.int (2267) 0), (.int (47) 0), (.str (.ofString "/claim/cut.py") 2268)]), #[]⟩
noncomputable def f109 (P : Params) : Obj := ⟨(.type "function"), none, (.func { name := (.ofString "longest_run_of_spaces"), qualname := (.ofString "Whitespace.longest_run_of_spaces"), params := q8m2P, body := .stmts q8m2B, scope := q8m2S, globals := 3, closure := [], defaults := .none, kwdefaults := .none, doc := .none, pyModule := (.str (.ofString "cpy313.tabnanny") 2227), annotations := none, code := (.ref 108), closureTuple := .none, builtins := 0 }), #[]⟩
noncomputable def f110 (P : Params) : Obj := ⟨(.type "tuple"), none, (.seq #[] 0), #[]⟩
noncomputable def f111 (P : Params) : Obj := ⟨.none, none, (.fields #[]), #[]⟩
noncomputable def f112 (P : Params) : Obj := ⟨(.type "tuple"), none, (.seq #[(.str (.ofString "self") 2273), (.str (.ofString "tabsize") 2274), (.str (.ofString "count") 2275), (.str (.ofString "trailing") 2276), (.str (.ofString "il") 2277), (.str (.ofString "i") 2278)] 0), #[]⟩
noncomputable def f113 (P : Params) : Obj := ⟨(.type "tuple"), none, (.seq #[] 0), #[]⟩
noncomputable def f114 (P : Params) : Obj := ⟨.none, none, (.func { name := (.ofString "indent_level"), qualname := (.ofString "Whitespace.indent_level"), params := q8m3P, body := .stmts q8m3B, scope := q8m3S, globals := 0, closure := [], defaults := .none, kwdefaults := .none, doc := .none, pyModule := .none, annotations := none, code := .none, closureTuple := .none, builtins := 0 }), #[]⟩
noncomputable def f115 (P : Params) : Obj := ⟨(.type "code"), none, (.fields #[(.str (.ofString "indent_level") 2270), (.str (.ofString "Whitespace.indent_level") 2271), (.str (.ofString "/claim/cut.py") 2272), (.int (51) 0), (.int (2) 0), (.int (0) 0), (.int (0) 0), (.int (3) 0), (.ref 110), (.bool true), (.int (181) 0), (.ref 111), .none, (.ref 112), (.ref 113), (.ref 114), (.int (2279) 0), (.int (51) 0), (.str (.ofString "/claim/cut.py") 2280)]), #[]⟩
noncomputable def f116 (P : Params) : Obj := ⟨(.type "function"), none, (.func { name := (.ofString "indent_level"), qualname := (.ofString "Whitespace.indent_level"), params := q8m3P, body := .stmts q8m3B, scope := q8m3S, globals := 3, closure := [], defaults := .none, kwdefaults := .none, doc := .none, pyModule := (.str (.ofString "cpy313.tabnanny") 2227), annotations := none, code := (.ref 115), closureTuple := .none, builtins := 0 }), #[]⟩
noncomputable def f117 (P : Params) : Obj := ⟨(.type "tuple"), none, (.seq #[] 0), #[]⟩
noncomputable def f118 (P : Params) : Obj := ⟨.none, none, (.fields #[]), #[]⟩
noncomputable def f119 (P : Params) : Obj := ⟨(.type "tuple"), none, (.seq #[(.str (.ofString "self") 2285), (.str (.ofString "other") 2286)] 0), #[]⟩
noncomputable def f120 (P : Params) : Obj := ⟨(.type "tuple"), none, (.seq #[] 0), #[]⟩
noncomputable def f121 (P : Params) : Obj := ⟨.none, none, (.func { name := (.ofString "equal"), qualname := (.ofString "Whitespace.equal"), params := q8m4P, body := .stmts q8m4B, scope := q8m4S, globals := 0, closure := [], defaults := .none, kwdefaults := .none, doc := .none, pyModule := .none, annotations := none, code := .none, closureTuple := .none, builtins := 0 }), #[]⟩
noncomputable def f122 (P : Params) : Obj := ⟨(.type "code"), none, (.fields #[(.str (.ofString "equal") 2282), (.str (.ofString "Whitespace.equal") 2283), (.str (.ofString "/claim/cut.py") 2284), (.int (58) 0), (.int (2) 0), (.int (0) 0), (.int (0) 0), (.int (3) 0), (.ref 117), (.bool true), (.int (181) 0), (.ref 118), .none, (.ref 119), (.ref 120), (.ref 121), (.int (2287) 0), (.int (58) 0), (.str (.ofString "/claim/cut.py") 2288)]), #[]⟩
noncomputable def f123 (P : Params) : Obj := ⟨(.type "function"), none, (.func { name := (.ofString "equal"), qualname := (.ofString "Whitespace.equal"), params := q8m4P, body := .stmts q8m4B, scope := q8m4S, globals := 3, closure := [], defaults := .none, kwdefaults := .none, doc := .none, pyModule := (.str (.ofString "cpy313.tabnanny") 2227), annotations := none, code := (.ref 122), closureTuple := .none, builtins := 0 }), #[]⟩
noncomputable def f124 (P : Params) : Obj := ⟨(.type "tuple"), none, (.seq #[] 0), #[]⟩
noncomputable def f125 (P : Params) : Obj := ⟨.none, none, (.fields #[]), #[]⟩
noncomputable def f126 (P : Params) : Obj := ⟨(.type "tuple"), none, (.seq #[(.str (.ofString "self") 2293), (.str (.ofString "other") 2294), (.str (.ofString "n") 2295), (.str (.ofString "a") 2296), (.str (.ofString "ts") 2297)] 0), #[]⟩
noncomputable def f127 (P : Params) : Obj := ⟨(.type "tuple"), none, (.seq #[] 0), #[]⟩
noncomputable def f128 (P : Params) : Obj := ⟨.none, none, (.func { name := (.ofString "not_equal_witness"), qualname := (.ofString "Whitespace.not_equal_witness"), params := q8m5P, body := .stmts q8m5B, scope := q8m5S, globals := 0, closure := [], defaults := .none, kwdefaults := .none, doc := .none, pyModule := .none, annotations := none, code := .none, closureTuple := .none, builtins := 0 }), #[]⟩
noncomputable def f129 (P : Params) : Obj := ⟨(.type "code"), none, (.fields #[(.str (.ofString "not_equal_witness") 2290), (.str (.ofString "Whitespace.not_equal_witness") 2291), (.str (.ofString "/claim/cut.py") 2292), (.int (61) 0), (.int (2) 0), (.int (0) 0), (.int (0) 0), (.int (3) 0), (.ref 124), (.bool true), (.int (181) 0), (.ref 125), .none, (.ref 126), (.ref 127), (.ref 128), (.int (2298) 0), (.int (61) 0), (.str (.ofString "/claim/cut.py") 2299)]), #[]⟩
noncomputable def f130 (P : Params) : Obj := ⟨(.type "function"), none, (.func { name := (.ofString "not_equal_witness"), qualname := (.ofString "Whitespace.not_equal_witness"), params := q8m5P, body := .stmts q8m5B, scope := q8m5S, globals := 3, closure := [], defaults := .none, kwdefaults := .none, doc := .none, pyModule := (.str (.ofString "cpy313.tabnanny") 2227), annotations := none, code := (.ref 129), closureTuple := .none, builtins := 0 }), #[]⟩
noncomputable def f131 (P : Params) : Obj := ⟨(.type "tuple"), none, (.seq #[] 0), #[]⟩
noncomputable def f132 (P : Params) : Obj := ⟨.none, none, (.fields #[]), #[]⟩
noncomputable def f133 (P : Params) : Obj := ⟨(.type "tuple"), none, (.seq #[(.str (.ofString "self") 2304), (.str (.ofString "other") 2305), (.str (.ofString "n") 2306), (.str (.ofString "ts") 2307)] 0), #[]⟩
noncomputable def f134 (P : Params) : Obj := ⟨(.type "tuple"), none, (.seq #[] 0), #[]⟩
noncomputable def f135 (P : Params) : Obj := ⟨.none, none, (.func { name := (.ofString "less"), qualname := (.ofString "Whitespace.less"), params := q8m6P, body := .stmts q8m6B, scope := q8m6S, globals := 0, closure := [], defaults := .none, kwdefaults := .none, doc := .none, pyModule := .none, annotations := none, code := .none, closureTuple := .none, builtins := 0 }), #[]⟩
noncomputable def f136 (P : Params) : Obj := ⟨(.type "code"), none, (.fields #[(.str (.ofString "less") 2301), (.str (.ofString "Whitespace.less") 2302), (.str (.ofString "/claim/cut.py") 2303), (.int (69) 0), (.int (2) 0), (.int (0) 0), (.int (0) 0), (.int (3) 0), (.ref 131), (.bool true), (.int (181) 0), (.ref 132), .none, (.ref 133), (.ref 134), (.ref 135), (.int (2308) 0), (.int (69) 0), (.str (.ofString "/claim/cut.py") 2309)]), #[]⟩
noncomputable def f137 (P : Params) : Obj := ⟨(.type "function"), none, (.func { name := (.ofString "less"), qualname := (.ofString "Whitespace.less"), params := q8m6P, body := .stmts q8m6B, scope := q8m6S, globals := 3, closure := [], defaults := .none, kwdefaults := .none, doc := .none, pyModule := (.str (.ofString "cpy313.tabnanny") 2227), annotations := none, code := (.ref 136), closureTuple := .none, builtins := 0 }), #[]⟩
noncomputable def f138 (P : Params) : Obj := ⟨(.type "tuple"), none, (.seq #[] 0), #[]⟩
noncomputable def f139 (P : Params) : Obj := ⟨.none, none, (.fields #[]), #[]⟩
noncomputable def f140 (P : Params) : Obj := ⟨(.type "tuple"), none, (.seq #[(.str (.ofString "self") 2314), (.str (.ofString "other") 2315), (.str (.ofString "n") 2316), (.str (.ofString "a") 2317), (.str (.ofString "ts") 2318)] 0), #[]⟩
noncomputable def f141 (P : Params) : Obj := ⟨(.type "tuple"), none, (.seq #[] 0), #[]⟩
noncomputable def f142 (P : Params) : Obj := ⟨.none, none, (.func { name := (.ofString "not_less_witness"), qualname := (.ofString "Whitespace.not_less_witness"), params := q8m7P, body := .stmts q8m7B, scope := q8m7S, globals := 0, closure := [], defaults := .none, kwdefaults := .none, doc := .none, pyModule := .none, annotations := none, code := .none, closureTuple := .none, builtins := 0 }), #[]⟩
noncomputable def f143 (P : Params) : Obj := ⟨(.type "code"), none, (.fields #[(.str (.ofString "not_less_witness") 2311), (.str (.ofString "Whitespace.not_less_witness") 2312), (.str (.ofString "/claim/cut.py") 2313), (.int (80) 0), (.int (2) 0), (.int (0) 0), (.int (0) 0), (.int (3) 0), (.ref 138), (.bool true), (.int (181) 0), (.ref 139), .none, (.ref 140), (.ref 141), (.ref 142), (.int (2319) 0), (.int (80) 0), (.str (.ofString "/claim/cut.py") 2320)]), #[]⟩
noncomputable def f144 (P : Params) : Obj := ⟨(.type "function"), none, (.func { name := (.ofString "not_less_witness"), qualname := (.ofString "Whitespace.not_less_witness"), params := q8m7P, body := .stmts q8m7B, scope := q8m7S, globals := 3, closure := [], defaults := .none, kwdefaults := .none, doc := .none, pyModule := (.str (.ofString "cpy313.tabnanny") 2227), annotations := none, code := (.ref 143), closureTuple := .none, builtins := 0 }), #[]⟩
noncomputable def f145 (P : Params) : Obj := ⟨(.type "tuple"), none, (.seq #[(.str (.ofString "is_simple") 2322), (.str (.ofString "n") 2323), (.str (.ofString "norm") 2324), (.str (.ofString "nt") 2325), (.str (.ofString "raw") 2326)] 0), #[]⟩
noncomputable def f146 (P : Params) : Obj := ⟨(.type "dict"), none, (.dict #[⟨PyData.keyHash P (.ofString "__module__"), (.str (.ofString "__module__") 2236), (.str (.ofString "cpy313.tabnanny") 2227)⟩, ⟨PyData.keyHash P (.ofString "__firstlineno__"), (.str (.ofString "__firstlineno__") 2240), (.int (21) 2239)⟩, ⟨PyData.keyHash P (.ofString "S"), (.str (.ofString "S") 2244), (.str (.ofString " ") 2242)⟩, ⟨PyData.keyHash P (.ofString "T"), (.str (.ofString "T") 2245), (.str (.ofString "\t") 2243)⟩, ⟨PyData.keyHash P (.ofString "__init__"), (.str (.ofString "__init__") 2260), (.ref 102)⟩, ⟨PyData.keyHash P (.ofString "longest_run_of_spaces"), (.str (.ofString "longest_run_of_spaces") 2269), (.ref 109)⟩, ⟨PyData.keyHash P (.ofString "indent_level"), (.str (.ofString "indent_level") 2281), (.ref 116)⟩, ⟨PyData.keyHash P (.ofString "equal"), (.str (.ofString "equal") 2289), (.ref 123)⟩, ⟨PyData.keyHash P (.ofString "not_equal_witness"), (.str (.ofString "not_equal_witness") 2300), (.ref 130)⟩, ⟨PyData.keyHash P (.ofString "less"), (.str (.ofString "less") 2310), (.ref 137)⟩, ⟨PyData.keyHash P (.ofString "not_less_witness"), (.str (.ofString "not_less_witness") 2321), (.ref 144)⟩, ⟨PyData.keyHash P (.ofString "__static_attributes__"), (.str (.ofString "__static_attributes__") 2327), (.ref 145)⟩, ⟨PyData.keyHash P (.ofString "__dict__"), (.str (.ofString "__dict__") 2329), (.ref 148)⟩, ⟨PyData.keyHash P (.ofString "__weakref__"), (.str (.ofString "__weakref__") 2331), (.ref 149)⟩, ⟨PyData.keyHash P (.ofString "__doc__"), (.str (.ofString "__doc__") 2332), .none⟩] 4), #[]⟩
noncomputable def f147 (P : Params) : Obj := ⟨(.type "type"), none, (.cls { name := (.ofString "Whitespace"), bases := [(.type "object")], mro := [(.ref 147), (.type "object")], ns := 146, qualname := (.ofString "Whitespace"), hasDict := true, slotNames := [], subclasses := [], abstract := false, collection := none, hasDel := false }), #[none, none, (some (.str (.ofString "Whitespace") 2229)), (some (.str (.ofString "Whitespace") 2237)), (some (.builtin "object.__new__")), (some (.bool true))]⟩
noncomputable def f148 (P : Params) : Obj := ⟨(.type "getset_descriptor"), none, (.fields #[(.str (.ofString "__dict__") 2328), (.ref 147), (.builtin "function.__dict__"), (.builtin "function.__dict__#set")]), #[]⟩
noncomputable def f149 (P : Params) : Obj := ⟨(.type "getset_descriptor"), none, (.fields #[(.str (.ofString "__weakref__") 2330), (.ref 147), (.builtin "ExceptionGroup.__weakref__"), .none]), #[]⟩
noncomputable def f150 (P : Params) : Obj := ⟨(.type "super"), none, (.fields #[(.ref 147), (.ref 147), (.ref 147)]), #[]⟩
noncomputable def f151 (P : Params) : Obj := ⟨(.type "builtin_function_or_method"), none, (.fields #[(.builtin "object.__init_subclass__"), (.ref 147)]), #[]⟩
noncomputable def f152 (P : Params) : Obj := ⟨(.type "tuple"), none, (.seq #[] 0), #[]⟩
noncomputable def f153 (P : Params) : Obj := ⟨.none, none, (.fields #[]), #[]⟩
noncomputable def f154 (P : Params) : Obj := ⟨(.type "tuple"), none, (.seq #[(.str (.ofString "w") 2338), (.str (.ofString "firsts") 2339), (.str (.ofString "prefix") 2340)] 0), #[]⟩
noncomputable def f155 (P : Params) : Obj := ⟨(.type "tuple"), none, (.seq #[] 0), #[]⟩
noncomputable def f156 (P : Params) : Obj := ⟨.none, none, (.func { name := (.ofString "format_witnesses"), qualname := (.ofString "format_witnesses"), params := q9P, body := .stmts q9B, scope := q9S, globals := 0, closure := [], defaults := .none, kwdefaults := .none, doc := .none, pyModule := .none, annotations := none, code := .none, closureTuple := .none, builtins := 0 }), #[]⟩
noncomputable def f157 (P : Params) : Obj := ⟨(.type "code"), none, (.fields #[(.str (.ofString "format_witnesses") 2335), (.str (.ofString "format_witnesses") 2336), (.str (.ofString "/claim/cut.py") 2337), (.int (87) 0), (.int (1) 0), (.int (0) 0), (.int (0) 0), (.int (3) 0), (.ref 152), (.bool true), (.int (181) 0), (.ref 153), .none, (.ref 154), (.ref 155), (.ref 156), (.int (2341) 0), (.int (87) 0), (.str (.ofString "/claim/cut.py") 2342)]), #[]⟩
noncomputable def f158 (P : Params) : Obj := ⟨(.type "function"), none, (.func { name := (.ofString "format_witnesses"), qualname := (.ofString "format_witnesses"), params := q9P, body := .stmts q9B, scope := q9S, globals := 3, closure := [], defaults := .none, kwdefaults := .none, doc := .none, pyModule := (.str (.ofString "cpy313.tabnanny") 2227), annotations := none, code := (.ref 157), closureTuple := .none, builtins := 0 }), #[]⟩
noncomputable def f159 (P : Params) : Obj := ⟨(.type "tuple"), none, (.seq #[] 0), #[]⟩
noncomputable def f160 (P : Params) : Obj := ⟨.none, none, (.fields #[]), #[]⟩
noncomputable def f161 (P : Params) : Obj := ⟨(.type "tuple"), none, (.seq #[(.str (.ofString "y") 2349), (.str (.ofString "signs") 2350)] 0), #[]⟩
noncomputable def f162 (P : Params) : Obj := ⟨(.type "tuple"), none, (.seq #[] 0), #[]⟩
noncomputable def f163 (P : Params) : Obj := ⟨.none, none, (.func { name := (.ofString "_law_unit"), qualname := (.ofString "_law_unit"), params := q11P, body := .stmts q11B, scope := q11S, globals := 0, closure := [], defaults := .none, kwdefaults := .none, doc := .none, pyModule := .none, annotations := none, code := .none, closureTuple := .none, builtins := 0 }), #[]⟩
noncomputable def f164 (P : Params) : Obj := ⟨(.type "code"), none, (.fields #[(.str (.ofString "_law_unit") 2346), (.str (.ofString "_law_unit") 2347), (.str (.ofString "/claim/cut.py") 2348), (.int (94) 0), (.int (1) 0), (.int (0) 0), (.int (0) 0), (.int (3) 0), (.ref 159), (.bool true), (.int (181) 0), (.ref 160), .none, (.ref 161), (.ref 162), (.ref 163), (.int (2351) 0), (.int (94) 0), (.str (.ofString "/claim/cut.py") 2352)]), #[]⟩
noncomputable def f165 (P : Params) : Obj := ⟨(.type "function"), none, (.func { name := (.ofString "_law_unit"), qualname := (.ofString "_law_unit"), params := q11P, body := .stmts q11B, scope := q11S, globals := 3, closure := [], defaults := .none, kwdefaults := .none, doc := .none, pyModule := (.str (.ofString "law_ta0082_01") 2344), annotations := none, code := (.ref 164), closureTuple := .none, builtins := 0 }), #[]⟩
noncomputable def f166 (P : Params) : Obj := ⟨(.type "tuple"), none, (.seq #[] 0), #[]⟩
noncomputable def f167 (P : Params) : Obj := ⟨.none, none, (.fields #[]), #[]⟩
noncomputable def f168 (P : Params) : Obj := ⟨(.type "tuple"), none, (.seq #[(.str (.ofString "word") 2357), (.str (.ofString "unit") 2358), (.str (.ofString "seed") 2359), (.str (.ofString "heads") 2360), (.str (.ofString "unseen") 2361), (.str (.ofString "text") 2362), (.str (.ofString "at") 2363), (.str (.ofString "kind") 2364)] 0), #[]⟩
noncomputable def f169 (P : Params) : Obj := ⟨(.type "tuple"), none, (.seq #[] 0), #[]⟩
noncomputable def f170 (P : Params) : Obj := ⟨.none, none, (.func { name := (.ofString "_law_spelled"), qualname := (.ofString "_law_spelled"), params := q12P, body := .stmts q12B, scope := q12S, globals := 0, closure := [], defaults := .none, kwdefaults := .none, doc := .none, pyModule := .none, annotations := none, code := .none, closureTuple := .none, builtins := 0 }), #[]⟩
noncomputable def f171 (P : Params) : Obj := ⟨(.type "code"), none, (.fields #[(.str (.ofString "_law_spelled") 2354), (.str (.ofString "_law_spelled") 2355), (.str (.ofString "/claim/cut.py") 2356), (.int (101) 0), (.int (3) 0), (.int (0) 0), (.int (0) 0), (.int (3) 0), (.ref 166), (.bool true), (.int (181) 0), (.ref 167), .none, (.ref 168), (.ref 169), (.ref 170), (.int (2365) 0), (.int (101) 0), (.str (.ofString "/claim/cut.py") 2366)]), #[]⟩
noncomputable def f172 (P : Params) : Obj := ⟨(.type "function"), none, (.func { name := (.ofString "_law_spelled"), qualname := (.ofString "_law_spelled"), params := q12P, body := .stmts q12B, scope := q12S, globals := 3, closure := [], defaults := .none, kwdefaults := .none, doc := .none, pyModule := (.str (.ofString "law_ta0082_01") 2344), annotations := none, code := (.ref 171), closureTuple := .none, builtins := 0 }), #[]⟩
noncomputable def f173 (P : Params) : Obj := ⟨(.type "tuple"), none, (.seq #[] 0), #[]⟩
noncomputable def f174 (P : Params) : Obj := ⟨.none, none, (.fields #[]), #[]⟩
noncomputable def f175 (P : Params) : Obj := ⟨.none, none, (.func { name := (.ofString "_law_letters"), qualname := (.ofString "_law_letters"), params := q13P, body := .stmts q13B, scope := q13S, globals := 0, closure := [], defaults := .none, kwdefaults := .none, doc := .none, pyModule := .none, annotations := none, code := .none, closureTuple := .none, builtins := 0 }), #[]⟩
noncomputable def f176 (P : Params) : Obj := ⟨(.type "code"), none, (.fields #[(.str (.ofString "_law_letters") 2368), (.str (.ofString "_law_letters") 2369), (.str (.ofString "/claim/cut.py") 2370), (.int (120) 0), (.int (1) 0), (.int (0) 0), (.int (0) 0), (.int (3) 0), (.ref 173), (.bool true), (.int (181) 0), (.ref 174), .none, .none, .none, (.ref 175), (.int (2371) 0), (.int (120) 0), (.str (.ofString "/claim/cut.py") 2372)]), #[]⟩
noncomputable def f177 (P : Params) : Obj := ⟨(.type "function"), none, (.func { name := (.ofString "_law_letters"), qualname := (.ofString "_law_letters"), params := q13P, body := .stmts q13B, scope := q13S, globals := 3, closure := [], defaults := .none, kwdefaults := .none, doc := .none, pyModule := (.str (.ofString "law_ta0082_01") 2344), annotations := none, code := (.ref 176), closureTuple := .none, builtins := 0 }), #[]⟩
noncomputable def f178 (P : Params) : Obj := ⟨(.type "tuple"), none, (.seq #[] 0), #[]⟩
noncomputable def f179 (P : Params) : Obj := ⟨.none, none, (.fields #[]), #[]⟩
noncomputable def f180 (P : Params) : Obj := ⟨(.type "tuple"), none, (.seq #[(.str (.ofString "number") 2377), (.str (.ofString "unit") 2378), (.str (.ofString "seed") 2379)] 0), #[]⟩
noncomputable def f181 (P : Params) : Obj := ⟨(.type "tuple"), none, (.seq #[] 0), #[]⟩
noncomputable def f182 (P : Params) : Obj := ⟨.none, none, (.func { name := (.ofString "_law_read"), qualname := (.ofString "_law_read"), params := q14P, body := .stmts q14B, scope := q14S, globals := 0, closure := [], defaults := .none, kwdefaults := .none, doc := .none, pyModule := .none, annotations := none, code := .none, closureTuple := .none, builtins := 0 }), #[]⟩
noncomputable def f183 (P : Params) : Obj := ⟨(.type "code"), none, (.fields #[(.str (.ofString "_law_read") 2374), (.str (.ofString "_law_read") 2375), (.str (.ofString "/claim/cut.py") 2376), (.int (129) 0), (.int (3) 0), (.int (0) 0), (.int (0) 0), (.int (3) 0), (.ref 178), (.bool true), (.int (181) 0), (.ref 179), .none, (.ref 180), (.ref 181), (.ref 182), (.int (2380) 0), (.int (129) 0), (.str (.ofString "/claim/cut.py") 2381)]), #[]⟩
noncomputable def f184 (P : Params) : Obj := ⟨(.type "function"), none, (.func { name := (.ofString "_law_read"), qualname := (.ofString "_law_read"), params := q14P, body := .stmts q14B, scope := q14S, globals := 3, closure := [], defaults := .none, kwdefaults := .none, doc := .none, pyModule := (.str (.ofString "law_ta0082_01") 2344), annotations := none, code := (.ref 183), closureTuple := .none, builtins := 0 }), #[]⟩
noncomputable def f185 (P : Params) : Obj := ⟨(.type "tuple"), none, (.seq #[] 0), #[]⟩
noncomputable def f186 (P : Params) : Obj := ⟨.none, none, (.fields #[]), #[]⟩
noncomputable def f187 (P : Params) : Obj := ⟨(.type "tuple"), none, (.seq #[(.str (.ofString "letters") 2386), (.str (.ofString "number") 2387), (.str (.ofString "letter") 2388)] 0), #[]⟩
noncomputable def f188 (P : Params) : Obj := ⟨(.type "tuple"), none, (.seq #[] 0), #[]⟩
noncomputable def f189 (P : Params) : Obj := ⟨.none, none, (.func { name := (.ofString "_law_number"), qualname := (.ofString "_law_number"), params := q15P, body := .stmts q15B, scope := q15S, globals := 0, closure := [], defaults := .none, kwdefaults := .none, doc := .none, pyModule := .none, annotations := none, code := .none, closureTuple := .none, builtins := 0 }), #[]⟩
noncomputable def f190 (P : Params) : Obj := ⟨(.type "code"), none, (.fields #[(.str (.ofString "_law_number") 2383), (.str (.ofString "_law_number") 2384), (.str (.ofString "/claim/cut.py") 2385), (.int (131) 0), (.int (1) 0), (.int (0) 0), (.int (0) 0), (.int (3) 0), (.ref 185), (.bool true), (.int (181) 0), (.ref 186), .none, (.ref 187), (.ref 188), (.ref 189), (.int (2389) 0), (.int (131) 0), (.str (.ofString "/claim/cut.py") 2390)]), #[]⟩
noncomputable def f191 (P : Params) : Obj := ⟨(.type "function"), none, (.func { name := (.ofString "_law_number"), qualname := (.ofString "_law_number"), params := q15P, body := .stmts q15B, scope := q15S, globals := 3, closure := [], defaults := .none, kwdefaults := .none, doc := .none, pyModule := (.str (.ofString "law_ta0082_01") 2344), annotations := none, code := (.ref 190), closureTuple := .none, builtins := 0 }), #[]⟩
noncomputable def f192 (P : Params) : Obj := ⟨(.type "tuple"), none, (.seq #[] 0), #[]⟩
noncomputable def f193 (P : Params) : Obj := ⟨.none, none, (.fields #[]), #[]⟩
noncomputable def f194 (P : Params) : Obj := ⟨(.type "tuple"), none, (.seq #[(.str (.ofString "numbers") 2395), (.str (.ofString "words") 2396), (.str (.ofString "unit") 2397), (.str (.ofString "seed") 2398), (.str (.ofString "here") 2399), (.str (.ofString "letters") 2400), (.str (.ofString "k") 2401), (.str (.ofString "other") 2402), (.str (.ofString "behind") 2403), (.str (.ofString "rest") 2404), (.str (.ofString "left") 2405)] 0), #[]⟩
noncomputable def f195 (P : Params) : Obj := ⟨(.type "tuple"), none, (.seq #[] 0), #[]⟩
noncomputable def f196 (P : Params) : Obj := ⟨.none, none, (.func { name := (.ofString "_law_last"), qualname := (.ofString "_law_last"), params := q16P, body := .stmts q16B, scope := q16S, globals := 0, closure := [], defaults := .none, kwdefaults := .none, doc := .none, pyModule := .none, annotations := none, code := .none, closureTuple := .none, builtins := 0 }), #[]⟩
noncomputable def f197 (P : Params) : Obj := ⟨(.type "code"), none, (.fields #[(.str (.ofString "_law_last") 2392), (.str (.ofString "_law_last") 2393), (.str (.ofString "/claim/cut.py") 2394), (.int (136) 0), (.int (4) 0), (.int (0) 0), (.int (0) 0), (.int (3) 0), (.ref 192), (.bool true), (.int (181) 0), (.ref 193), .none, (.ref 194), (.ref 195), (.ref 196), (.int (2406) 0), (.int (136) 0), (.str (.ofString "/claim/cut.py") 2407)]), #[]⟩
noncomputable def f198 (P : Params) : Obj := ⟨(.type "function"), none, (.func { name := (.ofString "_law_last"), qualname := (.ofString "_law_last"), params := q16P, body := .stmts q16B, scope := q16S, globals := 3, closure := [], defaults := .none, kwdefaults := .none, doc := .none, pyModule := (.str (.ofString "law_ta0082_01") 2344), annotations := none, code := (.ref 197), closureTuple := .none, builtins := 0 }), #[]⟩
noncomputable def f199 (P : Params) : Obj := ⟨(.type "tuple"), none, (.seq #[] 0), #[]⟩
noncomputable def f200 (P : Params) : Obj := ⟨.none, none, (.fields #[]), #[]⟩
noncomputable def f201 (P : Params) : Obj := ⟨.none, none, (.func { name := (.ofString "law"), qualname := (.ofString "law"), params := q17P, body := .stmts q17B, scope := q17S, globals := 0, closure := [], defaults := .none, kwdefaults := .none, doc := .none, pyModule := .none, annotations := none, code := .none, closureTuple := .none, builtins := 0 }), #[]⟩
noncomputable def f202 (P : Params) : Obj := ⟨(.type "code"), none, (.fields #[(.str (.ofString "law") 2409), (.str (.ofString "law") 2410), (.str (.ofString "/claim/cut.py") 2411), (.int (148) 0), (.int (1) 0), (.int (0) 0), (.int (0) 0), (.int (3) 0), (.ref 199), (.bool true), (.int (181) 0), (.ref 200), .none, .none, .none, (.ref 201), (.int (2412) 0), (.int (148) 0), (.str (.ofString "/claim/cut.py") 2413)]), #[]⟩
noncomputable def f203 (P : Params) : Obj := ⟨(.type "function"), none, (.func { name := (.ofString "law"), qualname := (.ofString "law"), params := q17P, body := .stmts q17B, scope := q17S, globals := 3, closure := [], defaults := .none, kwdefaults := .none, doc := .none, pyModule := (.str (.ofString "law_ta0082_01") 2344), annotations := none, code := (.ref 202), closureTuple := .none, builtins := 0 }), #[]⟩
@[irreducible] noncomputable def treeO (P : Params) : BT := (.node (PySem.W.boot_o_0 P) (.node (PySem.W.boot_o_1 P) (.node (PySem.W.boot_o_3 P) (.node (PySem.W.boot_o_7 P) .nil .nil) .nil) (.node (PySem.W.boot_o_5 P) (.node (PySem.W.boot_o_9 P) .nil .nil) .nil)) (.node (PySem.W.boot_o_2 P) (.node (PySem.W.boot_o_4 P) (.node (PySem.W.boot_o_8 P) .nil .nil) .nil) (.node (PySem.W.boot_o_6 P) (.node (PySem.W.boot_o_10 P) .nil .nil) .nil)))
@[irreducible] noncomputable def treeP (P : Params) : BT := (.node (a0 P) (.node (a1 P) (.node (p3 P) (.node (a7 P) .nil .nil) (.node (a11 P) .nil .nil)) (.node (a5 P) (.node (a9 P) .nil .nil) (.node (a13 P) .nil .nil))) (.node (a2 P) (.node (a4 P) (.node (a8 P) .nil .nil) (.node (p12 P) .nil .nil)) (.node (a6 P) (.node (a10 P) .nil .nil) (.node (a14 P) .nil .nil))))
@[irreducible] noncomputable def treeA (P : Params) : BT := (.node (a0 P) (.node (a1 P) (.node (a3 P) (.node (a7 P) (.node (a15 P) (.node (a31 P) .nil .nil) .nil) (.node (a23 P) .nil .nil)) (.node (a11 P) (.node (a19 P) .nil .nil) (.node (a27 P) .nil .nil))) (.node (a5 P) (.node (a9 P) (.node (a17 P) .nil .nil) (.node (a25 P) .nil .nil)) (.node (a13 P) (.node (a21 P) .nil .nil) (.node (a29 P) .nil .nil)))) (.node (a2 P) (.node (a4 P) (.node (a8 P) (.node (a16 P) (.node (a32 P) .nil .nil) .nil) (.node (a24 P) .nil .nil)) (.node (a12 P) (.node (a20 P) .nil .nil) (.node (a28 P) .nil .nil))) (.node (a6 P) (.node (a10 P) (.node (a18 P) .nil .nil) (.node (a26 P) .nil .nil)) (.node (a14 P) (.node (a22 P) .nil .nil) (.node (a30 P) .nil .nil)))))
@[irreducible] noncomputable def treeF (P : Params) (x : Nat → Obj) : BT := (.node (a0 P) (.node (a1 P) (.node (f3 P) (.node (a7 P) (.node (a15 P) (.node (a31 P) (.node (x 63) (.node (f127 P) .nil .nil) (.node (f191 P) .nil .nil)) (.node (f95 P) (.node (f159 P) .nil .nil) .nil)) (.node (x 47) (.node (f79 P) (.node (f143 P) .nil .nil) .nil) (.node (f111 P) (.node (f175 P) .nil .nil) .nil))) (.node (a23 P) (.node (x 39) (.node (x 71) (.node (f135 P) .nil .nil) (.node (f199 P) .nil .nil)) (.node (f103 P) (.node (f167 P) .nil .nil) .nil)) (.node (x 55) (.node (f87 P) (.node (f151 P) .nil .nil) .nil) (.node (f119 P) (.node (f183 P) .nil .nil) .nil)))) (.node (a11 P) (.node (a19 P) (.node (x 35) (.node (x 67) (.node (f131 P) .nil .nil) (.node (f195 P) .nil .nil)) (.node (f99 P) (.node (f163 P) .nil .nil) .nil)) (.node (x 51) (.node (f83 P) (.node (f147 P) .nil .nil) .nil) (.node (f115 P) (.node (f179 P) .nil .nil) .nil))) (.node (a27 P) (.node (x 43) (.node (f75 P) (.node (f139 P) .nil .nil) (.node (f203 P) .nil .nil)) (.node (f107 P) (.node (f171 P) .nil .nil) .nil)) (.node (x 59) (.node (f91 P) (.node (f155 P) .nil .nil) .nil) (.node (f123 P) (.node (f187 P) .nil .nil) .nil))))) (.node (a5 P) (.node (a9 P) (.node (a17 P) (.node (x 33) (.node (x 65) (.node (f129 P) .nil .nil) (.node (f193 P) .nil .nil)) (.node (f97 P) (.node (f161 P) .nil .nil) .nil)) (.node (x 49) (.node (f81 P) (.node (f145 P) .nil .nil) .nil) (.node (f113 P) (.node (f177 P) .nil .nil) .nil))) (.node (a25 P) (.node (x 41) (.node (f73 P) (.node (f137 P) .nil .nil) (.node (f201 P) .nil .nil)) (.node (f105 P) (.node (f169 P) .nil .nil) .nil)) (.node (x 57) (.node (f89 P) (.node (f153 P) .nil .nil) .nil) (.node (f121 P) (.node (f185 P) .nil .nil) .nil)))) (.node (a13 P) (.node (a21 P) (.node (x 37) (.node (x 69) (.node (f133 P) .nil .nil) (.node (f197 P) .nil .nil)) (.node (f101 P) (.node (f165 P) .nil .nil) .nil)) (.node (x 53) (.node (f85 P) (.node (f149 P) .nil .nil) .nil) (.node (f117 P) (.node (f181 P) .nil .nil) .nil))) (.node (a29 P) (.node (x 45) (.node (f77 P) (.node (f141 P) .nil .nil) .nil) (.node (f109 P) (.node (f173 P) .nil .nil) .nil)) (.node (x 61) (.node (f93 P) (.node (f157 P) .nil .nil) .nil) (.node (f125 P) (.node (f189 P) .nil .nil) .nil)))))) (.node (a2 P) (.node (a4 P) (.node (a8 P) (.node (a16 P) (.node (a32 P) (.node (x 64) (.node (f128 P) .nil .nil) (.node (f192 P) .nil .nil)) (.node (f96 P) (.node (f160 P) .nil .nil) .nil)) (.node (x 48) (.node (f80 P) (.node (f144 P) .nil .nil) .nil) (.node (f112 P) (.node (f176 P) .nil .nil) .nil))) (.node (a24 P) (.node (x 40) (.node (f72 P) (.node (f136 P) .nil .nil) (.node (f200 P) .nil .nil)) (.node (f104 P) (.node (f168 P) .nil .nil) .nil)) (.node (x 56) (.node (f88 P) (.node (f152 P) .nil .nil) .nil) (.node (f120 P) (.node (f184 P) .nil .nil) .nil)))) (.node (f12 P) (.node (a20 P) (.node (x 36) (.node (x 68) (.node (f132 P) .nil .nil) (.node (f196 P) .nil .nil)) (.node (f100 P) (.node (f164 P) .nil .nil) .nil)) (.node (x 52) (.node (f84 P) (.node (f148 P) .nil .nil) .nil) (.node (f116 P) (.node (f180 P) .nil .nil) .nil))) (.node (a28 P) (.node (x 44) (.node (f76 P) (.node (f140 P) .nil .nil) .nil) (.node (f108 P) (.node (f172 P) .nil .nil) .nil)) (.node (x 60) (.node (f92 P) (.node (f156 P) .nil .nil) .nil) (.node (f124 P) (.node (f188 P) .nil .nil) .nil))))) (.node (a6 P) (.node (a10 P) (.node (a18 P) (.node (x 34) (.node (x 66) (.node (f130 P) .nil .nil) (.node (f194 P) .nil .nil)) (.node (f98 P) (.node (f162 P) .nil .nil) .nil)) (.node (x 50) (.node (f82 P) (.node (f146 P) .nil .nil) .nil) (.node (f114 P) (.node (f178 P) .nil .nil) .nil))) (.node (a26 P) (.node (x 42) (.node (f74 P) (.node (f138 P) .nil .nil) (.node (f202 P) .nil .nil)) (.node (f106 P) (.node (f170 P) .nil .nil) .nil)) (.node (x 58) (.node (f90 P) (.node (f154 P) .nil .nil) .nil) (.node (f122 P) (.node (f186 P) .nil .nil) .nil)))) (.node (a14 P) (.node (a22 P) (.node (x 38) (.node (x 70) (.node (f134 P) .nil .nil) (.node (f198 P) .nil .nil)) (.node (f102 P) (.node (f166 P) .nil .nil) .nil)) (.node (x 54) (.node (f86 P) (.node (f150 P) .nil .nil) .nil) (.node (f118 P) (.node (f182 P) .nil .nil) .nil))) (.node (a30 P) (.node (x 46) (.node (f78 P) (.node (f142 P) .nil .nil) .nil) (.node (f110 P) (.node (f174 P) .nil .nil) .nil)) (.node (x 62) (.node (f94 P) (.node (f158 P) .nil .nil) .nil) (.node (f126 P) (.node (f190 P) .nil .nil) .nil)))))))
-- pre: steps 12 pos ⟨0, 0, 0, 0⟩, frame 14, code (.ref 13), framePos ⟨0, 0, 0, 0⟩; size 15 toks 187
-- s0: size 11 toks 181 drawn 0 0 0 0
-- A: pos ⟨3, 0, 4, 30⟩ size 33 toks 256
-- D: pos ⟨5, 0, 5, 13⟩ toks 2207
-- F: pos ⟨148, 0, 176, 102⟩ size 204 toks 2415, fin pos ⟨148, 0, 176, 102⟩ gens 0
end Mine
end

section
open PySem PySem.W PyProof.Rows
set_option maxRecDepth 100000
namespace Mine

/-- the table's den by the library's quick twin -/
noncomputable def denQ : Code → Sem PySem.Fin := PySem.W.Fast.tw11892475500146522536 PySem.W.Fast.tw14364793385576792824
theorem denQ_eq : denote table = denQ := by
  rw [table_eq_tree]
  unfold denQ
  rw [← PySem.W.Fast.te11892475500146522536, ← PySem.W.Fast.te14364793385576792824]

@[irreducible] noncomputable def topEnv : Env := { scope := pw.main.scope, locals := mainNs, globals := mainNs, cells := [], code := .ref 13, frame := some 14 }
noncomputable abbrev topCode : Code := .body (behindTheImports pw) topEnv
noncomputable abbrev Γ0 : Ctx := Ctx.of (.builtin "claim.caller" {}) []
noncomputable abbrev Γ1 : Ctx := Γ0.enter topCode none default
noncomputable abbrev S_ (w : World) : Setting := ⟨pw, w.params⟩
noncomputable abbrev EVC (w : World) : EvRec := evC (S_ w) denQ 200

/-- the pre: the code object, the frame -/
noncomputable def preTree : Sem (Value × Addr) := do
  let code ← moduleCode pw.main
  let frame ← newBodyFrame code mainNs mainNs
  pure (code, frame)

theorem byRow (row : String) {P : World → Prop} (hf : ∀ w : World, P (w.withFollow row false)) (ht : ∀ w : World, P (w.withFollow row true)) (w : World) : P w := PySem.W.byRow2 row hf ht w

theorem ev_pre : ∀ w : World, evT (S_ w) (EVC w) Γ0 preTree default (treeO w.params) 11 181 = some (.ok (.ref 13, 14), default, treeP w.params, 15, 187) := by
  intro w
  kernel_rfl

theorem ev_block : ∀ (w : World), evT (S_ w) (EVC w) Γ1 (blockStart (behindTheImports pw) topEnv) default (treeP w.params) 15 187 = some (.ok (), default, treeP w.params, 15, 187) := by
  intro w
  kernel_rfl

theorem boot_abs : ∀ w : World, absHeap (treeO w.params) 11 (boot_heap w.params).life = boot_heap w.params := by
  intro w
  kernel_rfl
theorem boot_toks_eq : boot_toks = 181 := by kernel_rfl

noncomputable def GoA (w : World) : Prop := evT (S_ w) (EVC w) Γ1 (execs [stAt 0, stAt 1, stAt 2] topEnv) default (treeP w.params) 15 187 = some (.ok .next, ⟨3, 0, 4, 30⟩, treeA w.params, 33, 256)
theorem ev_A_ff (w : World) : evT (S_ ((w.withFollow "special-get-raises" false).withFollow "set-order" false)) (EVC ((w.withFollow "special-get-raises" false).withFollow "set-order" false)) Γ1 (execs [stAt 0, stAt 1, stAt 2] topEnv) default (treeP ((w.withFollow "special-get-raises" false).withFollow "set-order" false).params) 15 187 = some (.ok .next, ⟨3, 0, 4, 30⟩, treeA ((w.withFollow "special-get-raises" false).withFollow "set-order" false).params, 33, 256) := by
  kernel_rfl
theorem ev_A_tf (w : World) : evT (S_ ((w.withFollow "special-get-raises" true).withFollow "set-order" false)) (EVC ((w.withFollow "special-get-raises" true).withFollow "set-order" false)) Γ1 (execs [stAt 0, stAt 1, stAt 2] topEnv) default (treeP ((w.withFollow "special-get-raises" true).withFollow "set-order" false).params) 15 187 = some (.ok .next, ⟨3, 0, 4, 30⟩, treeA ((w.withFollow "special-get-raises" true).withFollow "set-order" false).params, 33, 256) := by
  kernel_rfl
theorem ev_A_ft (w : World) : evT (S_ ((w.withFollow "special-get-raises" false).withFollow "set-order" true)) (EVC ((w.withFollow "special-get-raises" false).withFollow "set-order" true)) Γ1 (execs [stAt 0, stAt 1, stAt 2] topEnv) default (treeP ((w.withFollow "special-get-raises" false).withFollow "set-order" true).params) 15 187 = some (.ok .next, ⟨3, 0, 4, 30⟩, treeA ((w.withFollow "special-get-raises" false).withFollow "set-order" true).params, 33, 256) := by
  kernel_rfl
theorem ev_A_tt (w : World) : evT (S_ ((w.withFollow "special-get-raises" true).withFollow "set-order" true)) (EVC ((w.withFollow "special-get-raises" true).withFollow "set-order" true)) Γ1 (execs [stAt 0, stAt 1, stAt 2] topEnv) default (treeP ((w.withFollow "special-get-raises" true).withFollow "set-order" true).params) 15 187 = some (.ok .next, ⟨3, 0, 4, 30⟩, treeA ((w.withFollow "special-get-raises" true).withFollow "set-order" true).params, 33, 256) := by
  kernel_rfl
theorem ev_A : ∀ w : World, GoA w := byRow "set-order" (P := GoA)
  (byRow "special-get-raises" (P := fun w => GoA (w.withFollow "set-order" false)) ev_A_ff ev_A_tf)
  (byRow "special-get-raises" (P := fun w => GoA (w.withFollow "set-order" true)) ev_A_ft ev_A_tt)

noncomputable def assignOf : Stmt → List Expr × Expr × Pos
  | .Assign t v p => (t, v, p)
  | _ => ([], .Tuple [] 0 default, default)
noncomputable def dictOf : Expr → List (Option Expr) × List Expr × Pos
  | .Dict k v p => (k, v, p)
  | _ => ([], [], default)
@[irreducible] noncomputable def targets3 : List Expr := (assignOf (stAt 3)).1
@[irreducible] noncomputable def value3 : Expr := (assignOf (stAt 3)).2.1
@[irreducible] noncomputable def pos3 : Pos := (assignOf (stAt 3)).2.2
@[irreducible] noncomputable def keys3 : List (Option Expr) := (dictOf value3).1
@[irreducible] noncomputable def vals3 : List Expr := (dictOf value3).2.1
@[irreducible] noncomputable def dpos3 : Pos := (dictOf value3).2.2
theorem st3_eq : stAt 3 = .Assign targets3 value3 pos3 := by kernel_rfl
theorem value3_eq : value3 = .Dict keys3 vals3 dpos3 := by kernel_rfl

noncomputable def intOf : Option Expr → Option Int
  | some (.Constant c _ _) => (match c with | .int k => some k | _ => none)
  | _ => none
noncomputable def strOf : Expr → Option Str
  | .Constant c _ _ => (match c with | .str v => some v | _ => none)
  | _ => none
noncomputable def zipRows : List (Option Expr) → List Expr → Option (List (Int × Str))
  | [], [] => some []
  | k :: ks, v :: vs => (intOf k).bind fun i => (strOf v).bind fun x => (zipRows ks vs).map ((i, x) :: ·)
  | _, _ => none
theorem intOf_some {k : Option Expr} {i : Int} (h : intOf k = some i) : ∃ a b, k = some (.Constant (.int i) a b) := by
  unfold intOf at h
  split at h
  · split at h
    · cases h; exact ⟨_, _, rfl⟩
    · cases h
  · cases h
theorem strOf_some {v : Expr} {x : Str} (h : strOf v = some x) : ∃ a b, v = .Constant (.str x) a b := by
  unfold strOf at h
  split at h
  · split at h
    · cases h; exact ⟨_, _, rfl⟩
    · cases h
  · cases h
/-- the table's rows: the sign, what it folds to -/
@[irreducible] noncomputable def b3rows : List (Int × Str) := (zipRows keys3 vals3).getD []
theorem b3rows_eq : zipRows keys3 vals3 = some b3rows := by kernel_rfl
noncomputable def rising : List Int → Bool
  | a :: b :: r => decide (a < b) && rising (b :: r)
  | _ => true
theorem rising_all : ∀ {l : List Int} {a : Int}, rising (a :: l) = true → ∀ b ∈ l, a < b
  | [], _, _, _, h => nomatch h
  | c :: r, a, h, b, hb => by
    simp only [rising, Bool.and_eq_true, decide_eq_true_eq] at h
    rcases List.mem_cons.mp hb with rfl | hb
    · exact h.1
    · exact Int.lt_trans h.1 (rising_all h.2 b hb)
theorem rising_tail {l : List Int} {a : Int} (h : rising (a :: l) = true) : rising l = true := by
  cases l with
  | nil => rfl
  | cons b r => simp only [rising, Bool.and_eq_true] at h; exact h.2
theorem rising_nodup : ∀ {l : List Int}, rising l = true → l.Nodup
  | [], _ => List.nodup_nil
  | a :: l, h => List.nodup_cons.mpr ⟨fun hm => absurd (rising_all h a hm) (Int.lt_irrefl a), rising_nodup (rising_tail h)⟩
theorem b3rows_rising : rising (b3rows.map (·.1)) = true := by kernel_rfl
theorem b3rows_nodup : (b3rows.map (·.1)).Nodup := rising_nodup b3rows_rising
theorem b3rows_len : b3rows.length = 650 := by kernel_rfl
theorem b3rows_ne : b3rows ≠ [] := fun h => by have := b3rows_len; rw [h] at this; cases this

theorem items_of {env : Env} {p : Pos} : ∀ {ks : List (Option Expr)} {vs : List Expr} {rows : List (Int × Str)}, zipRows ks vs = some rows →
    (evalEachOpt ks env).zip ((evalEach vs env).map fun v => do let x ← v; standAt p; pure x) = rows.map fun r => (some (semK r), semV p r)
  | [], [], rows, h => by cases h; rfl
  | [], _ :: _, rows, h => by cases h
  | _ :: _, [], rows, h => by cases h
  | k :: ks, v :: vs, rows, h => by
    obtain ⟨i, hi, h⟩ := Option.bind_eq_some_iff.mp (show (intOf k).bind (fun i => (strOf v).bind fun x => (zipRows ks vs).map ((i, x) :: ·)) = some rows from h)
    obtain ⟨x, hx, h⟩ := Option.bind_eq_some_iff.mp h
    obtain ⟨r, hr, rfl⟩ := Option.map_eq_some_iff.mp h
    obtain ⟨a, b, rfl⟩ := intOf_some hi
    obtain ⟨c, d, rfl⟩ := strOf_some hx
    have := items_of (env := env) (p := p) hr
    show (some (mkInt i), (do let x ← mkText x; standAt p; pure x)) :: ((evalEachOpt ks env).zip ((evalEach vs env).map fun v => do let x ← v; standAt p; pure x)) = _
    rw [this]
    rfl

/-- a run of insertions -/
noncomputable def insN (T : BT) (lo : Nat) (x : Nat → Obj) : Nat → BT
  | 0 => T
  | m + 1 => (insN T lo x m).ins (lo + m) (x (lo + m))
noncomputable def insOk (T : BT) (lo : Nat) (x : Nat → Obj) : Nat → Bool
  | 0 => true
  | m + 1 => insOk T lo x m && ((insN T lo x (m + 1)).get (lo + m)).isSome
theorem insN_abs {T : BT} {lo : Nat} {x : Nat → Obj} {life : Life} {h : Heap} (hl : h.life = life) (hb : ∀ b, b < lo → h.objs[b]? = (absHeap T lo life).objs[b]?) : ∀ (m : Nat), insOk T lo x m = true → (∀ i, i < m → h.objs[lo + i]? = some (x (lo + i))) → h.objs.size = lo + m → h = absHeap (insN T lo x m) (lo + m) life := by
  intro m ok hx hs
  have key : ∀ j, j ≤ m → insOk T lo x j = true → ∀ b, b < lo + j → (absHeap (insN T lo x j) (lo + j) life).objs[b]? = h.objs[b]? := by
    intro j
    induction j with
    | zero => intro _ _ b hbl; exact (hb b (by omega)).symm
    | succ j ih =>
      intro hj ok b hbl
      simp only [insOk, Bool.and_eq_true] at ok
      have e : absHeap (insN T lo x (j + 1)) (lo + (j + 1)) life = (absHeap (insN T lo x j) (lo + j) life).push (x (lo + j)) := absHeap_ins ok.2
      rw [e]
      show ((absHeap (insN T lo x j) (lo + j) life).objs.push (x (lo + j)))[b]? = _
      rw [Array.getElem?_push, absHeap_size]
      by_cases hbe : b = lo + j
      · rw [if_pos hbe, hbe, hx j (by omega)]
      · rw [if_neg hbe]; exact ih (by omega) ok.1 b (by omega)
  have hobjs : h.objs = (absHeap (insN T lo x m) (lo + m) life).objs := by
    apply Array.ext_getElem?
    intro b
    by_cases hbl : b < lo + m
    · exact (key m (Nat.le_refl m) ok b hbl).symm
    · rw [Array.getElem?_eq_none (by omega), Array.getElem?_eq_none (by rw [absHeap_size]; omega)]
  obtain ⟨o, l⟩ := h
  dsimp only at hl hobjs
  subst hl
  rw [hobjs]
  rfl

/-- the statements behind the table -/
@[irreducible] noncomputable def restL : List Stmt := pw.main.body.drop 4
noncomputable def restTree : Sem Flow := do
  let f ← (do
    let ss ← swappedStores targets3 value3 topEnv
    assignStores topEnv (.ref 33) ss ((assignEach targets3 topEnv).map (·.2)))
  match f with
  | .next => execs restL topEnv
  | f => pure f
noncomputable def GoB (p : Pos) (x : Nat → Obj) (w : World) : Prop := evT (S_ w) (EVC w) Γ1 restTree p (insN (treeA w.params) 33 x 39) 72 2206 = some (.ok .next, ⟨148, 0, 176, 102⟩, treeF w.params x, 204, 2415)
theorem ev_B_f (p : Pos) (x : Nat → Obj) (w : World) : evT (S_ (w.withFollow "special-get-raises" false)) (EVC (w.withFollow "special-get-raises" false)) Γ1 restTree p (insN (treeA (w.withFollow "special-get-raises" false).params) 33 x 39) 72 2206 = some (.ok .next, ⟨148, 0, 176, 102⟩, treeF (w.withFollow "special-get-raises" false).params x, 204, 2415) := by
  kernel_rfl
theorem ev_B_t (p : Pos) (x : Nat → Obj) (w : World) : evT (S_ (w.withFollow "special-get-raises" true)) (EVC (w.withFollow "special-get-raises" true)) Γ1 restTree p (insN (treeA (w.withFollow "special-get-raises" true).params) 33 x 39) 72 2206 = some (.ok .next, ⟨148, 0, 176, 102⟩, treeF (w.withFollow "special-get-raises" true).params x, 204, 2415) := by
  kernel_rfl
theorem ev_B (p : Pos) (x : Nat → Obj) : ∀ w : World, GoB p x w := byRow "special-get-raises" (P := GoB p x) (ev_B_f p x) (ev_B_t p x)
theorem insOk_A (P : Params) (x : Nat → Obj) : insOk (treeA P) 33 x 39 = true := by kernel_rfl
end Mine
end

section
open PySem PySem.W PyProof.Rows
set_option maxRecDepth 100000
namespace Mine

theorem first_halt {den : Code → Sem PySem.Fin} {p : Program} {w : World} : ∀ {n : Nat} {s : Shared} {t : Thread} {o : Outcome} {s' : Shared}, runN den p w n s t = .halted o s' →
    ∃ m s₁ t₁, runN den p w m s t = .running s₁ t₁ ∧ step den p w s₁ t₁ = .halt o s' ∧ ∀ k, k < m → ∀ s₂ t₂, runN den p w k s t = .running s₂ t₂ → ∃ s₃ t₃, step den p w s₂ t₂ = .go s₃ t₃
  | 0, _, _, _, _, h => by cases h
  | n + 1, s, t, o, s', h => by
    unfold runN at h
    cases hs : step den p w s t with
    | halt o₁ s₁ =>
      rw [hs] at h
      cases h
      exact ⟨0, s, t, rfl, hs, fun k hk => absurd hk (Nat.not_lt_zero _)⟩
    | go s₁ t₁ =>
      rw [hs] at h
      obtain ⟨m, s₂, t₂, h1, h2, h3⟩ := first_halt h
      refine ⟨m + 1, s₂, t₂, by unfold runN; rw [hs]; exact h1, h2, fun k hk s₃ t₃ hr => ?_⟩
      cases k with
      | zero => cases hr; exact ⟨_, _, hs⟩
      | succ k =>
        unfold runN at hr
        rw [hs] at hr
        exact h3 k (Nat.lt_of_succ_lt_succ hk) _ _ hr

noncomputable def doneOf : Step → Prop
  | .halt (.done _) _ => True
  | _ => False
theorem finish_done {o : Outcome} {s s' : Shared} {f : Flow} (h : PySem.finish o s = .halt (.done f) s') : o = .done f ∧ s' = s := by
  unfold PySem.finish at h
  generalize leftWithCleanup s.gens = b at h
  cases b
  · cases (show Step.halt o s = Step.halt (.done f) s' from h); exact ⟨rfl, rfl⟩
  · cases (show Step.halt (.unsupported _) s = Step.halt (.done f) s' from h)
theorem finish_not {o : Outcome} {s : Shared} (ho : ∀ f, o ≠ .done f) : ¬ doneOf (PySem.finish o s) := by
  unfold PySem.finish
  cases leftWithCleanup s.gens
  · show ¬ doneOf (.halt o s)
    cases o <;> first | exact id | exact absurd rfl (ho _)
  · exact id
theorem halt_done {den : Code → Sem PySem.Fin} {p : Program} {w : World} {s : Shared} {t : Thread} {f : Flow} {s' : Shared} (h : step den p w s t = .halt (.done f) s') : through t = true ∧ s' = s := by
  have d : doneOf (step den p w s t) := by rw [h]; exact True.intro
  obtain ⟨heap, gens, drawn, toks, os⟩ := s
  obtain ⟨cur, code, pos, stack⟩ := t
  cases cur
  case pure a =>
    cases a
    case done g =>
      cases stack with
      | nil =>
        obtain ⟨e1, e2⟩ := finish_done (show PySem.finish (.done g) _ = .halt (.done f) s' from h)
        exact ⟨rfl, e2⟩
      | cons fr r => clear h; cases fr <;> exact False.elim d
    all_goals (clear h; exact False.elim d)
  all_goals clear h
  case raise e =>
    cases stack with
    | nil => exact absurd d (finish_not fun f => by intro e; cases e)
    | cons fr r => cases fr <;> exact False.elim d
  case finish e =>
    dsimp only [step] at d
    generalize leftWithCleanup gens = b at d
    cases b <;> exact False.elim d
  case load a r k =>
    dsimp only [step] at d
    generalize heap.get? a = q at d
    cases q <;> exact False.elim d
  case update a r g k =>
    dsimp only [step] at d
    generalize (heap.get? a).isSome = q at d
    cases q <;> exact False.elim d
  case choose src n k =>
    cases n <;> exact False.elim d
  case genState g k =>
    dsimp only [step] at d
    generalize gens[g]? = q at d
    cases q <;> exact False.elim d
  case resume g r l k =>
    dsimp only [step] at d
    generalize gens[g]? = q at d
    cases q with
    | none => exact False.elim d
    | some q =>
      cases q
      case fresh c =>
        cases r with
        | send v => cases v <;> exact False.elim d
        | throw e => exact False.elim d
      all_goals exact False.elim d
  case yield v g0 l kk =>
    dsimp only [step] at d
    generalize splitAtGen stack = q at d
    cases q with
    | none => exact False.elim d
    | some q => obtain ⟨x, ⟨y, z, u, v⟩, r⟩ := q; exact False.elim d
  all_goals exact False.elim d

theorem ran_of_wp {prog : Program} {w : World} {s₀ : Shared} {t : Sem PySem.Fin} {P : Shared → Prop} (hz : s₀.asleep) (hg : ∀ s, P s → s.gens = #[])
    (h : Sem.wp (model prog w) Γ0 t (fun fin _ s' => (∃ f, fin = .done f) ∧ P s') (fun _ _ _ => False) default s₀) :
    ∃ s₁, P s₁ ∧ s₁.heap.life = s₀.heap.life ∧ ∃ n t', schedN (denote table) prog w n (.single s₀ ⟨t, .builtin "claim.caller" {}, default, []⟩) = .running (.single s₁ t') ∧ through t' = true := by
  have h' := (wp_iff_halts (M := model prog w) (c := .builtin "claim.caller" {}) t (fun r s' => (∃ f, r = .ok f) ∧ P s') default s₀).mp
    (Sem.wp_mono _ _ _ (fun fin _ s' ⟨⟨f, e⟩, hp⟩ => by subst e; exact ⟨⟨⟨f, rfl⟩, hp⟩, by rw [hg _ hp]; simp [leftWithCleanup]⟩) (fun _ _ _ x => x.elim) _ _ h)
  obtain ⟨n, r, s', hn, ⟨f, rfl⟩, hp⟩ := h'
  obtain ⟨s'', hr, hf, hc⟩ := runNI_real _ _ _ hn (outcomeOf_ends _)
  obtain rfl := Shared.eq_of_forget_eq hf (hg _ hp)
  obtain ⟨m, s₁, t₁, h1, h2, h3⟩ := first_halt hr
  obtain ⟨h4, h5⟩ := halt_done h2
  subst h5
  refine ⟨_, hp, runN_life_running h1, m, t₁, ?_, h4⟩
  rw [schedN_prefix (denote table) prog w m s₀ _ hz fun k s₂ t₂ hk hr₂ => ⟨hc k s₂ t₂ hr₂, fun hx => ?_⟩]
  · exact congrArg Run.lift h1
  · obtain ⟨s₃, t₃, e⟩ := h3 k hk _ _ hr₂
    exact absurd (e.symm.trans hx) (by intro e; cases e)

theorem wp_execs_app {M : Model} {Γ : Ctx} {env : Env} {r : List Stmt} {Q : Flow → Pos → Shared → Prop} {E : Value → Pos → Shared → Prop} : ∀ {l : List Stmt} {p : Pos} {s : Shared},
    Sem.wp M Γ (execs l env) (fun f p s => f = .next ∧ Sem.wp M Γ (execs r env) Q E p s) E p s → Sem.wp M Γ (execs (l ++ r) env) Q E p s
  | [], p, s, h => by
    have h : Flow.next = .next ∧ Sem.wp M Γ (execs r env) Q E p s := h
    exact h.2
  | st :: l, p, s, h => by
    have h : Sem.wp M Γ (exec st env >>= fun f => match f with | .next => execs l env | f => pure f) (fun f p s => f = .next ∧ Sem.wp M Γ (execs r env) Q E p s) E p s := h
    show Sem.wp M Γ (exec st env >>= fun f => match f with | .next => execs (l ++ r) env | f => pure f) Q E p s
    rw [Sem.wp_bind'] at h ⊢
    refine Sem.wp_mono _ _ _ (fun f p' s' h' => ?_) (fun _ _ _ x => x) _ _ h
    cases f with
    | next => exact wp_execs_app h'
    | _ => exact absurd (show _ = Flow.next from h'.1) (by intro e; cases e)

noncomputable abbrev topLife (P : Params) : Life := (boot_heap P).life
/-- the table's object, its rows in order -/
noncomputable def TableIs (o : Obj) : Prop := ∃ es ep, o = ⟨.type "dict", none, .dict es ep, #[]⟩ ∧ es.toList.map rowOf = b3rows.map some
noncomputable abbrev stateF (P : Params) (x : Nat → Obj) (os : OsState) : Shared := at_ (treeF P x) 204 (topLife P) #[] boot_drawn 2415 os
noncomputable def TopEnd (P : Params) (os : OsState) (s : Shared) : Prop := ∃ x : Nat → Obj, TableIs (x 33) ∧ s = stateF P x os

theorem body_split : behindTheImports pw = [stAt 0, stAt 1, stAt 2] ++ (stAt 3 :: restL) := by kernel_rfl
theorem swaps_none : ∀ (w : World) (p : Pos) (T : BT) (n k : Nat), evT (S_ w) (EVC w) Γ1 (do standAt pos3; swapsWithSole targets3 value3 pos3.line topEnv) p T n k = some (.ok false, pos3, T, n, k) := by
  intro w p T n k
  kernel_rfl

theorem table_gen {prog : Program} {w : World} {A : Around} {E : Value → Shared → Prop} {T : BT} {lo m k : Nat} {life : Life} {g : Array GenState} {d : Drawn} {os : OsState} {rows : List (Int × Str)} {p : Pos} (hlo : sysModules < lo) (h1 : rows ≠ []) (h2 : (rows.map (·.1)).Nodup) (h3 : rows.length ≤ sizeLine)
    (hm : m = (rows.length + 16) / 17) (ok : ∀ x, insOk T lo x m = true) :
    wpAny (model prog w) A (do standAt p; dictDisplay (rows.map fun r => (some (semK r), semV p r)))
      (fun v s' => ∃ x : Nat → Obj, (∃ es ep, x lo = ⟨.type "dict", none, .dict es ep, #[]⟩ ∧ es.toList.map rowOf = rows.map some) ∧ v = .ref lo ∧ s' = at_ (insN T lo x m) (lo + m) life g d (k + 3 * rows.length) os) E
      (at_ T lo life g d k os) := by
  have hsz : (absHeap T lo life).objs.size = lo := absHeap_size _ _ _
  refine wpAny_bind (wpAny_standAt (display_wp ?_ h1 h2 h3 fun h' tk q1 q2 q3 q4 => ?_))
  · show @LT.lt Nat _ sysModules (absHeap T lo life).objs.size
    rw [hsz]; exact hlo
  · replace q1 : tk = k + 3 * rows.length := q1
    replace q2 : DictIs h' (absHeap T lo life).objs.size rows := q2
    replace q3 : h'.objs.size = (absHeap T lo life).objs.size + (rows.length + 16) / 17 := q3
    replace q4 : Over (absHeap T lo life).objs.size (absHeap T lo life) h' := q4
    rw [hsz] at q2 q3 q4
    rw [← hm] at q3
    obtain ⟨es, ep, g1, g2⟩ := q2
    have hx : ∀ i, i < m → h'.objs[lo + i]? = some (h'.objs.getD (lo + i) default) := fun i hi => by
      have hlt : lo + i < h'.objs.size := by rw [q3]; omega
      rw [Array.getElem?_eq_getElem hlt, Array.getD_eq_getD_getElem?, Array.getElem?_eq_getElem hlt]; rfl
    have e := insN_abs (x := fun i => h'.objs.getD i default) q4.life q4.below m (ok _) hx q3
    refine ⟨fun i => h'.objs.getD i default, ⟨es, ep, ?_, g2⟩, by show Value.ref (absHeap T lo life).objs.size = _; rw [hsz], ?_⟩
    · have : h'.objs[lo]? = some ⟨.type "dict", none, .dict es ep, #[]⟩ := by
        unfold Heap.get? at g1
        split at g1
        · cases g1
        · exact g1
      show h'.objs.getD lo default = _
      rw [Array.getD_eq_getD_getElem?, this]; rfl
    · show Shared.mk h' g d tk os = _
      rw [q1]
      exact congrArg (fun h => Shared.mk h g d (k + 3 * rows.length) os) e

theorem table_wp (w : World) (os : OsState) (p : Pos) {Q : Value → Pos → Shared → Prop} {E : Value → Pos → Shared → Prop}
    (hQ : ∀ (x : Nat → Obj) (p : Pos), TableIs (x 33) → Q (.ref 33) p (at_ (insN (treeA w.params) 33 x 39) 72 (topLife w.params) #[] boot_drawn 2206 os)) :
    Sem.wp (model pw w) Γ1 (eval value3 topEnv) Q E p (at_ (treeA w.params) 33 (topLife w.params) #[] boot_drawn 256 os) := by
  rw [value3_eq, arm_eval_Dict, items_of b3rows_eq]
  have hA : ∃ A : Around, Γ1.In A := ⟨⟨Γ1.handled, frameCount Γ1.below + Γ1.code.weight, none, none, Γ1.units⟩, rfl, Nat.le_refl _, fun l h => (nomatch h), fun g h => (nomatch h), Nat.le_refl _⟩
  obtain ⟨A, hA⟩ := hA
  have key := table_gen (prog := pw) (w := w) (A := A) (E := fun _ _ => False) (T := treeA w.params) (lo := 33) (m := 39) (k := 256) (life := topLife w.params) (g := #[]) (d := boot_drawn) (os := os) (p := dpos3)
    (by decide) b3rows_ne b3rows_nodup (by rw [b3rows_len, sizeLine_eq]; decide) (by rw [b3rows_len]) (insOk_A w.params)
  rw [b3rows_len] at key
  refine Sem.wp_mono _ _ _ (fun v p' s' ⟨x, hx, hv, hs⟩ => ?_) (fun _ _ _ x => x.elim) _ _ (key Γ1 p hA)
  subst hv hs
  exact hQ x p' hx

theorem top_wp (w : World) (os : OsState) : Sem.wp (model pw w) Γ0 (topStub pw).cur (fun fin _ s' => (∃ f, fin = .done f) ∧ TopEnd w.params os s') (fun _ _ _ => False) default
    ⟨boot_heap w.params, #[], boot_drawn, boot_toks, os⟩ := by
  have h1 : Sem.wp (model pw w) Γ0 preTree (fun x p s => Sem.wp (model pw w) Γ0 (run (.body (behindTheImports pw) { scope := pw.main.scope, locals := mainNs, globals := mainNs, cells := [], code := x.1, frame := some x.2 }) >>= fun _ => (ret .none : Sem PySem.Fin))
      (fun fin _ s' => (∃ f, fin = .done f) ∧ TopEnd w.params os s') (fun _ _ _ => False) p s) (fun _ _ _ => False) default ⟨boot_heap w.params, #[], boot_drawn, boot_toks, os⟩ := by
    rw [← boot_abs w, boot_toks_eq]
    refine ev_run (life := (boot_heap w.params).life) denQ_eq (ev_pre w) ?_
    rw [Sem.wp_bind']
    have he : ({ scope := pw.main.scope, locals := mainNs, globals := mainNs, cells := [], code := ((Value.ref 13, 14) : Value × Addr).1, frame := some ((Value.ref 13, 14) : Value × Addr).2 } : Env) = topEnv := by
      unfold topEnv; rfl
    rw [he]
    show wpCode (model pw w) Γ1 _ default _
    rw [wpCode_iff_wp]
    show Sem.wp (model pw w) Γ1 (blockStart (behindTheImports pw) topEnv >>= fun _ => (execs (behindTheImports pw) topEnv).onRaise (leaving topEnv) >>= fun f => pure (Fin.done f)) _ _ default _
    rw [Sem.wp_bind']
    refine ev_run denQ_eq (ev_block w) ?_
    rw [Sem.wp_bind', Sem.wp_onRaise, body_split]
    refine wp_execs_app (ev_run denQ_eq (ev_A w) ⟨rfl, ?_⟩)
    show Sem.wp (model pw w) Γ1 (exec (stAt 3) topEnv >>= fun f => match f with | .next => execs restL topEnv | f => pure f) _ _ _ _
    rw [Sem.wp_bind', st3_eq, arm_exec_Assign]
    have e : (do
        standAt pos3
        if ← swapsWithSole targets3 value3 pos3.line topEnv then do
          evalThenUse value3 topEnv fun v => assignAll v ((assignEach targets3 topEnv).map (·.2))
          pure .next
        else do
          let v ← eval value3 topEnv
          assignStores topEnv v (← swappedStores targets3 value3 topEnv) ((assignEach targets3 topEnv).map (·.2)) : Sem Flow) =
      ((do standAt pos3; swapsWithSole targets3 value3 pos3.line topEnv) >>= fun b => if b = true then do
          evalThenUse value3 topEnv fun v => assignAll v ((assignEach targets3 topEnv).map (·.2))
          pure .next
        else do
          let v ← eval value3 topEnv
          assignStores topEnv v (← swappedStores targets3 value3 topEnv) ((assignEach targets3 topEnv).map (·.2))) := rfl
    rw [e, Sem.wp_bind']
    refine ev_run denQ_eq (swaps_none w _ _ _ _) ?_
    rw [if_neg Bool.false_ne_true, Sem.wp_bind']
    refine table_wp w os _ fun x p hx => ?_
    have hB := ev_run (prog := pw) (w := w) (life := topLife w.params) (g := #[]) (d := boot_drawn) (os := os) (E := fun _ _ _ => False)
      (Q := fun f p s => f = .next ∧ s = stateF w.params x os) denQ_eq (ev_B p x w) ⟨rfl, rfl⟩
    unfold restTree at hB
    rw [Sem.wp_bind'] at hB
    refine Sem.wp_mono _ _ _ (fun f p' s' h' => ?_) (fun _ _ _ x => x.elim) _ _ hB
    have fin : ∀ (f : Flow) (p : Pos) (s : Shared), (f = .next ∧ s = stateF w.params x os) → Sem.wp (model pw w) Γ1 (pure (Fin.done f)) (Sem.finPost (model pw w) Γ1 fun r s' => Sem.wp (model pw w) Γ0 (match r with | .ok f => pure f | .error e => Sem.raise e : Sem Flow)
        (fun _ p' s' => Sem.wp (model pw w) Γ0 (ret .none : Sem PySem.Fin) (fun fin _ s' => (∃ f, fin = .done f) ∧ TopEnd w.params os s') (fun _ _ _ => False) p' s') (fun _ _ _ => False) default s') (fun _ _ _ => False) p s := by
      rintro f p s ⟨rfl, rfl⟩
      exact ⟨⟨_, rfl⟩, x, hx, rfl⟩
    exact Sem.wp_mono _ _ _ (fun f p s h => fin f p s h) (fun _ _ _ x => x.elim) _ _ h'
  unfold preTree at h1
  simp only [Sem.wp_bind', Sem.wp_pure'] at h1
  show Sem.wp (model pw w) Γ0 (moduleCode pw.main >>= fun code => newBodyFrame code mainNs mainNs >>= fun frame => run (.body (behindTheImports pw) { scope := pw.main.scope, locals := mainNs, globals := mainNs, cells := [], code := code, frame := some frame }) >>= fun _ => (ret .none : Sem PySem.Fin)) _ _ _ _
  simp only [Sem.wp_bind']
  exact h1
end Mine
end

section
open PySem PySem.W PyProof.Rows
set_option maxRecDepth 100000
namespace Mine
noncomputable def KK (P : Params) : Frag := (nat_lit 2, a2 P) :: (nat_lit 3, f3 P) :: (nat_lit 22, a22 P) :: (nat_lit 26, a26 P) :: (nat_lit 28, a28 P) :: (nat_lit 29, a29 P) :: (nat_lit 31, a31 P) :: (nat_lit 32, a32 P) :: (nat_lit 72, f72 P) :: (nat_lit 74, f74 P) :: (nat_lit 75, f75 P) :: (nat_lit 77, f77 P) :: (nat_lit 78, f78 P) :: (nat_lit 79, f79 P) :: (nat_lit 81, f81 P) :: (nat_lit 82, f82 P) :: (nat_lit 84, f84 P) :: (nat_lit 85, f85 P) :: (nat_lit 96, f96 P) :: (nat_lit 98, f98 P) :: (nat_lit 99, f99 P) :: (nat_lit 101, f101 P) :: (nat_lit 102, f102 P) :: (nat_lit 103, f103 P) :: (nat_lit 105, f105 P) :: (nat_lit 106, f106 P) :: (nat_lit 108, f108 P) :: (nat_lit 109, f109 P) :: (nat_lit 110, f110 P) :: (nat_lit 112, f112 P) :: (nat_lit 113, f113 P) :: (nat_lit 115, f115 P) :: (nat_lit 116, f116 P) :: (nat_lit 117, f117 P) :: (nat_lit 119, f119 P) :: (nat_lit 120, f120 P) :: (nat_lit 122, f122 P) :: (nat_lit 123, f123 P) :: (nat_lit 124, f124 P) :: (nat_lit 126, f126 P) :: (nat_lit 127, f127 P) :: (nat_lit 129, f129 P) :: (nat_lit 130, f130 P) :: (nat_lit 131, f131 P) :: (nat_lit 133, f133 P) :: (nat_lit 134, f134 P) :: (nat_lit 136, f136 P) :: (nat_lit 137, f137 P) :: (nat_lit 138, f138 P) :: (nat_lit 140, f140 P) :: (nat_lit 141, f141 P) :: (nat_lit 143, f143 P) :: (nat_lit 144, f144 P) :: (nat_lit 145, f145 P) :: (nat_lit 146, f146 P) :: (nat_lit 147, f147 P) :: (nat_lit 148, f148 P) :: (nat_lit 149, f149 P) :: (nat_lit 152, f152 P) :: (nat_lit 154, f154 P) :: (nat_lit 155, f155 P) :: (nat_lit 157, f157 P) :: (nat_lit 158, f158 P) :: (nat_lit 159, f159 P) :: (nat_lit 161, f161 P) :: (nat_lit 162, f162 P) :: (nat_lit 164, f164 P) :: (nat_lit 165, f165 P) :: (nat_lit 166, f166 P) :: (nat_lit 168, f168 P) :: (nat_lit 169, f169 P) :: (nat_lit 171, f171 P) :: (nat_lit 172, f172 P) :: (nat_lit 173, f173 P) :: (nat_lit 176, f176 P) :: (nat_lit 177, f177 P) :: (nat_lit 178, f178 P) :: (nat_lit 180, f180 P) :: (nat_lit 181, f181 P) :: (nat_lit 183, f183 P) :: (nat_lit 184, f184 P) :: (nat_lit 185, f185 P) :: (nat_lit 187, f187 P) :: (nat_lit 188, f188 P) :: (nat_lit 190, f190 P) :: (nat_lit 191, f191 P) :: (nat_lit 192, f192 P) :: (nat_lit 194, f194 P) :: (nat_lit 195, f195 P) :: (nat_lit 197, f197 P) :: (nat_lit 198, f198 P) :: (nat_lit 199, f199 P) :: (nat_lit 202, f202 P) :: (nat_lit 203, f203 P) :: []
noncomputable def kAddrs : List Addr := nat_lit 2 :: nat_lit 3 :: nat_lit 22 :: nat_lit 26 :: nat_lit 28 :: nat_lit 29 :: nat_lit 31 :: nat_lit 32 :: nat_lit 72 :: nat_lit 74 :: nat_lit 75 :: nat_lit 77 :: nat_lit 78 :: nat_lit 79 :: nat_lit 81 :: nat_lit 82 :: nat_lit 84 :: nat_lit 85 :: nat_lit 96 :: nat_lit 98 :: nat_lit 99 :: nat_lit 101 :: nat_lit 102 :: nat_lit 103 :: nat_lit 105 :: nat_lit 106 :: nat_lit 108 :: nat_lit 109 :: nat_lit 110 :: nat_lit 112 :: nat_lit 113 :: nat_lit 115 :: nat_lit 116 :: nat_lit 117 :: nat_lit 119 :: nat_lit 120 :: nat_lit 122 :: nat_lit 123 :: nat_lit 124 :: nat_lit 126 :: nat_lit 127 :: nat_lit 129 :: nat_lit 130 :: nat_lit 131 :: nat_lit 133 :: nat_lit 134 :: nat_lit 136 :: nat_lit 137 :: nat_lit 138 :: nat_lit 140 :: nat_lit 141 :: nat_lit 143 :: nat_lit 144 :: nat_lit 145 :: nat_lit 146 :: nat_lit 147 :: nat_lit 148 :: nat_lit 149 :: nat_lit 152 :: nat_lit 154 :: nat_lit 155 :: nat_lit 157 :: nat_lit 158 :: nat_lit 159 :: nat_lit 161 :: nat_lit 162 :: nat_lit 164 :: nat_lit 165 :: nat_lit 166 :: nat_lit 168 :: nat_lit 169 :: nat_lit 171 :: nat_lit 172 :: nat_lit 173 :: nat_lit 176 :: nat_lit 177 :: nat_lit 178 :: nat_lit 180 :: nat_lit 181 :: nat_lit 183 :: nat_lit 184 :: nat_lit 185 :: nat_lit 187 :: nat_lit 188 :: nat_lit 190 :: nat_lit 191 :: nat_lit 192 :: nat_lit 194 :: nat_lit 195 :: nat_lit 197 :: nat_lit 198 :: nat_lit 199 :: nat_lit 202 :: nat_lit 203 :: []
theorem kAddrs_eq (P : Params) : kAddrs = (KK P).map (·.1) := by kernel_rfl
/-- the view: the law's def alone -/
noncomputable def qv : Program := view pw [17]
noncomputable def looseV : List Str := ["b1_set", "in_table_b1", "b3_exceptions", "map_table_b3", "Int2AP", "Whitespace", "format_witnesses", "_law_unit", "_law_spelled", "_law_letters", "_law_read", "_law_number", "_law_last"]
abbrev lawRow : RowW := PySem.Challenge.rw_ta0082_01.row.toRowW
noncomputable abbrev XtV (s : Shared) : Bool := xlAt qv [] s && recOk lawRow.records s
noncomputable abbrev modsV : List Str := importedModules pw.main.body
noncomputable abbrev heapF (P : Params) (x : Nat → Obj) : Heap := absHeap (treeF P x) 204 (topLife P)

section
variable (P : Params) (x : Nat → Obj) (os : OsState)
theorem lk_statics : staticsOk modsV (boot_heap P) (heapF P x) = true := by kernel_rfl
theorem lk_names : namesBound pw (heapF P x) = true := by kernel_rfl
theorem lk_laid : laidKept (boot_heap P) (heapF P x) = true := by kernel_rfl
theorem lk_main : (heapF P x).isNs mainGlobals = true := by kernel_rfl
theorem lk_1 : seen ((recsOf qv).map (·.name)) (ownsOf qv) [] { stateF P x os with gens := #[] } = expectedOf qv := by kernel_rfl
theorem lk_2 : (heapF P x).bltView = bltViewBooted := by kernel_rfl
theorem lk_3a : (heapF P x).keysOk (looseW qv looseV) ((recsOf qv).map (·.name)) ((litsOf qv).map (·.1)) ((clssOf qv (looseW qv looseV)).map (·.name)) = true := by kernel_rfl
theorem lk_3b : (heapF P x).accountedOkI modsV = true := by kernel_rfl
theorem lk_3c : (heapF P x).isNs builtinsNs = true := by kernel_rfl
theorem lk_3d : tablesOk qv (heapF P x) = true := by kernel_rfl
theorem lk_3e : XtV (stateF P x os) = true := by kernel_rfl
theorem lk_4 : tabsOk qv (stateF P x os) = true := by kernel_rfl
theorem lk_5 : pinSeenD qv (drecsOf qv) (stateF P x os) = pinGoodD (drecsOf qv) := by kernel_rfl
theorem lk_6 : plainSeenE qv (looseW qv looseV) (stateF P x os) = plainGoodE qv (looseW qv looseV) := by kernel_rfl
theorem lk_7 : plainSeenD qv looseV (stateF P x os) = plainGoodD qv looseV := by kernel_rfl
theorem lk_8 : wideSeen qv (stateF P x os) = wideGood qv := by kernel_rfl
theorem lk_9 : clsSeenW qv looseV (stateF P x os) = clsGoodW qv looseV := by kernel_rfl
theorem lk_k : kAddrs.map (heapF P x).get? = (KK P).map fun p => some p.2 := by kernel_rfl
theorem lk_t : (heapF P x).get? 33 = alive (x 33) := by kernel_rfl
end
end Mine
end

section
open PySem PySem.W PyProof.Rows
set_option maxRecDepth 100000
namespace Mine

/-- what the walk is told of the heap behind the top -/
noncomputable def Told1 (w : World) (h : Heap) : Prop := (KK w.params).In h ∧ ∃ o, TableIs o ∧ h.get? 33 = some o
theorem Told1.keeps {w : World} {h h' : Heap} (t : Told1 w h) (k : ∀ b o, h.get? b = some o → h'.get? b = some o) : Told1 w h' :=
  ⟨t.1.keeps k, let ⟨o, a, b⟩ := t.2; ⟨o, a, k _ _ b⟩⟩
theorem told_F (w : World) (x : Nat → Obj) (hx : TableIs (x 33)) : Told1 w (heapF w.params x) := by
  refine ⟨Frag.in_of (kAddrs_eq w.params) (lk_k w.params x), x 33, hx, ?_⟩
  rw [lk_t]
  obtain ⟨es, ep, e, _⟩ := hx
  rw [e]; rfl

theorem open_fence : ∀ w : World, (fencedOpening treeTable pw w 600).map (fun s => (s.heap, s.gens, s.drawn, s.toks)) = some (boot_heap w.params, Array.mk [], boot_drawn, boot_toks) :=
  boot_open (p := pw) (by kernel_rfl) (by decide) (fun s => by kernel_rfl)

theorem boot_size (P : Params) : (boot_heap P).objs.size = 11 := by kernel_rfl
theorem boot_ann (P : Params) : globalOf (boot_heap P) "__annotations__" = some (.ref 6) := by kernel_rfl
section
variable (P : Params) (x : Nat → Obj)
theorem kp_0 : (heapF P x).get? 0 = (boot_heap P).get? 0 := by kernel_rfl
theorem kp_1 : (heapF P x).get? 1 = (boot_heap P).get? 1 := by kernel_rfl
theorem kp_4 : (heapF P x).get? 4 = (boot_heap P).get? 4 := by kernel_rfl
theorem kp_5 : (heapF P x).get? 5 = (boot_heap P).get? 5 := by kernel_rfl
theorem kp_7 : (heapF P x).get? 7 = (boot_heap P).get? 7 := by kernel_rfl
theorem kp_8 : (heapF P x).get? 8 = (boot_heap P).get? 8 := by kernel_rfl
theorem kp_9 : (heapF P x).get? 9 = (boot_heap P).get? 9 := by kernel_rfl
theorem kp_10 : (heapF P x).get? 10 = (boot_heap P).get? 10 := by kernel_rfl
end
theorem kept_F (P : Params) (x : Nat → Obj) : ∀ b o, (boot_heap P).get? b = some o → ¬ theTopsOwn (boot_heap P) b → (heapF P x).get? b = some o := by
  intro b o hb hn
  have hlt : b < 11 := by have := Heap.lt_size hb; rwa [boot_size] at this
  rw [← hb]
  match b, hlt with
  | 0, _ => exact kp_0 P x
  | 1, _ => exact kp_1 P x
  | 2, _ => exact absurd (.inr (.inl rfl)) hn
  | 3, _ => exact absurd (.inl rfl) hn
  | 4, _ => exact kp_4 P x
  | 5, _ => exact kp_5 P x
  | 6, _ => exact absurd (.inr (.inr (boot_ann P))) hn
  | 7, _ => exact kp_7 P x
  | 8, _ => exact kp_8 P x
  | 9, _ => exact kp_9 P x
  | 10, _ => exact kp_10 P x

theorem chains_V : chainsOk qv = true := by kernel_rfl
theorem seen_V (P : Params) (x : Nat → Obj) (os : OsState) : openSeen qv looseV modsV XtV true (stateF P x os) = openGood qv looseV := by
  show (seen ((recsOf qv).map (·.name)) (ownsOf qv) [] { stateF P x os with gens := #[] }, (heapF P x).bltView,
   (heapF P x).keysOk (looseW qv looseV) ((recsOf qv).map (·.name)) ((litsOf qv).map (·.1)) ((clssOf qv (looseW qv looseV)).map (·.name)) && (heapF P x).accountedOkI modsV && (heapF P x).isNs mainGlobals && (heapF P x).isNs builtinsNs && tablesOk qv (heapF P x) && XtV (stateF P x os) && ((#[] : Array GenState).size == 0),
   tabsOk qv (stateF P x os), pinSeenD qv (drecsOf qv) (stateF P x os), plainSeenE qv (looseW qv looseV) (stateF P x os), plainSeenD qv looseV (stateF P x os), wideSeen qv (stateF P x os), clsSeenW qv looseV (stateF P x os)) = _
  rw [lk_1, lk_2, lk_3a, lk_3b, lk_main, lk_3c, lk_3d, lk_3e, lk_4, lk_5, lk_6, lk_7, lk_8, lk_9]
  rfl

theorem behind (w : World) : (∃ s, AfterRun (opening pw) w s) ∧ ∀ s, AfterRun (opening pw) w s → ∃ s₀, fenceModules? pw s = some s₀ ∧ s₀.gens = #[] ∧ ∃ s₁, TopRan pw w s₀ s₁ ∧ s₁.asleep ∧ s₁.gens = #[] ∧ s₁.heap.isNs mainGlobals = true ∧
      Ground qv looseV [] (XL qv []) w s₁ (s₁.heap.nsMap mainGlobals) (s₁.heap.nsMap builtinsNs) s₁.heap ∧ RecFacts lawRow.records s₁.heap ∧ Told1 w s₁.heap := by
  obtain ⟨s₀, h2, e⟩ := Option.map_eq_some_iff.mp (open_fence w)
  rw [← table_eq_tree] at h2
  obtain ⟨s, h4, h5⟩ := Option.bind_eq_some_iff.mp h2
  have A := AfterImport.of_importEnds h4
  refine ⟨⟨s, A⟩, fun s' hs' => ?_⟩
  obtain rfl : s' = s := AfterImport.unique hs' A
  have z : s₀.asleep := Shared.asleep_of_life (fence_lifeW h5) A.life
  obtain ⟨hp, gs, dr, tk, os⟩ := s₀
  obtain ⟨rfl, rfl, rfl, rfl⟩ : hp = boot_heap w.params ∧ gs = #[] ∧ dr = boot_drawn ∧ tk = boot_toks := by simpa using e
  obtain ⟨s₁, ⟨x, hx, e1⟩, hl, hrun⟩ := ran_of_wp z (fun s hs => by obtain ⟨x, _, rfl⟩ := hs; rfl) (top_wp w os)
  subst e1
  have hX : ∀ s, XtV s = true → XL qv [] (s.heap.nsMap mainGlobals) s.heap ∧ RecFacts lawRow.records s.heap := fun s e => ⟨xl_of s (Bool.and_eq_true_iff.mp e).1, recFacts_of (Bool.and_eq_true_iff.mp e).2⟩
  obtain ⟨G, g0, g1, g2, g3, g4, g5⟩ := ground_of_open (XP := fun mg h => XL qv [] mg h ∧ RecFacts lawRow.records h) (w := w) hX chains_V (seen_V w.params x os)
  refine ⟨_, h5, rfl, stateF w.params x os, ⟨hrun, hl, rfl, kept_F w.params x, g2, statics_of_ok (lk_statics w.params x), g3, g4, g5, fun g hg => absurd hg (Array.not_mem_empty g), names_of_bound (lk_names w.params x), laid_of_kept (lk_laid w.params x)⟩,
    Shared.asleep_of_life hl z, rfl, g1, ⟨G.T, G.B, G.D, G.TE, G.TD, G.W, G.X.1, G.cls, G.has, G.apart, G.once, G.K⟩, G.X.2, told_F w x hx⟩

noncomputable abbrev theRow : OpenRow := PySem.Challenge.rw_ta0082_01.row
theorem row_ok : (opensWell pw && (frees lawRow && lawRow.within.isEmpty)) = true := by kernel_rfl
theorem bare_pw : pw.bare := ⟨rfl, rfl, rfl, rfl, rfl, by decide +kernel⟩

theorem holds_of_walk {d : DefRec} {kwd : List (Str × Expr)} (said : theRow.wellSaid = true) (hw : lawRow.promised) (hdef : defOf qv theRow.name = some (d, kwd)) (hp : theRow.prog.theDef theRow.name = some (d.params, d.body, d.scope)) (hk : kwWritten? d.params.kwonlyargs d.params.kw_defaults = some kwd)
    (call : WalkO qv looseV (XL qv []) Told1 lawRow d kwd fun f vs => PySem.call f vs) : theRow.Holds := by
  obtain ⟨o1, k56⟩ := Bool.and_eq_true_iff.mp row_ok
  obtain ⟨k5, k6⟩ := Bool.and_eq_true_iff.mp k56
  obtain ⟨hsame, hu, ha, hap, hm⟩ := frees_parts k5
  have hwi : lawRow.within = [] := List.isEmpty_iff.mp k6
  refine ⟨said, hw, ⟨bare_pw, o1, rfl⟩, hw.witness, fun w => ⟨(behind w).1, fun s' hs' => ?_⟩⟩
  obtain ⟨s₀, hf, hg0, s, hT, hz, hgens, hg, G0, RF, Y⟩ := (behind w).2 s' hs'
  have hpin : ∀ n ∈ (if theRow.pinned then [theRow.name] else []), isTheDefsW pw s.heap n := fun n hn => by
    obtain rfl : n = theRow.name := by split at hn <;> simp_all
    exact pinned_of_view hg G0 hdef hp hk
  refine ⟨s₀, hf, hg0, s, hT, hpin, RF.1, RF.2.1, ?_⟩
  have G : Ground qv looseV lawRow.records (XL qv []) w s _ _ s.heap := RF.ground G0
  refine ClaimW.callFrom_of_specG (c := lawRow.claim) hz hgens fun args hpre hlay ord hord => ?_
  obtain ⟨⟨vs, s₁⟩, hlaid⟩ := Option.isSome_iff_exists.mp (layAllW_isSome (P := w.params) (ord := ord) G.has args lawRow.args s (pre_splitW hpre).1)
  have keeps := layAllW_keeps _ _ _ hlaid
  have hal := layAllW_rest _ _ _ hlaid
  obtain ⟨as, hrd, hin, hold⟩ := reads_layAllW hord _ _ _ hlaid hlay s₁.heap (fun _ _ e => e)
  have L : Laid lawRow.records w s s₁ args vs as := ⟨⟨ord, hord, hlaid⟩, hrd, hin, hold, keeps, hal.1.trans hgens, hal.2.2.1⟩
  have G₁ := G.keeps XL.keeps keeps
  obtain ⟨a, o, pm, cd, doc, dV, kV, h1, h2, h3, h4, h5⟩ := G₁.fn hdef
  have h := call w s s₁ _ _ G₁ (Y.keeps keeps) a o pm cd doc dV kV h2 h3 h4 h5 (defOf_name hdef ▸ h1) L.gens args vs as hpre hlay L.reads L.well (L.low G.low)
  have hi := ident_freeW hu ha hap
  refine ⟨vs, s₁, hlaid, ?_⟩
  have hmain : s₁.heap.Ns mainNs (s.heap.nsMap mainGlobals) := G₁.T.g
  show wpAny (model pw w) callerA (nsGet mainNs theRow.name >>= fun r => match r with
      | some f => (do ret (← PySem.call f vs) : Sem PySem.Fin)
      | none => unsupported "claim.caller:no-such-global") _ _ s₁
  refine wpAny_bind (wpAny_nsGet hmain ?_)
  rw [h1]
  refine wpAny_bind (wpAny_mono h (fun v s' g => wpAny_pure ⟨_, rfl, ?_⟩) fun e s' g => ?_)
  · have q := g.laid (c := lawRow.claim) hsame hwi hi L
    exact ⟨q.1, q.2.1, q.2.2, fun e => by cases e⟩
  · have q := g.laid (c := lawRow.claim) hsame hwi hi L
    exact ⟨q.1, q.2.1, q.2.2, fun e => by cases e⟩
end Mine
end

section
open PySem PySem.W PyProof.Rows
set_option maxRecDepth 100000
namespace Mine

/-- what the walk is told, the empty table of format_witnesses's codes too -/
noncomputable def Told2 (w : World) (h : Heap) : Prop := Told1 w h ∧ h.get? 153 = some (tabObj #[])
theorem Told2.keeps {w : World} {h h' : Heap} (t : Told2 w h) (k : ∀ b o, h.get? b = some o → h'.get? b = some o) : Told2 w h' := ⟨t.1.keeps k, k _ _ t.2⟩
theorem lk_153 (P : Params) (x : Nat → Obj) : (heapF P x).get? 153 = some (tabObj #[]) := by kernel_rfl
theorem told2_F (w : World) (x : Nat → Obj) (hx : TableIs (x 33)) : Told2 w (heapF w.params x) := ⟨told_F w x hx, lk_153 w.params x⟩
theorem behind2 (w : World) : (∃ s, AfterRun (opening pw) w s) ∧ ∀ s, AfterRun (opening pw) w s → ∃ s₀, fenceModules? pw s = some s₀ ∧ s₀.gens = #[] ∧ ∃ s₁, TopRan pw w s₀ s₁ ∧ s₁.asleep ∧ s₁.gens = #[] ∧ s₁.heap.isNs mainGlobals = true ∧
      Ground qv looseV [] (XL qv []) w s₁ (s₁.heap.nsMap mainGlobals) (s₁.heap.nsMap builtinsNs) s₁.heap ∧ RecFacts lawRow.records s₁.heap ∧ Told2 w s₁.heap := by
  obtain ⟨s₀, h2, e⟩ := Option.map_eq_some_iff.mp (open_fence w)
  rw [← table_eq_tree] at h2
  obtain ⟨s, h4, h5⟩ := Option.bind_eq_some_iff.mp h2
  have A := AfterImport.of_importEnds h4
  refine ⟨⟨s, A⟩, fun s' hs' => ?_⟩
  obtain rfl : s' = s := AfterImport.unique hs' A
  have z : s₀.asleep := Shared.asleep_of_life (fence_lifeW h5) A.life
  obtain ⟨hp, gs, dr, tk, os⟩ := s₀
  obtain ⟨rfl, rfl, rfl, rfl⟩ : hp = boot_heap w.params ∧ gs = #[] ∧ dr = boot_drawn ∧ tk = boot_toks := by simpa using e
  obtain ⟨s₁, ⟨x, hx, e1⟩, hl, hrun⟩ := ran_of_wp z (fun s hs => by obtain ⟨x, _, rfl⟩ := hs; rfl) (top_wp w os)
  subst e1
  have hX : ∀ s, XtV s = true → XL qv [] (s.heap.nsMap mainGlobals) s.heap ∧ RecFacts lawRow.records s.heap := fun s e => ⟨xl_of s (Bool.and_eq_true_iff.mp e).1, recFacts_of (Bool.and_eq_true_iff.mp e).2⟩
  obtain ⟨G, g0, g1, g2, g3, g4, g5⟩ := ground_of_open (XP := fun mg h => XL qv [] mg h ∧ RecFacts lawRow.records h) (w := w) hX chains_V (seen_V w.params x os)
  refine ⟨_, h5, rfl, stateF w.params x os, ⟨hrun, hl, rfl, kept_F w.params x, g2, statics_of_ok (lk_statics w.params x), g3, g4, g5, fun g hg => absurd hg (Array.not_mem_empty g), names_of_bound (lk_names w.params x), laid_of_kept (lk_laid w.params x)⟩,
    Shared.asleep_of_life hl z, rfl, g1, ⟨G.T, G.B, G.D, G.TE, G.TD, G.W, G.X.1, G.cls, G.has, G.apart, G.once, G.K⟩, G.X.2, told2_F w x hx⟩


theorem holds_of_walk2 {d : DefRec} {kwd : List (Str × Expr)} (said : theRow.wellSaid = true) (hw : lawRow.promised) (hdef : defOf qv theRow.name = some (d, kwd)) (hp : theRow.prog.theDef theRow.name = some (d.params, d.body, d.scope)) (hk : kwWritten? d.params.kwonlyargs d.params.kw_defaults = some kwd)
    (call : WalkO qv looseV (XL qv []) Told2 lawRow d kwd fun f vs => PySem.call f vs) : theRow.Holds := by
  obtain ⟨o1, k56⟩ := Bool.and_eq_true_iff.mp row_ok
  obtain ⟨k5, k6⟩ := Bool.and_eq_true_iff.mp k56
  obtain ⟨hsame, hu, ha, hap, hm⟩ := frees_parts k5
  have hwi : lawRow.within = [] := List.isEmpty_iff.mp k6
  refine ⟨said, hw, ⟨bare_pw, o1, rfl⟩, hw.witness, fun w => ⟨(behind2 w).1, fun s' hs' => ?_⟩⟩
  obtain ⟨s₀, hf, hg0, s, hT, hz, hgens, hg, G0, RF, Y⟩ := (behind2 w).2 s' hs'
  have hpin : ∀ n ∈ (if theRow.pinned then [theRow.name] else []), isTheDefsW pw s.heap n := fun n hn => by
    obtain rfl : n = theRow.name := by split at hn <;> simp_all
    exact pinned_of_view hg G0 hdef hp hk
  refine ⟨s₀, hf, hg0, s, hT, hpin, RF.1, RF.2.1, ?_⟩
  have G : Ground qv looseV lawRow.records (XL qv []) w s _ _ s.heap := RF.ground G0
  refine ClaimW.callFrom_of_specG (c := lawRow.claim) hz hgens fun args hpre hlay ord hord => ?_
  obtain ⟨⟨vs, s₁⟩, hlaid⟩ := Option.isSome_iff_exists.mp (layAllW_isSome (P := w.params) (ord := ord) G.has args lawRow.args s (pre_splitW hpre).1)
  have keeps := layAllW_keeps _ _ _ hlaid
  have hal := layAllW_rest _ _ _ hlaid
  obtain ⟨as, hrd, hin, hold⟩ := reads_layAllW hord _ _ _ hlaid hlay s₁.heap (fun _ _ e => e)
  have L : Laid lawRow.records w s s₁ args vs as := ⟨⟨ord, hord, hlaid⟩, hrd, hin, hold, keeps, hal.1.trans hgens, hal.2.2.1⟩
  have G₁ := G.keeps XL.keeps keeps
  obtain ⟨a, o, pm, cd, doc, dV, kV, h1, h2, h3, h4, h5⟩ := G₁.fn hdef
  have h := call w s s₁ _ _ G₁ (Y.keeps keeps) a o pm cd doc dV kV h2 h3 h4 h5 (defOf_name hdef ▸ h1) L.gens args vs as hpre hlay L.reads L.well (L.low G.low)
  have hi := ident_freeW hu ha hap
  refine ⟨vs, s₁, hlaid, ?_⟩
  have hmain : s₁.heap.Ns mainNs (s.heap.nsMap mainGlobals) := G₁.T.g
  show wpAny (model pw w) callerA (nsGet mainNs theRow.name >>= fun r => match r with
      | some f => (do ret (← PySem.call f vs) : Sem PySem.Fin)
      | none => unsupported "claim.caller:no-such-global") _ _ s₁
  refine wpAny_bind (wpAny_nsGet hmain ?_)
  rw [h1]
  refine wpAny_bind (wpAny_mono h (fun v s' g => wpAny_pure ⟨_, rfl, ?_⟩) fun e s' g => ?_)
  · have q := g.laid (c := lawRow.claim) hsame hwi hi L
    exact ⟨q.1, q.2.1, q.2.2, fun e => by cases e⟩
  · have q := g.laid (c := lawRow.claim) hsame hwi hi L
    exact ⟨q.1, q.2.1, q.2.2, fun e => by cases e⟩
end Mine
end

section
open PySem PySem.W PyProof.Rows
set_option maxRecDepth 100000
namespace Mine
theorem part10 : True := by
  k_with_none
  w_top off
  exact True.intro
theorem fill : (PySem.Challenge.rw_ta0082_01 = PySem.Challenge.rw_ta0082_01 ∧ KK = KK) → True := by
  k_fill
  exact fun _ => trivial

/-- the table as a list of data -/
@[irreducible] noncomputable def tabD : List (PyData × PyData) := b3rows.map fun r => (.int r.1, .str r.2)
noncomputable def b1list : List Int := [65024, 65025, 65026, 65027, 65028, 65029, 6150, 65030, 65031, 65032, 65033, 6155, 6156, 6157, 8203, 8204, 8205, 65034, 65035, 65036, 65037, 65038, 65039, 173, 847, 8288, 65279]

noncomputable abbrev Led := List (Addr × Obj)
/-- a def's contract: from any frame it comes back with R's value, R's objects new on the ledger -/
noncomputable def Spec (w : World) (mean : ExcName → Option Value) (mg mb : Str → Option Value) (f : Addr) (nd : Nat) (news : Led) (vals : List Value) (R : Value → Led → Prop) : Prop :=
  ∀ (dp un : Nat) (gd : Option (List Code)) (cn : Str) (cs : Scope) (a : Addr) (ccd : Value) (cl : List (Str × Addr)) (outer : List Env) (A₀ : Around) (base h₀ : Heap) (L : Addr) (m : Str → Option Value) (s : Shared) (Q E : Value → Shared → Prop),
    Below A₀ base outer h₀ → IntTab pw w base 33 tabD → Fr h₀ L s.heap m → (KK w.params).In h₀ → News h₀ L s.heap news → Top qv (looseW qv looseV) mean mg mb h₀ → cs.kind = .function →
    dp + nd < recursionLimit → un + 8 * nd < cLine →
    (∀ (v : Value) (new : Led) (h' : Heap) (tk' : Nat), Fr h₀ L h' m → News h₀ L h' (new ++ news) → R v new → Q v { s with heap := h', toks := tk' }) →
    wpAny (model pw w) (ktrTop dp un gd cn cs L a ccd cl outer) (call (.ref f) vals) Q E s

theorem elems_of_all {w : World} {l : List (Int × Value)} (h : (l.all fun e => match e.2 with | .int k _ => decide (e.1 = hashInt k) | _ => false) = true) : ElemsOf (intKind pw w) l := by
  intro e he
  have := List.all_eq_true.mp h e he
  obtain ⟨hh, v⟩ := e
  cases v <;> simp at this
  subst this
  exact ⟨⟨_, intKind_is pw w _ _, rfl⟩, rfl⟩
theorem set_at (w : World) {h : Heap} (X : (KK w.params).In h) : h.SetOf (intKind pw w) 22 (fun k => b1list.contains k) 27 := by
  refine ⟨a22 w.params, _, _, _, X 22 (a22 w.params) rfl, ⟨rfl, rfl, rfl⟩, rfl, ?_, ?_, by decide, rfl, rfl⟩
  · exact elems_of_all (by kernel_rfl)
  · intro k
    show b1list.contains k = true ↔ ∃ e : Int × Value, e ∈ _ ∧ Value.isInt k e.2 = true
    simp only [List.contains_iff_mem, b1list, List.mem_cons, List.not_mem_nil, or_false, exists_eq_or_imp, exists_eq_left, Value.isInt, beq_iff_eq]
    simp only [eq_comm]
theorem in_b1 {w : World} {A : Around} {E : Value → Shared → Prop} {s : Shared} {h₀ : Heap} {L : Addr} {m : Str → Option Value} {k : Int} {t : Tok} {Q : Value → Shared → Prop} (F : Fr h₀ L s.heap m) (X : (KK w.params).In h₀)
    (h : Q (.bool (b1list.contains k)) { s with toks := s.toks + 1 }) : wpAny (model pw w) A (compareOp .In (.int k t) (.ref 22)) Q E s :=
  wpAny_inSet_of (intKind_is pw w k t) rfl (set_at w (X.keeps F.keep)) h


set_option maxHeartbeats 4000000 in
theorem spec_b1 (w : World) (mean : ExcName → Option Value) (mg mb : Str → Option Value) (news : Led) (c : Nat) (t : Tok) :
    Spec w mean mg mb 32 1 news [.str ⟨#[c]⟩ t] (fun v new => v = .bool (b1list.contains (c : Int)) ∧ new = []) := by
  k_with_none
  k_with "my compareOp In" => (k_here; (with_reducible show wpAny _ _ (compareOp CmpOp.In (Value.int _ _) (Value.ref _)) _ _ _); k_dflt (refine' in_b1 ?F ?X ?_; (case F => k_asm); (case X => k_asm); k_whole))
  unfold Spec
  intro dp un gd cn cs a ccd cl outer A₀ base h₀ L m s Q E B KT F X N T hk hd hu hret
  refine wpAny_call ?_
  k_dflt cell_enter
  k_steps
  exact hret _ [] _ _ (by assumption) (by assumption) ⟨rfl, rfl⟩
end Mine
end

section
open PySem PySem.W PyProof.Rows
set_option maxRecDepth 100000
namespace Mine
theorem part11 : True := by
  k_with_none
  w_top off
  exact True.intro


noncomputable def b3look (c : Int) : Option Str := b3rows.lookup c
/-- a sign folded -/
noncomputable def b3map (c : Nat) : Str := (b3look c).getD (Txt.lower ⟨#[c]⟩)

theorem lookup_tabD : ∀ (rows : List (Int × Str)) (c : Int), PySem.Spec.lookup (.int c) (rows.map fun r => (PyData.int r.1, PyData.str r.2)) = (rows.lookup c).map PyData.str
  | [], c => rfl
  | r :: rows, c => by
    obtain ⟨k, x⟩ := r
    rw [List.map_cons, List.lookup_cons]
    unfold PySem.Spec.lookup
    have e : PySem.Spec.same (.int k) (.int c) = (k == c) := rfl
    have e' : PySem.Spec.same (.int c) (.int k) = (c == k) := rfl
    have := lookup_tabD rows c
    by_cases h : c = k
    · subst h; simp [e]
    · have h2 : (c == k) = false := beq_eq_false_iff_ne.mpr h
      have h3 : (k == c) = false := beq_eq_false_iff_ne.mpr (Ne.symm h)
      simp [e, e', h2, h3, this]

section
variable {w : World} {A A₀ : Around} {E : Value → Shared → Prop} {s : Shared} {base h₀ : Heap} {outer : List Env} {L : Addr} {m : Str → Option Value}
theorem tab33 (B : Below A₀ base outer h₀) (KT : IntTab pw w base 33 tabD) (F : Fr h₀ L s.heap m) : IntTab pw w s.heap 33 tabD := (KT.keep B.stays).keep F.keep
theorem meth33 {pl : Sem Bool} {Q : Value × List Value → Shared → Prop} (B : Below A₀ base outer h₀) (KT : IntTab pw w base 33 tabD) (F : Fr h₀ L s.heap m) (h : Q (.builtin "dict.get", [.ref 33]) s) :
    wpAny (model pw w) A (getMethod (.ref 33) "get" pl) Q E s := getMethod_intTab_get (tab33 B KT F) h
theorem get33 {c : Int} {t : Tok} {Q : Value → Shared → Prop} (B : Below A₀ base outer h₀) (KT : IntTab pw w base 33 tabD) (F : Fr h₀ L s.heap m)
    (h : (∀ x t, b3look c = some x → Q (.str x t) { s with toks := s.toks + 1 }) ∧ (b3look c = none → Q .none { s with toks := s.toks + 1 })) :
    wpAny (model pw w) A (call (.builtin "dict.get") [.ref 33, .int c t]) Q E s := by
  refine call_get1_intTab (tab33 B KT F) fun v hv => ?_
  unfold tabD at hv
  rw [lookup_tabD] at hv
  unfold b3look at h
  cases hx : b3rows.lookup c with
  | none => rw [hx] at hv; obtain rfl := PyProof.V.Flat.none_inv hv; exact h.2 hx
  | some x => rw [hx] at hv; obtain ⟨t, rfl⟩ := PyProof.V.Flat.str_inv hv; exact h.1 x t hx
end

theorem b3_end {c : Nat} {x : Str} {t : Tok} (h : b3look (c : Int) = some x) : ∃ t', Value.str x t = .str (b3map c) t' ∧ ([] : Led) = [] := ⟨t, by rw [b3map, h]; rfl, rfl⟩
theorem b3_end0 {c : Nat} {t : Tok} (h : b3look (c : Int) = none) : ∃ t', Value.str (Txt.lower ⟨#[c]⟩) t = .str (b3map c) t' ∧ ([] : Led) = [] := ⟨t, by rw [b3map, h]; rfl, rfl⟩
set_option maxHeartbeats 4000000 in
theorem spec_b3 (w : World) (mean : ExcName → Option Value) (mg mb : Str → Option Value) (news : Led) (c : Nat) (t : Tok) :
    Spec w mean mg mb 78 1 news [.str ⟨#[c]⟩ t] (fun v new => ∃ t, v = .str (b3map c) t ∧ new = []) := by
  k_with_none
  k_with "my getMethod ref" => (k_here; (with_reducible show wpAny _ _ (getMethod (Value.ref 33) _ _) _ _ _); k_dflt (refine' meth33 ?B ?T ?F ?_; (case F => k_asm); (case B => k_asm); (case T => k_asm); k_whole))
  k_with "my call builtin:dict.get" => (k_here; (with_reducible show wpAny _ _ (call (Value.builtin "dict.get") [Value.ref 33, Value.int _ _]) _ _ _); k_dflt (refine' get33 ?B ?T ?F ⟨?_, ?_⟩; (case F => k_asm); (case B => k_asm); (case T => k_asm); k_whole); intros; try dsimp only)
  unfold Spec
  intro dp un gd cn cs a ccd cl outer A₀ base h₀ L m s Q E B KT F X N T hk hd hu hret
  refine wpAny_call ?_
  k_dflt cell_enter
  k_steps
  · exact hret _ [] _ _ (by assumption) (by assumption) (b3_end (by assumption))
  · dsimp only
    refine PyProof.Rows.SCL.lower (by show (1 : Nat) ≤ 5592405; decide) ?_
    intro _
    k_steps
    exact hret _ [] _ _ (by assumption) (by assumption) (b3_end0 (by assumption))
end Mine
end

section
open PySem PySem.W PyProof.Rows
set_option maxRecDepth 100000
namespace Mine
theorem part12 : True := by
  k_with_none
  w_top off
  exact True.intro


/-- a number's letters to the base 16, as octets -/
noncomputable def apOf (n : Nat) : List UInt8 := if h : n = 0 then [] else apOf (n / 16) ++ [UInt8.ofNat (65 + n % 16)]
termination_by n
decreasing_by omega

theorem picked_nat (b : Array UInt8) {lo hi : Int} (h0 : 0 ≤ lo) (h1 : 0 ≤ hi) : KBy.picked b (some lo) (some hi) = ((b.toList.drop lo.toNat).take (hi.toNat - lo.toNat)).toArray := by
  rw [KBc.picked_eq]
  have c : ∀ {i : Int}, 0 ≤ i → clipAt b.size i = min i.toNat b.size := fun {i} h => by
    obtain ⟨n, rfl⟩ := Int.eq_ofNat_of_zero_le h
    rw [clipAt_nat]; rfl
  simp only [Option.elim, c h0, c h1]
  congr 1
  by_cases h : lo.toNat ≤ b.size
  · rw [Nat.min_eq_left h]
    by_cases h' : hi.toNat ≤ b.size
    · rw [Nat.min_eq_left h']
    · rw [Nat.min_eq_right (by omega), List.take_of_length_le (by simp), List.take_of_length_le (by simp; omega)]
  · have h2 : b.toList.length ≤ min lo.toNat b.size := by rw [Array.length_toList]; omega
    have h3 : b.toList.length ≤ lo.toNat := by rw [Array.length_toList]; omega
    rw [List.drop_of_length_le h2, List.drop_of_length_le h3, List.take_nil, List.take_nil]
theorem bslice {w : World} {A : Around} {E : Value → Shared → Prop} {s : Shared} {value slice : PySem.Expr} {b : Array UInt8} {t : Tok} {h₀ : Heap} {L : Addr} {m : PySem.Str → Option Value} {news : Led} {lo hi : Int} {tl tu : Tok} {Q : Value → Shared → Prop}
    (hF : Fr h₀ L s.heap m) (hN : News h₀ L s.heap news) (h0 : 0 ≤ lo) (h1 : 0 ≤ hi) (hz : b.size ≤ 16777216)
    (h : ∀ h' t' k, Fr h₀ L h' m → News h₀ L h' news → Q (.bytes ((b.toList.drop lo.toNat).take (hi.toNat - lo.toNat)).toArray t') { s with heap := h', toks := k })
    (hs : subscripted slice false (.bytes b t) (.ref s.heap.objs.size) = operate [.ref s.heap.objs.size, .bytes b t] (getItem (.bytes b t) (.ref s.heap.objs.size)) := by with_unfolding_all rfl)
    (ht : ∀ r, letTemporaryGo value (.bytes b t) r = pure () := by intro _; with_unfolding_all rfl) :
    wpAny (model pw w) A (subscriptTail value slice (.bytes b t) (.ref s.heap.objs.size)) Q E { s with heap := s.heap.push { cls := .type "slice", data := .fields #[.int lo tl, .int hi tu, .none] } } :=
  KBc.slice_K hF hN (ks := KBw.bInts b) rfl (by constructor) (by constructor) (by rw [KBw.ints_length]; exact hz) (fun h' t' k F' N' _ => by rw [picked_nat b h0 h1]; exact h h' t' k F' N') hs ht
theorem fm_lit (x : Int) (k : Nat) : x.fmod (OfNat.ofNat (k + 1)) = x % (OfNat.ofNat (k + 1)) := Int.fmod_eq_emod_of_nonneg x (by show (0 : Int) ≤ ((k + 1 : Nat) : Int); omega)
theorem fm_16 (x : Int) : x.fmod 16 = x % 16 := Int.fmod_eq_emod_of_nonneg x (by decide)
theorem fd_16 (x : Int) : x.fdiv 16 = x / 16 := Int.fdiv_eq_ediv_of_nonneg x (by decide)
theorem apOf_len : ∀ (k n : Nat), n < 16 ^ k → (apOf n).length ≤ k
  | 0, n, h => by have : n = 0 := by omega
                  subst this; unfold apOf; simp
  | k + 1, n, h => by
    unfold apOf
    split
    · simp
    · rw [List.length_append]
      have := apOf_len k (n / 16) (by rw [Nat.pow_succ] at h; omega)
      simp only [List.length_cons, List.length_nil]; omega
theorem apOf_len15 {n : Nat} (h : n < 2 ^ 60) : (apOf n).length ≤ 15 := apOf_len 15 n (by rw [show (16 : Nat) ^ 15 = 2 ^ 60 by decide]; exact h)
theorem apOf_pos {n : Nat} (h : n ≠ 0) : apOf n = apOf (n / 16) ++ [UInt8.ofNat (65 + n % 16)] := by
  conv => lhs; unfold apOf
  rw [dif_neg h]
theorem apOf_zero : apOf 0 = [] := by unfold apOf; simp
/-- the loop's word -/
noncomputable def ApWord (n : Nat) (num : Int) (val : Array UInt8) : Prop := 0 ≤ num ∧ apOf num.toNat ++ val.toList = apOf n
theorem ap_start {n : Nat} : (#[] : Array UInt8).size ≤ 15 ∧ ApWord n (if -(n : Int) < 0 then - -(n : Int) else -(n : Int)) #[] := by
  have e : (if -(n : Int) < 0 then - -(n : Int) else -(n : Int)) = (n : Int) := by split <;> omega
  rw [e]
  exact ⟨Nat.zero_le _, by omega, by simp⟩
theorem ap_sign : ∀ k, k < 16 → ((#[65, 66, 67, 68, 69, 70, 71, 72, 73, 74, 75, 76, 77, 78, 79, 80] : Array UInt8).toList.drop k).take 1 = [UInt8.ofNat (65 + k)] := by decide
theorem ap_turn {n : Nat} {num : Int} {val : Array UInt8} (hn : n < 2 ^ 60) (h : ApWord n num val) (hne : num ≠ 0) :
    ((((#[65, 66, 67, 68, 69, 70, 71, 72, 73, 74, 75, 76, 77, 78, 79, 80] : Array UInt8).toList.drop (num.fmod 16).toNat).take ((num.fmod 16 + 1).toNat - (num.fmod 16).toNat)).toArray ++ val).size ≤ 15 ∧
    ApWord n (num.fdiv 16) ((((#[65, 66, 67, 68, 69, 70, 71, 72, 73, 74, 75, 76, 77, 78, 79, 80] : Array UInt8).toList.drop (num.fmod 16).toNat).take ((num.fmod 16 + 1).toNat - (num.fmod 16).toNat)).toArray ++ val) := by
  obtain ⟨h0, h1⟩ := h
  obtain ⟨k, rfl⟩ := Int.eq_ofNat_of_zero_le h0
  have hk : k ≠ 0 := by rintro rfl; exact hne rfl
  rw [fm_16, fd_16]
  have e1 : ((k : Int) % 16).toNat = k % 16 := by omega
  have e2 : ((k : Int) % 16 + 1).toNat - ((k : Int) % 16).toNat = 1 := by omega
  have e3 : ((k : Int) / 16).toNat = k / 16 := by omega
  rw [e2, e1, ap_sign _ (Nat.mod_lt _ (by decide))]
  have e4 : apOf (k / 16) ++ ([UInt8.ofNat (65 + k % 16)] ++ val.toList) = apOf n := by
    rw [← h1, ← List.append_assoc, ← apOf_pos hk]; rfl
  refine ⟨?_, by omega, ?_⟩
  · have := congrArg List.length e4
    have h2 := apOf_len15 hn
    rw [List.length_append, List.length_append] at this
    simp only [Array.size_append, List.size_toArray, Array.length_toList] at this ⊢
    omega
  · rw [e3, ← e4]; simp
theorem ap_less {n : Nat} {num : Int} {val : Array UInt8} (h : ApWord n num val) (hne : num ≠ 0) : (num.fdiv 16).toNat < num.toNat := by
  obtain ⟨h0, _⟩ := h
  rw [fd_16]
  omega
theorem ap_end {n : Nat} {num : Int} {val : Array UInt8} {t : Tok} (h : ApWord n num val) (hz : num = 0) : ∃ t', Value.bytes val t = .bytes (apOf n).toArray t' ∧ ([] : Led) = [] := by
  subst hz
  obtain ⟨_, h1⟩ := h
  refine ⟨t, ?_, rfl⟩
  rw [← h1]
  simp [apOf_zero]
set_option maxHeartbeats 4000000 in
theorem spec_ap (w : World) (mean : ExcName → Option Value) (mg mb : Str → Option Value) (news : Led) (n : Nat) (hn : n < 2 ^ 60) (t : Tok) :
    Spec w mean mg mb 85 1 news [.int (-(n : Int)) t] (fun v new => ∃ t, v = .bytes (apOf n).toArray t ∧ new = []) := by
  unfold Spec
  intro dp un gd cn cs a ccd cl outer A₀ base h₀ L m s Q E B KT F X N T hk hd hu hret
  refine wpAny_call ?_
  k_dflt cell_enter
  (try k_gentoks)
  k_with_none
  k_with "my num" => first | assumption | omega | (simp only [fm_16, fd_16]; omega) | exact Nat.le_of_ble_eq_true rfl | (simp only [List.size_toArray, List.length_take, List.length_drop, Array.length_toList, List.length_append, List.length_cons, List.length_nil]; omega)
  k_with "my subscriptTail" => (k_here; (with_reducible show wpAny _ _ (subscriptTail _ (Expr.Slice _ _ none _) (Value.bytes _ _) (Value.ref _)) _ _ _); (with_reducible rename Fr _ _ _ _ => F'); (with_reducible rename News _ _ _ _ => N'); (refine bslice (s := ⟨_, _, _, _, _⟩) F' N' (by walk_at "my num") (by walk_at "my num") (by walk_at "my num") ?_); intro _ _ _ _ _)
  k_with "my binaryOp Add" => (k_here; (with_reducible show wpAny _ _ (binaryOp _ (Value.bytes _ _) (Value.bytes _ _)) _ _ _); (refine KBy.add_bytes (by walk_at "my num") ?_); intro _ _)
  k_with "my upto while" => (repeat' ((fail_if_success (with_reducible show wpAny _ _ (exec (Stmt.While _ _ _ _) _) _ _ _)); (first | (k_unfold; (try dsimp only)) | (walk1 <;> (try dsimp only)) | (dsimp only; walk1))))
  k_with "state" => first | exact ap_start | exact ap_turn (by assumption) (by assumption) (by assumption)
  k_with "measure" => exact ap_less (by assumption) (by assumption)
  walk_at "my upto while"
  k_while (fun (_ : List Int) num val => val.size ≤ 15 ∧ ApWord n num val) (fun _ num _ => num.toNat) "num" "val"
  (repeat' (first | (k_unfold; (try dsimp only)) | (k_end; wrow_close) | (walk1 <;> (try dsimp only)) | (dsimp only; walk1) | (leave1; (try dsimp only)) | fail "no step"))
  exact hret _ [] _ _ (by assumption) (by assumption) (ap_end (by assumption) (by assumption))
end Mine
end

section
open PySem PySem.W PyProof.Rows
set_option maxRecDepth 100000
namespace Mine
theorem part13 : True := by
  k_with_none
  w_top off
  exact True.intro


noncomputable def signsL : List (List UInt8 × Int) := [([75, 77], 13262), ([75, 75], 13261), ([80, 72], 13271), ([68, 66], 13256), ([80, 65], 13184), ([78, 65], 13185), ([77, 65], 13187), ([75, 65], 13188), ([75, 66], 13189), ([77, 66], 13190), ([71, 66], 13191), ([80, 70], 13194), ([78, 70], 13195), ([80, 65], 13225), ([70, 70], 64256), ([75, 80, 65], 13226), ([77, 80, 65], 13227), ([71, 80, 65], 13228), ([72, 80, 65], 13169)]
/-- the unit that a number draws: its letters and its sign -/
noncomputable def unitOf (y : Int) : List UInt8 × Int :=
  if y.fmod 3 = 0 then ([66 + (y.fdiv 3).fmod 15].map (fun n => n.toNat.toUInt8), 0)
  else if y.fmod 3 = 1 then ([66 + (y.fdiv 3).fmod 15, 65 + (y.fdiv 45).fmod 16].map (fun n => n.toNat.toUInt8), 0)
  else signsL.getD ((y.fdiv 3).fmod 19).toNat ([], 0)
noncomputable def uObj (u : List UInt8 × Int) (t1 t2 : Tok) : Obj := { cls := .type "tuple", data := .seq #[.bytes u.1.toArray t1, .int u.2 t2] }
theorem unit_0 {y : Int} (h : y.fmod 3 = 0) : unitOf y = ([66 + (y.fdiv 3).fmod 15].map (fun n => n.toNat.toUInt8), 0) := by rw [unitOf, if_pos h]
theorem unit_1 {y : Int} (h0 : y.fmod 3 ≠ 0) (h : y.fmod 3 = 1) : unitOf y = ([66 + (y.fdiv 3).fmod 15, 65 + (y.fdiv 45).fmod 16].map (fun n => n.toNat.toUInt8), 0) := by rw [unitOf, if_neg h0, if_pos h]
theorem unit_2 {y : Int} (h0 : y.fmod 3 ≠ 0) (h1 : y.fmod 3 ≠ 1) {j : Nat} (hj : ((y.fdiv 3).fmod 19).toNat = j) : unitOf y = signsL.getD j ([], 0) := by rw [unitOf, if_neg h0, if_neg h1, hj]

section
variable {prog : Program} {w : World} {A : Around} {E : Value → Shared → Prop} {s : Shared}
theorem item_tup_any {value slice : PySem.Expr} {t : Addr} {l : List Value} {k : Int} {u : Tok} {Q : Value → Shared → Prop} (ht : IsTup s.heap t l.toArray)
    (h0 : 0 ≤ k) (h1 : k < l.length) (hz : l.length ≤ 4096) (h : ∀ j x, k.toNat = j → j < l.length → l[j]? = some x → Q x s)
    (hs : subscripted slice false (.ref t) (.int k u) = operate [.ref t, .int k u] (getItem (.ref t) (.int k u)) := by with_unfolding_all rfl) :
    wpAny (model prog w) A (subscriptTail value slice (.ref t) (.int k u)) Q E s := by
  have hk : k.toNat < l.length := by omega
  refine item_tupleT (j := k.toNat) (x := l[k.toNat]) ht (by omega) (by omega) ?_ (List.getElem?_eq_getElem hk) (h _ _ rfl hk (List.getElem?_eq_getElem hk)) hs
  unfold seqIndex?
  simp only [Int.not_lt.mpr h0, if_false, h0, h1, decide_true, Bool.and_self, if_true]
end
theorem fm_bd (x : Int) {k : Int} (h : 0 < k) : 0 ≤ x.fmod k ∧ x.fmod k < k := ⟨Int.fmod_nonneg_of_pos x h, Int.fmod_lt_of_pos x h⟩
theorem u_in1 {x : Int} : ∀ n ∈ [66 + x.fmod 15], 0 ≤ n ∧ n < 256 := by
  have := fm_bd x (k := 15) (by decide)
  intro n h; simp only [List.mem_cons, List.not_mem_nil, or_false] at h; omega
theorem u_in2 {x y : Int} : ∀ n ∈ [66 + x.fmod 15, 65 + y.fmod 16], 0 ≤ n ∧ n < 256 := by
  have := fm_bd x (k := 15) (by decide)
  have := fm_bd y (k := 16) (by decide)
  intro n h; simp only [List.mem_cons, List.not_mem_nil, or_false] at h; omega
theorem u_pos : (0 : Int) < 19 := by decide
/-- the texts of pairs: their letters and their signs -/
inductive PairsE : List Expr → List (List UInt8 × Int) → Prop
  | nil : PairsE [] []
  | cons (k1 : Nat) (p1 : Pos) (k2 : Nat) (p2 : Pos) : PairsE es us → PairsE (.Tuple [.Constant (.bytes u.1) k1 p1, .Constant (.int u.2) k2 p2] k p :: es) (u :: us)
section
variable {M : Model} {A : Around} {E : Value → Shared → Prop} {h₀ : Heap} {L : Addr} {m : Str → Option Value} {env : Env} {pos : Pos}
theorem pairs_in : ∀ {es : List Expr} {us : List (List UInt8 × Int)}, PairsE es us → ∀ {s : Shared} {news : Led} {Q : List Value → Shared → Prop}, Fr h₀ L s.heap m → News h₀ L s.heap news →
    (∀ (vs : List Value) (new : Led) (h' : Heap) (tk : Nat), Fr h₀ L h' m → News h₀ L h' (new ++ news) → vs.length = us.length → (∀ j x, vs[j]? = some x → ∃ r t1 t2, x = .ref r ∧ (r, uObj (us.getD j ([], 0)) t1 t2) ∈ new) → Q vs { s with heap := h', toks := tk }) →
    wpAny M A (spliced (backTo pos (starEach es env))) Q E s
  | _, _, .nil, s, news, Q, F, N, h => args_nil (h [] [] s.heap s.toks F N rfl (fun _ _ e => by cases e))
  | _, _, .cons (u := u) _ _ _ _ tl, s, news, Q, F, N, h => by
    refine args_cons (Tuple_ (args_cons (Constant_bytes (args_cons (wpAny_Constant_int (args_nil ?_))))))
    refine kup_newTuple (h₀ := h₀) (L := L) (m := m) (news := news) F N (fun D h' F' N' l1 => ?_) (show 2 ≤ sizeLine by decide)
    refine pairs_in tl F' N' fun vs new h'' tk F'' N'' e he => ?_
    refine h (.ref D :: vs) (new ++ [(D, uObj u s.toks (s.toks + 1))]) h'' tk F'' (by rw [List.append_assoc]; exact N'') (by rw [List.length_cons, List.length_cons, e]) ?_
    intro j x hx
    cases j with
    | zero => cases hx; exact ⟨D, _, _, rfl, List.mem_append_right _ (.head _)⟩
    | succ j => obtain ⟨r, t1, t2, a, b⟩ := he j x hx; exact ⟨r, t1, t2, a, List.mem_append_left _ b⟩
theorem signs_in {es : List Expr} {us : List (List UInt8 × Int)} {k : Nat} {pos : Pos} {s : Shared} {news : Led} {Q : Value → Shared → Prop} (hp : PairsE es us) (hz : us.length ≤ sizeLine) (F : Fr h₀ L s.heap m) (N : News h₀ L s.heap news)
    (h : ∀ (R : Addr) (vs : List Value) (new : Led) (h' : Heap) (tk : Nat), Fr h₀ L h' m → News h₀ L h' ((R, ({ cls := .type "tuple", data := .seq vs.toArray } : Obj)) :: (new ++ news)) → vs.length = us.length → (∀ j x, vs[j]? = some x → ∃ r t1 t2, x = .ref r ∧ (r, uObj (us.getD j ([], 0)) t1 t2) ∈ new) → Q (.ref R) { s with heap := h', toks := tk }) :
    wpAny M A (eval (.Tuple es k pos) env) Q E s :=
  Tuple_ (pairs_in hp F N fun vs new h' tk F' N' e he => kup_newTuple (s := { s with heap := h', toks := tk }) F' N' (fun D h'' F'' N'' _ => h D vs new h'' tk F'' N'' e he) (by rw [e]; exact hz))
end
theorem u_drop {h₀ h : Heap} {L : Addr} {news new : Led} {p q : Addr × Obj} (N : News h₀ L h (p :: (new ++ news))) (hk : q ∈ new) : News h₀ L h (q :: news) := cb_drop N fun x hx => by
  rcases List.mem_cons.1 hx with rfl | hx
  · exact List.Mem.tail _ (List.mem_append_left _ hk)
  · exact List.Mem.tail _ (List.mem_append_right _ hx)
set_option maxHeartbeats 4000000 in
theorem spec_unit (w : World) (mean : ExcName → Option Value) (mg mb : Str → Option Value) (news : Led) (y : Int) (t : Tok) :
    Spec w mean mg mb 165 1 news [.int y t] (fun v new => ∃ r t1 t2, v = .ref r ∧ new = [(r, uObj (unitOf y) t1 t2)]) := by
  k_with_none
  k_with "my call type:bytes" => (k_here; (with_reducible show wpAny _ _ (call (Value.type _) [Value.ref _]) _ _ _); k_dflt (refine' bytes_K ?F ?N ?l ?i ?r ?z ?h ?_; (case F => k_asm); (case N => k_asm); (case l => is_list); (case i => first | l_ints | l_intsW); (case r => first | exact u_in1 | exact u_in2); (case z => first | size_fits | (simp only [sizeLine_eq, List.length_cons, List.length_nil]; decide)); (case h => with_unfolding_all rfl); k_whole); intro h' t' k' F' N' hB')
  k_with "my eval Tuple" => ((with_reducible show wpAny _ _ (eval (Expr.Tuple (Expr.Tuple _ _ _ :: _) _ _) _) _ _ _); (with_reducible rename Fr _ _ _ _ => F'); (with_reducible rename News _ _ _ _ => N'); (with_reducible refine signs_in (us := signsL) ?hp ?hz F' N' ?_); (case hp => k_dflt (unfold signsL; repeat (first | exact .nil | refine .cons (u := (_, _)) _ _ _ _ ?_))); (case hz => k_dflt (exact (show 19 ≤ sizeLine by decide))); intro R9 vs9 new9 h9 tk9 F9 N9 e9 he9; (try k_sweep))
  unfold Spec
  intro dp un gd cn cs a ccd cl outer A₀ base h₀ L m s Q E B KT F X N T hk hd hu hret
  refine wpAny_call ?_
  k_dflt cell_enter
  (try k_gentoks)
  (repeat' (first | (k_unfold; (try dsimp only)) | (k_end; wrow_close) | (walk1 <;> (try dsimp only)) | (dsimp only; walk1) | (leave1; (try dsimp only)) | fail "no step"))
  · exact hret _ [(_, _)] _ _ (by assumption) (cb_drop (by assumption) (by kcj_all)) ⟨_, _, _, rfl, by rw [unit_0 (by assumption)]; rfl⟩
  · exact hret _ [(_, _)] _ _ (by assumption) (cb_drop (by assumption) (by kcj_all)) ⟨_, _, _, rfl, by rw [unit_1 (by assumption) (by assumption)]; rfl⟩
  · refine item_tup_any (k := (y.fdiv 3).fmod 19) (News.isTup (by assumption) (.head _)) (fm_bd _ u_pos).1 (by rw [e9]; exact (fm_bd _ u_pos).2) (by rw [e9]; exact (show 19 ≤ 4096 by decide)) ?_
    intro j x hj hlt hx
    obtain ⟨r, t1, t2, rfl, hk⟩ := he9 j x hx
    (repeat' (first | (k_unfold; (try dsimp only)) | (k_end; wrow_close) | (walk1 <;> (try dsimp only)) | (dsimp only; walk1) | (leave1; (try dsimp only)) | fail "no step"))
    exact hret _ [(_, _)] _ _ (by assumption) (u_drop (h₀ := h₀) (L := L) (news := news) (new := new9) (by assumption) hk) ⟨r, t1, t2, rfl, by rw [unit_2 (y := y) (by assumption) (by assumption) hj]⟩
end Mine
end

section
open PySem PySem.W PyProof.Rows
set_option maxRecDepth 100000
namespace Mine
theorem part14 : True := by
  k_with_none
  w_top off
  exact True.intro


theorem News.dup {h₀ h : Heap} {L : Addr} {news : Led} {p : Addr × Obj} (N : News h₀ L h news) (hm : p ∈ news) : News h₀ L h (p :: news) := fun q hq => by
  rcases List.mem_cons.1 hq with rfl | hq
  · exact N _ hm
  · exact N _ hq

noncomputable def numOf (ns : List Int) : Int := ns.foldl (fun a x => 16 * a + x) 0
theorem num_push (ns : List Int) (x : Int) : numOf (ns ++ [x]) = 16 * numOf ns + x := by simp [numOf]
theorem num_start : (0 : Int) = numOf [] := rfl
theorem num_turn {ns : List Int} {x n : Int} (h : n = numOf ns) : 16 * n + x = numOf (ns ++ [x]) := by rw [h, num_push]

set_option maxHeartbeats 4000000 in
theorem spec_number (w : World) (mean : ExcName → Option Value) (mg mb : Str → Option Value) (news : Led) (r : Addr) (vs : List Value) (ns : List Int) (n : Nat) (hm : (r, W.listOf vs.toArray n) ∈ news) (hi : IntsAre vs ns) (hz : ns.length ≤ 64) :
    Spec w mean mg mb 191 1 news [.ref r] (fun v new => ∃ t, v = .int (numOf ns) t ∧ new = []) := by
  unfold Spec
  intro dp un gd cn cs a ccd cl outer A₀ base h₀ L m s Q E B KT F X N T hk hd hu hret
  have N' := News.dup N hm
  clear N hm
  refine wpAny_call ?_
  k_dflt cell_enter
  k_with_none
  k_with "state" => first | exact num_start | exact num_turn (by assumption)
  k_with "pyIter ref" => k_state (fun pre n => n = numOf pre) "number"
  k_steps
  exact hret _ [] _ _ (by assumption) (cb_drop (by assumption) fun p hp => .tail _ hp) ⟨_, by rw [kInv], rfl⟩
end Mine
end

section
open PySem PySem.W PyProof.Rows
set_option maxRecDepth 100000
set_option linter.unusedVariables false
namespace Mine
theorem part15 : True := by
  k_with_none
  w_top off
  exact True.intro

section
variable {prog : Program} {w : World} {A : Around} {E : Value → Shared → Prop} {s : Shared} {env : Env} {h₀ : Heap} {x : Str} {body : List Stmt} {Q : Flow → Shared → Prop}
/-- a turn's end: the same names and objects of a new state -/
noncomputable def XEnd {σ : Type} (h₀ : Heap) (L : Addr) (Ld : σ → Led) (ps : σ → List (Str × Value)) (x : Str) (stored : List Str) (m₀ : Str → Option Value) (P : σ → Prop) (own : Led) (s₁ s₂ : Shared) : Prop :=
  ∃ (c : σ) (h' : Heap) (tk : Nat) (m' : Str → Option Value) (news' : Led), s₂ = { s₁ with heap := h', toks := tk } ∧ Fr h₀ L h' m' ∧ News h₀ L h' news' ∧ (∀ p ∈ ps c, m' p.1 = some p.2) ∧ (∀ p ∈ Ld c, p ∈ news') ∧ (∀ p ∈ own, p ∈ news') ∧
    (∀ z, z ≠ x → (∀ p ∈ ps c, z ≠ p.1) → stored.contains z = false → m' z = m₀ z) ∧ P c
noncomputable def XPost {σ : Type} (h₀ : Heap) (L : Addr) (Ld : σ → Led) (ps : σ → List (Str × Value)) (x : Str) (stored : List Str) (m₀ : Str → Option Value) (P : σ → Prop) (own : Led) (s₁ : Shared) (Q : Flow → Shared → Prop) (f : Flow) (s₂ : Shared) : Prop :=
  match f with
  | .ret v => Q (.ret v) s₂
  | .brk => Q .next s₂
  | _ => XEnd h₀ L Ld ps x stored m₀ P own s₁ s₂
theorem XEnd.intro {σ : Type} {L : Addr} {Ld : σ → Led} {ps : σ → List (Str × Value)} {stored : List Str} {m₀ m' : Str → Option Value} {P : σ → Prop} {own news' : Led} {s₁ : Shared} {h' : Heap} {tk : Nat} (c : σ)
    (F : Fr h₀ L h' m') (N : News h₀ L h' news') (hk : ∀ p ∈ ps c, m' p.1 = some p.2) (hn : ∀ p ∈ Ld c, p ∈ news') (ho : ∀ p ∈ own, p ∈ news') (hr : ∀ z, z ≠ x → (∀ p ∈ ps c, z ≠ p.1) → stored.contains z = false → m' z = m₀ z) (hp : P c) :
    XEnd h₀ L Ld ps x stored m₀ P own s₁ { s₁ with heap := h', toks := tk } := ⟨c, h', tk, m', news', rfl, F, N, hk, hn, ho, hr, hp⟩

theorem loopX {σ : Type} {I : Addr} {fp : List Addr} {n : Nat} {V : Nat → Value → Prop} {St : Nat → Heap → Prop} {m₀ : Str → Option Value} (base : Led) (Ld : σ → Led) (ps : σ → List (Str × Value)) (stored : List Str) (P : Nat → σ → Prop) (c₀ : σ)
    (W : Walks prog w A I fp [I] n V St) (hLf : env.locals ∉ fp) (hwr : h₀.get? I = none) (hbase : ∀ p ∈ base, p.1 ≠ I) (hobj : ∀ i h, St i h → ∃ o f, h.get? I = some o ∧ o.data = .fields f) (hT : ∀ c, ∀ p ∈ Ld c, p ∈ base ∨ ∀ f, p.2.data ≠ .fields f)
    (hst : St 0 s.heap) (F : Fr h₀ env.locals s.heap m₀) (N : News h₀ env.locals s.heap (Ld c₀)) (hn₀ : ∀ p ∈ Ld c₀, p.1 ≠ I) (hk : ∀ p ∈ ps c₀, m₀ p.1 = some p.2) (hp : P 0 c₀)
    (turn : ∀ i v c (u : Str → Option Value) h tk own, i < n → V i v → P i c → Fr h₀ env.locals h (fun y => if y = x then some v else kstB (fun z => if stored.contains z then u z else m₀ z) (ps c) y) → News h₀ env.locals h (Ld c ++ own) →
      wpAny (model prog w) A (execs body env) (XPost h₀ env.locals Ld ps x stored m₀ (P (i + 1)) own { s with heap := h, toks := tk } Q) E { s with heap := h, toks := tk })
    (done : ∀ c (u : Str → Option Value) h tk, P n c → Fr h₀ env.locals h (fun y => if y = x then u y else kstB (fun z => if stored.contains z then u z else m₀ z) (ps c) y) → News h₀ env.locals h (Ld c) → Q .next { s with heap := h, toks := tk }) :
    LoopAtV prog w A h₀ env x body Q E (.ref I) s := by
  let J : Nat → (Str → Option Value) → Led → Prop := fun i m nx => ∃ c : σ, nx = Ld c ∧ (∀ p ∈ ps c, m p.1 = some p.2) ∧ (∀ z, z ≠ x → (∀ p ∈ ps c, z ≠ p.1) → stored.contains z = false → m z = m₀ z) ∧ P i c
  refine ⟨I, fp, [I], n, V, St, m₀, Ld c₀, J, rfl, W, hLf, ?_, ?_, hst, F, N, ⟨c₀, rfl, hk, fun _ _ _ _ => rfl, hp⟩, ?_, ?_⟩
  · intro b hb; rw [List.mem_singleton.mp hb]; exact hwr
  · intro p hp hI; exact hn₀ p hp (List.mem_singleton.mp hI)
  · rintro i v m₁ news₁ s₁ own ⟨hh', tk', rfl⟩ hin hV ⟨c, rfl, h1, h2, hP⟩ hoff hown hlive hcov hst₁ F₁ N₁
    have N₂ : News h₀ env.locals hh' (Ld c ++ own) := fun p hp => N₁ p ((List.mem_append.mp hp).elim (fun h => List.mem_append.mpr (.inr h)) fun h => List.mem_append.mpr (.inl h))
    obtain ⟨o, f₁, ho, hf⟩ := hobj _ _ hst₁
    have hIown : (I, o) ∈ own := hcov I (W.sub I (List.mem_singleton.mpr rfl)) hwr o ho
    refine wpAny_mono (turn i v c m₁ hh' tk' own hin hV hP (kst_fr h1 h2 F₁) N₂) (fun f s₂ p => ?_) fun _ _ e => e
    have fin : XEnd h₀ env.locals Ld ps x stored m₀ (P (i + 1)) own { s with heap := hh', toks := tk' } s₂ → LoopStepU h₀ env.locals [I] own (J (i + 1)) { s with heap := hh', toks := tk' } .next s₂ := by
      rintro ⟨c', h', tk, m', news', e, F', N', hk', hn', ho', hr', hp'⟩
      refine ⟨rfl, h', tk, m', Ld c', e, F', fun p hp => N' p ((List.mem_append.mp hp).elim (ho' p) (hn' p)), fun p hp hI => ?_, c', rfl, hk', hr', hp'⟩
      have hI := List.mem_singleton.mp hI
      rcases hT c' p hp with hb | hd
      · exact hbase p hb hI
      · have e1 := (N' p (hn' p hp)).1
        have e2 := (N' _ (ho' _ hIown)).1
        rw [hI] at e1
        rw [e1] at e2
        have e3 : p.2 = o := Option.some.inj e2
        exact hd f₁ (by rw [e3]; exact hf)
    cases f with
    | ret v => exact .ret p
    | brk => exact .brk p
    | next => exact .next (fin p)
    | cont => exact .cont (fin p)
  · rintro h' tk m' news' F' N' _ ⟨c, rfl, h1, h2, hP⟩
    exact done c m' h' tk hP (kst_frOut h1 h2 F') N'

theorem new_off {L : Addr} {h : Heap} {ld : Led} {o : Obj} (N : News h₀ L h ld) : ∀ p ∈ ld, p.1 ≠ h.objs.size := fun p hp e => by
  exact Nat.lt_irrefl _ (e ▸ Heap.lt_size (N p hp).1)
theorem loopX_str {σ : Type} {xt : Str} {tx : Tok} {m₀ : Str → Option Value} (base : Led) (Ld : σ → Led) (ps : σ → List (Str × Value)) (stored : List Str) (P : List Int → σ → Prop) (c₀ : σ)
    (hh : A.handled = none) (hT : ∀ c, ∀ p ∈ Ld c, p ∈ base ∨ ∀ f, p.2.data ≠ .fields f) (hb : ∀ p ∈ base, p ∈ Ld c₀)
    (F : Fr h₀ env.locals s.heap m₀) (N : News h₀ env.locals s.heap (Ld c₀)) (hk : ∀ p ∈ ps c₀, m₀ p.1 = some p.2) (hp : P [] c₀)
    (turn : ∀ (c : σ) (pre post : List Int) (n : Nat) t (u : Str → Option Value) h tk own, KStt.codes xt = pre ++ (n : Int) :: post → P pre c →
      Fr h₀ env.locals h (fun y => if y = x then some (.str ⟨#[n]⟩ t) else kstB (fun z => if stored.contains z then u z else m₀ z) (ps c) y) → News h₀ env.locals h (Ld c ++ own) →
      wpAny (model prog w) A (execs body env) (XPost h₀ env.locals Ld ps x stored m₀ (P (pre ++ [(n : Int)])) own { s with heap := h, toks := tk } Q) E { s with heap := h, toks := tk })
    (done : ∀ (c : σ) (u : Str → Option Value) h tk, P (KStt.codes xt) c → Fr h₀ env.locals h (fun y => if y = x then u y else kstB (fun z => if stored.contains z then u z else m₀ z) (ps c) y) → News h₀ env.locals h (Ld c) → Q .next { s with heap := h, toks := tk }) :
    wpAny (model prog w) A (pyIter (.str xt tx)) (fun it s₂ => LoopAtV prog w A h₀ env x body Q E it s₂) E s := by
  have key : ∀ (T : String) (St : Nat → Heap → Prop), (∀ i h, St i h → ∃ o f, h.get? s.heap.objs.size = some o ∧ o.data = .fields f) → ∀ o, Walks prog w A s.heap.objs.size [s.heap.objs.size] [s.heap.objs.size] xt.cps.size (SignAt xt) St → St 0 (s.heap.push o) →
      LoopAtV prog w A h₀ env x body Q E (.ref s.heap.objs.size) { s with heap := s.heap.push o } := by
    intro T St hobj o W hst
    refine loopX base Ld ps stored (fun i c => P ((KStt.codes xt).take i) c) c₀ W ?_ ?_ ?_ hobj hT hst (F.push _) (fun p hp => ⟨Heap.get?_push_of_some _ (N p hp).1, (N p hp).2⟩) (new_off (o := o) N) hk (by simpa using hp) ?_ ?_
    · intro hm
      exact absurd F.ns.lt ((List.mem_singleton.mp hm) ▸ Nat.lt_irrefl _)
    · exact next_is_new F
    · intro p hp
      exact new_off (o := o) N p (hb p hp)
    · rintro i v c u h tk own hi ⟨n, t, hn, rfl⟩ hP F₁ N₁
      have hn' := KStt.code_at hn
      have hs : (KStt.codes xt).take (i + 1) = (KStt.codes xt).take i ++ [(n : Int)] := by simp [List.take_add_one, hn']
      have e : KStt.codes xt = (KStt.codes xt).take i ++ (n : Int) :: (KStt.codes xt).drop (i + 1) := by
        have ht := List.take_append_drop (i + 1) (KStt.codes xt)
        rw [hs, List.append_assoc] at ht
        exact ht.symm
      rw [hs]
      exact turn c _ _ n t u h tk own e hP F₁ N₁
    · rintro c u h tk hP F₁ N₁
      have hl : xt.cps.size = (KStt.codes xt).length := (KStt.codes_length xt).symm
      rw [hl, List.take_length] at hP
      exact done c u h tk hP F₁ N₁
  cases ha : xt.cps.all (· < 128)
  · exact wpAny_pyIter_wide ha (key "" _ (fun i h st => let ⟨o, ho, _, hd⟩ := st; ⟨o, _, ho, hd⟩) _ (Walks.strWide hh _ xt tx) ⟨_, Heap.get?_push_size _ rfl, rfl, rfl⟩)
  · exact wpAny_pyIter_ascii ha (key "" _ (fun i h st => let ⟨o, ho, _, hd⟩ := st; ⟨o, _, ho, hd⟩) _ (Walks.strAscii hh _ xt tx) ⟨_, Heap.get?_push_size _ rfl, rfl, rfl⟩)
end
end Mine
end

section
open PySem PySem.W PyProof.Rows PySem.Calls PyProof.V PySem.Spec
set_option maxRecDepth 100000
set_option linter.unusedVariables false
namespace Mine
theorem part16 : True := by
  k_with_none
  w_top off
  exact True.intro


theorem Spec.use {w : World} {mean : ExcName → Option Value} {mg mb : Str → Option Value} {f : Addr} {nd : Nat} {news : Led} {vals : List Value} {R : Value → Led → Prop}
    {dp un : Nat} {gd : Option (List Code)} {cn : Str} {cs : Scope} {a : Addr} {ccd : Value} {cl : List (Str × Addr)} {outer : List Env} {A₀ : Around} {base h₀ : Heap} {L : Addr} {m : Str → Option Value} {s : Shared} {Q E : Value → Shared → Prop}
    (B : Below A₀ base outer h₀) (KT : IntTab pw w base 33 tabD) (F : Fr h₀ L s.heap m) (X : (KK w.params).In h₀) (N : News h₀ L s.heap news) (T : Top qv (looseW qv looseV) mean mg mb h₀) (hk : cs.kind = .function)
    (C : Spec w mean mg mb f nd news vals R) (hd : dp + nd < recursionLimit) (hu : un + 8 * nd < cLine)
    (ret : ∀ (v : Value) (new : Led) (h' : Heap) (tk' : Nat), Fr h₀ L h' m → News h₀ L h' (new ++ news) → R v new → Q v { s with heap := h', toks := tk' }) :
    wpAny (model pw w) (ktrTop dp un gd cn cs L a ccd cl outer) (call (.ref f) vals) Q E s := C _ _ _ _ _ _ _ _ _ _ _ _ _ _ _ _ _ B KT F X N T hk hd hu ret

noncomputable def letOf (c : Nat) : List Int := if b1list.contains (c : Int) then [] else (b3map c).cps.toList.map fun k : Nat => if (16 : Int) < (k : Int) - 97 then 16 else (k : Int) - 97
noncomputable def lettersI (x : List Int) : List Int := x.flatMap fun c => letOf c.toNat
noncomputable def lettersOf (x : Str) : List Int := lettersI (KStt.codes x)


section
variable {prog : Program} {w : World} {A : Around} {E : Value → Shared → Prop} {s₁ : Shared} {h₀ : Heap} {L : Addr} {m : Str → Option Value} {news : Led}
noncomputable def IsIntV (r : Value) (k : Int) : Prop := ∃ t, r = .int k t
theorem ce_built {M : Model} {K : Frag} {p : Program} {loose : List Str} {mean : ExcName → Option Value} {mg mb : Str → Option Value} {s : Shared} {x : Str} {pos : Pos} {v : Value} {Q : Value → Shared → Prop} {scope : Scope} {C : Addr} {env : Env}
    (F : Fr h₀ L s.heap m) (X : K.In h₀) (T : Top p loose mean mg mb h₀) (e : nsIn K mainGlobals x = some none) (hv : bootBuiltins x = some v) (hn : x ≠ "__name__") (h : Q v s) (hg : env.globals = mainGlobals := by rfl) (hb : env.builtins = builtinsNs := by rfl)
    (hk : (compEnv scope C env).scope.kind = .function := by rfl) (hx : (compEnv scope C env).kindOf x = some .globalImplicit := by rfl) (hd : (x == ("__debug__" : Str)) = false := by decide) :
    wpAny M A (eval (.Name x pos) (compEnv scope C env)) Q E s :=
  Name_function_global hk hx (loadGlobal_builtin (env := compEnv scope C env) (show s.heap.Ns env.globals mg from hg ▸ (T.keeps F.keep).g) (mg_none_of X T.g e) (show s.heap.Ns env.builtins mb from hb ▸ (T.keeps F.keep).b) ((T.builtins x hn).trans hv) h) hd
theorem min_K {a b : Int} {t u : Tok} {Q : Value → Shared → Prop} (hh : A.handled = none)
    (h : ∀ h' tk t, (∀ c o, s₁.heap.get? c = some o → h'.get? c = some o) → Q (.int (if b < a then b else a) t) { s₁ with heap := h', toks := tk }) : wpAny (model prog w) A (call (.builtin "min") [.int a t, .int b u]) Q E s₁ :=
  min_two_ints hh fun h' tk hk => by
    by_cases c : b < a
    · rw [if_pos c]; have := h h' tk u hk; rwa [if_pos c] at this
    · rw [if_neg c]; have := h h' tk t hk; rwa [if_neg c] at this
theorem keeps_refl (s : Shared) : Keeps s s := ⟨_, _, rfl, fun _ _ e => e⟩
theorem comp_signs {env : Env} {elt : PySem.Expr} {x : Str} {scope : Scope} {Q : Value → Shared → Prop} {y : Str} {t : Tok} (g : Nat → Int)
    (hh : A.handled = none) (F : Fr h₀ L s₁.heap m) (N : News h₀ L s₁.heap news) (hsz : y.length ≤ sizeLine)
    (g2 : ∀ C c u s₂ m₂ E', c ∈ y.cps.toList → s₂.heap.Ns C m₂ → m₂ x = some (.str ⟨#[c]⟩ u) → Fr h₀ L s₂.heap m → News h₀ L s₂.heap news → wpAny (model prog w) A (eval elt (compEnv scope C env)) (fun r s₃ => IsIntV r (g c) ∧ Keeps s₂ s₃) E' s₂)
    (g3 : ∀ D (ys : List Value) h' tk, Fr h₀ L h' m → News h₀ L h' news → h₀.get? D = none → h'.IsList D ys.toArray → NewPlain h' news D ys.toArray → IntsAre ys (y.cps.toList.map g) → Q (.ref D) { s₁ with heap := h', toks := tk }) :
    wpAny (model prog w) A (pyIter (.str y t)) (CompPost prog w A env scope x [] elt Q) E s₁ := by
  unfold CompPost
  refine wpAny_pyIter_str fun o St W hst => ?_
  have up : ∀ (h' : Heap), (∀ b o', b ∉ [s₁.heap.objs.size] → (s₁.heap.push o).get? b = some o' → h'.get? b = some o') → ∀ b o', s₁.heap.get? b = some o' → h'.get? b = some o' :=
    fun h' hk b o' e => hk b o' (old_not_new e) (Heap.get?_push_of_some _ e)
  refine ⟨ItemKind.str.lift fun _ => true, fun v r => ∃ a, ItemKind.str.is a v ∧ Carried r (.int (g (a.cps.getD 0 0))), s₁.heap.objs.size, [s₁.heap.objs.size], [s₁.heap.objs.size], y.cps.size, SignAt y, St, rfl, W A hh, hsz, hst, ?_, ⟨?_, ?_⟩, ?_⟩
  · intro b hb
    show b < (s₁.heap.push o).objs.size
    rw [Heap.size_push, List.mem_singleton.mp hb]
    exact Nat.lt_succ_self _
  · intro C i v s₃ m₃ E' hP hn hm _ htk
    obtain ⟨c, u, _, rfl⟩ := hP
    have ha : ItemKind.str.is ⟨#[c]⟩ (.str ⟨#[c]⟩ u) := ⟨u, rfl⟩
    rw [ItemKind.lift_is ha]
    exact wpAny_pure ⟨rfl, keeps_refl _⟩
  · intro C i v s₃ m₃ E' hP hp hn hm hkp htk
    obtain ⟨c, u, hc, rfl⟩ := hP
    have ha : ItemKind.str.is ⟨#[c]⟩ (.str ⟨#[c]⟩ u) := ⟨u, rfl⟩
    refine wpAny_mono (g2 C _ _ s₃ m₃ E' (List.mem_of_getElem? (i := i) (by simpa using hc)) hn hm (F.keeps (up _ hkp)) (N.grown (up _ hkp))) (fun r s₄ h₄ => ⟨⟨_, ha, ?_⟩, h₄.2⟩) fun _ _ e => e
    obtain ⟨⟨t', e⟩, _⟩ := h₄
    rw [e]
    exact .int _ _
  · intro D h' tk ys vs hnew hlD hplD hlen hP hF hk
    refine g3 D ys.toList h' tk (F.keeps (up h' hk)) (N.grown (up h' hk)) ?_ (by rw [Array.toArray_toList]; exact hlD) ⟨by rw [Array.toArray_toList]; exact hplD, fun p hp e => by rw [← e, Heap.get?_push_of_some _ (N p hp).1] at hnew; cases hnew⟩ ?_
    · cases e : h₀.get? D with
      | none => rfl
      | some o' => rw [Heap.get?_push_of_some _ (F.keep _ _ e)] at hnew; cases hnew
    · have := ((areOf_signs hlen hP).paired (fun _ => true) (fun a => .int (g (a.cps.getD 0 0))) _ hF).intsOf
      rw [List.filter_eq_self.2 (fun _ _ => rfl)] at this
      simpa [signs, List.map_map, Function.comp_def] using this
end

theorem off_fields {r : Addr} {vs : Array Value} {n : Nat} {news : Led} : ∀ p ∈ (r, W.listOf vs n) :: news, p ∈ news ∨ ∀ f, p.2.data ≠ .fields f := by
  intro p hp
  rcases List.mem_cons.1 hp with rfl | hp
  · exact .inr fun f e => by cases e
  · exact .inl hp

theorem let_push (pre : List Int) (n : Nat) : lettersI (pre ++ [(n : Int)]) = lettersI pre ++ letOf n := by simp [lettersI]
theorem let_len {x : Str} {pre post : List Int} {n : Nat} (e : KStt.codes x = pre ++ (n : Int) :: post) (hz : (lettersOf x).length ≤ 64) : (lettersI pre).length + (letOf n).length ≤ 64 := by
  unfold lettersOf at hz
  rw [e] at hz
  simp only [lettersI, List.flatMap_append, List.flatMap_cons, List.length_append, Int.toNat_natCast] at hz ⊢
  omega
theorem let_skip {news : Led} {r : Addr} {pre : List Int} {n : Nat} {vs : List Value} (ho : ∀ p ∈ news, p.1 < r) (hb : List.contains b1list (n : Int) = true) (hi : IntsAre vs (lettersI pre)) (hz : (lettersI pre).length ≤ 64) : (∀ p ∈ news, p.1 < r) ∧ IntsAre vs (lettersI (pre ++ [(n : Int)])) ∧ (lettersI (pre ++ [(n : Int)])).length ≤ 64 := by
  rw [let_push, letOf, if_pos hb, List.append_nil]; exact ⟨ho, hi, hz⟩
theorem let_turn {news own : Led} {x : Addr × Obj} {r : Addr} (ho : ∀ p ∈ x :: news ++ own, p.1 < r) {pre : List Int} {n : Nat} {vs : List Value} (hb : List.contains b1list (n : Int) = false) (hl : (lettersI pre).length + (letOf n).length ≤ 64)
    (hi : IntsAre vs (lettersI pre ++ (b3map n).cps.toList.map fun k : Nat => if (16 : Int) < (k : Int) - 97 then 16 else (k : Int) - 97)) : (∀ p ∈ news, p.1 < r) ∧ IntsAre vs (lettersI (pre ++ [(n : Int)])) ∧ (lettersI (pre ++ [(n : Int)])).length ≤ 64 := by
  rw [let_push]
  refine ⟨fun p hp => ho p (List.mem_append_left _ (.tail _ hp)), ?_, by rw [List.length_append]; exact hl⟩
  rw [letOf, if_neg (by rw [hb]; decide)]; exact hi
theorem code_mem {x : Str} {pre post : List Int} {n : Nat} (e : KStt.codes x = pre ++ (n : Int) :: post) : n ∈ x.cps.toList := by
  have : (n : Int) ∈ KStt.codes x := by rw [e]; exact List.mem_append_right _ (.head _)
  obtain ⟨c, hc, h⟩ := List.mem_map.1 this
  rw [← Int.ofNat.inj h]; exact hc
set_option maxHeartbeats 4000000 in
theorem spec_letters (w : World) (mean : ExcName → Option Value) (mg mb : Str → Option Value) (news : Led) (x : Str) (t : Tok) (hx : x.cps.size ≤ 64) (hz : (lettersOf x).length ≤ 64) (hb : ∀ c ∈ x.cps.toList, (b3map c).length ≤ 64) :
    Spec w mean mg mb 177 2 news [.str x t] (fun v new => ∃ r vs n, v = .ref r ∧ new = [(r, W.listOf vs n)] ∧ IntsAre vs.toList (lettersOf x) ∧ ∀ p ∈ news, p.1 < r) := by
  unfold Spec
  intro dp un gd cn cs a ccd cl outer A₀ base h₀ L m s Q E B KT F X N T hk hd hu hret
  refine wpAny_call ?_
  k_dflt cell_enter
  k_with_none
  k_with "my call ref" => (k_here; (with_reducible show wpAny _ _ (call (Value.ref 32) [Value.str _ _]) _ _ _); k_dflt (refine' Spec.use ?B ?T ?F ?X ?N ?P ?k (spec_b1 _ _ _ _ _ _ _) ?d ?u ?_; (case F => k_asm); (case B => k_asm); (case T => k_asm); (case X => k_asm); (case N => k_asm); (case P => k_asm); (case k => first | exact rfl | assumption); (case d => ktr_room); (case u => ktr_units); k_whole); intro v9 new9 h9 tk9 F9 N9 R9; obtain ⟨e91, e92⟩ := R9; subst e91; subst e92; (generalize hb9 : List.contains b1list _ = b9 at *); (cases b9) <;> ((try simp only [List.nil_append] at N9); (try dsimp only); (try k_fold)))
  k_with "my call ref" => (k_here; (with_reducible show wpAny _ _ (call (Value.ref 78) [Value.str _ _]) _ _ _); k_dflt (refine' Spec.use ?B ?T ?F ?X ?N ?P ?k (spec_b3 _ _ _ _ _ _ _) ?d ?u ?_; (case F => k_asm); (case B => k_asm); (case T => k_asm); (case X => k_asm); (case N => k_asm); (case P => k_asm); (case k => first | exact rfl | assumption); (case d => ktr_room); (case u => ktr_units); k_whole); intro v9 new9 h9 tk9 F9 N9 R9; obtain ⟨t9, e91, e92⟩ := R9; subst e91; subst e92; (try simp only [List.nil_append] at N9); (try dsimp only); (try k_fold))
  k_with "my pyIter str" => (k_here; (with_reducible show wpAny _ _ (pyIter (Value.str (b3map _) _)) _ _ _); (rename Fr _ _ _ _ => F'); (rename News _ _ _ _ => N'); (with_reducible apply comp_signs (fun k : Nat => if (16 : Int) < (k : Int) - 97 then 16 else (k : Int) - 97)); (case hh => with_unfolding_all rfl); (case F => with_unfolding_all exact F'); (case N => with_unfolding_all exact N'); (case hsz => size_fits); (case' g3 => (intro D9 y9 h9 k9 F9 N9 n9 l9 p9 i9)); (case' g2 => (intro C9 c9 u9 s9 m9 E9 hc9 C9N hx9 F9 N9)))
  k_with "my eval Name" => (k_here; (with_reducible show wpAny _ _ (eval (Expr.Name _ _) (compEnv _ _ _)) _ _ _); k_dflt (first | refine ce_built (by k_asm) (by k_asm) (by k_asm) (by k_is) (by boot_by_name) (by decide) ?_))
  k_with "my call builtin:min" => (k_here; (with_reducible show wpAny _ _ (call (Value.builtin "min") [Value.int _ _, Value.int _ _]) _ _ _); k_dflt (refine' min_K ?h ?_; (case h => with_unfolding_all rfl); k_whole); intro h9 k9 t9 hk9; (try dsimp only))
  k_with "my Keeps" => exact ⟨_, _, rfl, by assumption⟩
  k_with "my kmk_sum" => with_reducible assumption
  k_with "my XEnd" => ((rename News _ _ _ _ => nE'); refine XEnd.intro (_, _, _) (by assumption) nE' (by dsimp only; kst_all) (by dsimp only; first | kst_in | kst_inAny) (by first | (intro p hp; kst_mem) | kst_anyIn) (by dsimp only; kst_same) (by dsimp only; walk_at "my state"))
  k_with "my IsIntV" => exact ⟨_, rfl⟩
  k_with "my XPost" => (dsimp only [XPost])
  k_with "my state" => first | exact let_skip (by assumption) (by assumption) (by assumption) (by assumption) | (exact let_turn (by assumption) (by assumption) (by assumption) (by assumption))
  k_with "pyIter str" => fail
  k_steps
  (rename Fr _ _ _ _ => lF')
  (rename News _ _ _ _ => lN')
  (with_unfolding_all refine' loopX_str news (fun c : Addr × List Value × Nat => (c.1, W.listOf c.2.1.toArray c.2.2) :: news) (fun c => [(Str.ofString "letters", Value.ref c.1)]) [Str.ofString "told"] (fun pre c => (∀ p ∈ news, p.1 < c.1) ∧ IntsAre c.2.1 (lettersI pre) ∧ (lettersI pre).length ≤ 64) ⟨_, [], 0⟩ (by rfl) (fun _ => off_fields) (fun _ hp => .tail _ hp) lF' lN' ?xk ?xp ?_ ?_)
  case xk => kst_all
  case xp => exact ⟨by assumption, .nil, Nat.zero_le _⟩
  all_goals clear lF' lN'
  · rintro ⟨r1, vs1, n1⟩ pre post n2 t2 u2 h2 tk2 own2 e2 ⟨ho2, hi2, hz2⟩ F2 N2
    dsimp only [kstB] at F2 N2 hi2 ho2
    have hl2 := let_len e2 hz
    have hb2 := hb _ (code_mem e2)
    have hs2 : (lettersI pre).length + ((b3map n2).cps.toList.map fun k : Nat => if (16 : Int) < (k : Int) - 97 then 16 else (k : Int) - 97).length ≤ sizeLine := by
      rw [List.length_map, Array.length_toList, sizeLine_eq]; exact Nat.le_trans (Nat.add_le_add hz2 hb2) (by decide)
    k_steps
  · rintro ⟨r1, vs1, n1⟩ u2 h2 tk2 ⟨ho2, hi2, hz2⟩ F2 N2
    dsimp only [kstB] at F2 N2 hi2 ho2
    k_steps
    exact hret _ [_] _ _ (by assumption) (by assumption) ⟨_, _, _, rfl, rfl, hi2, ho2⟩
end Mine
end

section
open PySem PySem.W PyProof.Rows PySem.Calls PyProof.V PySem.Spec
set_option maxRecDepth 100000
set_option linter.unusedVariables false
namespace Mine
theorem part17 : True := by
  k_with_none
  w_top off
  exact True.intro

noncomputable abbrev headsL : List Int := [65, 97, 119808, 119860, 119912, 120016, 120172, 120224, 120276, 120328, 120380, 120432]
noncomputable abbrev unseenL : List Int := [173, 847, 6150, 6155, 6156, 6157, 8203, 8204, 8205, 8288, 65279]
/-- the text so far spells the word's front -/
noncomputable def SpG (wd : List UInt8) (text : Str) (k : Int) : Prop := lettersOf text = (wd.take k.toNat).map (fun b => (b.toNat : Int) - 65) ∧ ∀ c ∈ text.cps.toList, (b3map c).length ≤ 64
noncomputable def LetIs (c : Nat) (l : List Int) : Prop := letOf c = l ∧ (b3map c).length ≤ 64
theorem heads_let : ∀ i < 12, ∀ b < 16, LetIs (headsL.getD i 0 + ((65 + b : Nat) : Int) - 65).toNat [(b : Int)] := by unfold LetIs; decide +kernel
theorem unseen_let : ∀ i < 11, LetIs (unseenL.getD i 0).toNat [] := by unfold LetIs; decide +kernel
theorem late_let : ∀ k < (27 : Nat), 11 ≤ k → LetIs (65013 + (k : Int)).toNat [] := by unfold LetIs; decide +kernel
theorem sign_let : ∀ p ∈ signsL, LetIs p.2.toNat (p.1.map fun b => (b.toNat : Int) - 65) := by unfold LetIs; decide +kernel

theorem codes_app (a b : Str) : KStt.codes (a ++ b) = KStt.codes a ++ KStt.codes b := by
  unfold KStt.codes
  rw [PySem.Str.cps_append, Array.toList_append, List.map_append]
theorem letters_one (text : Str) (c : Nat) : lettersOf (text ++ ⟨#[c]⟩) = lettersOf text ++ letOf c := by
  unfold lettersOf
  rw [codes_app]
  simp [lettersI, KStt.codes]
theorem spG_nil (wd : List UInt8) : SpG wd ⟨#[]⟩ 0 := ⟨rfl, fun c hc => by cases hc⟩
theorem spG_add {wd : List UInt8} {text : Str} {k k' : Int} {c : Nat} {l : List UInt8} (h : SpG wd text k) (hc : LetIs c (l.map fun b => (b.toNat : Int) - 65)) (e : wd.take k'.toNat = wd.take k.toNat ++ l) : SpG wd (text ++ ⟨#[c]⟩) k' := by
  refine ⟨?_, fun d hd => ?_⟩
  · rw [letters_one, h.1, hc.1, e, List.map_append]
  · rw [PySem.Str.cps_append, Array.toList_append] at hd
    rcases List.mem_append.1 hd with hd | hd
    · exact h.2 d hd
    · rw [List.mem_singleton.1 hd]; exact hc.2
theorem spG_none {wd : List UInt8} {text : Str} {k : Int} {c : Nat} (h : SpG wd text k) (hc : LetIs c []) : SpG wd (text ++ ⟨#[c]⟩) k := spG_add (l := []) h hc (by rw [List.append_nil])
end Mine
end

section
open PySem PySem.W PyProof.Rows PySem.Calls PyProof.V PySem.Spec
set_option maxRecDepth 100000
set_option linter.unusedVariables false
namespace Mine
theorem part18 : True := by
  k_with_none
  w_top off
  exact True.intro



theorem list_lift {l : List Int} {P : Int → Prop} (h : ∀ i < l.length, P (l.getD i 0)) {k : Int} (h0 : 0 ≤ k) (h1 : k < l.length) : P (l.getD k.toNat 0) := h _ (by omega)
theorem heads_bd {k : Int} (h0 : 0 ≤ k) (h1 : k < 12) : 65 ≤ headsL.getD k.toNat 0 ∧ headsL.getD k.toNat 0 ≤ 120432 := by
  refine list_lift (P := fun x => 65 ≤ x ∧ x ≤ 120432) (by decide) h0 h1
theorem unseen_bd {k : Int} (h0 : 0 ≤ k) (h1 : k < 11) : 0 ≤ unseenL.getD k.toNat 0 ∧ unseenL.getD k.toNat 0 ≤ 65279 := by
  refine list_lift (P := fun x => 0 ≤ x ∧ x ≤ 65279) (by decide) h0 h1
/-- a word of letters -/
noncomputable def WdOk (wd : List UInt8) : Prop := ∀ i < wd.length, 65 ≤ (wd.getD i 0).toNat ∧ (wd.getD i 0).toNat ≤ 80
theorem wd_at {wd : List UInt8} (hw : WdOk wd) {k : Int} (h0 : 0 ≤ k) (h1 : k < (wd.toArray.size : Int)) : 65 ≤ ((wd.getD k.toNat 0).toNat : Int) ∧ ((wd.getD k.toNat 0).toNat : Int) ≤ 80 := by
  have := hw k.toNat (by rw [List.size_toArray] at h1; omega)
  omega
theorem chr_A {wd : List UInt8} {k j : Int} (hw : WdOk wd) (h0 : 0 ≤ k) (h1 : k < (wd.toArray.size : Int)) (g0 : 0 ≤ j) (g1 : j < 12) : 0 ≤ headsL.getD j.toNat 0 + ((wd.getD k.toNat 0).toNat : Int) - 65 ∧ headsL.getD j.toNat 0 + ((wd.getD k.toNat 0).toNat : Int) - 65 ≤ 1114111 := by
  have := wd_at hw h0 h1
  have := heads_bd g0 g1
  omega
theorem take_one {wd : List UInt8} {k : Int} (h0 : 0 ≤ k) (h1 : k < (wd.toArray.size : Int)) : wd.take (k + 1).toNat = wd.take k.toNat ++ [wd.getD k.toNat 0] := by
  rw [List.size_toArray] at h1
  have hk : k.toNat < wd.length := by omega
  rw [show (k + 1).toNat = k.toNat + 1 by omega, List.take_add_one, List.getElem?_eq_getElem hk]
  simp [List.getD_eq_getElem?_getD, hk]
theorem spA {wd : List UInt8} {text : Str} {k j : Int} (hw : WdOk wd) (h0 : 0 ≤ k) (h1 : k < (wd.toArray.size : Int)) (g0 : 0 ≤ j) (g1 : j < 12) (h : SpG wd text k) :
    SpG wd (text ++ ⟨#[(headsL.getD j.toNat 0 + ((wd.getD k.toNat 0).toNat : Int) - 65).toNat]⟩) (k + 1) := by
  refine spG_add h ?_ (take_one h0 h1)
  obtain ⟨c0, c1⟩ := wd_at hw h0 h1
  generalize wd.getD k.toNat 0 = b at c0 c1 ⊢
  have := heads_let j.toNat (by omega) (b.toNat - 65) (by omega)
  rw [show ((65 + (b.toNat - 65) : Nat) : Int) = (b.toNat : Int) by omega, show ((b.toNat - 65 : Nat) : Int) = (b.toNat : Int) - 65 by omega] at this
  exact this
theorem spC {wd : List UInt8} {text : Str} {k j : Int} (g0 : 0 ≤ j) (g1 : j < 11) (h : SpG wd text k) : SpG wd (text ++ ⟨#[(unseenL.getD j.toNat 0).toNat]⟩) k := spG_none h (unseen_let _ (by omega))
theorem spD {wd : List UInt8} {text : Str} {k j : Int} (g0 : ¬ j < 11) (g1 : j < 27) (h : SpG wd text k) : SpG wd (text ++ ⟨#[(65013 + j).toNat]⟩) k := by
  have := late_let j.toNat (by omega) (by omega)
  rw [show ((j.toNat : Nat) : Int) = j by omega] at this
  exact spG_none h this
theorem spB {wd : List UInt8} {text : Str} {k : Int} {u : List UInt8 × Int} (hu : LetIs u.2.toNat (u.1.map fun b => (b.toNat : Int) - 65)) (h0 : 0 ≤ k)
    (e : (((wd.toArray.toList.drop k.toNat).take ((k + (u.1.toArray.size : Int)).toNat - k.toNat)).toArray.toList == u.1.toArray.toList) = true) (h : SpG wd text k) :
    SpG wd (text ++ ⟨#[u.2.toNat]⟩) (k + (u.1.toArray.size : Int)) ∧ (0 < u.1.length → k + (u.1.toArray.size : Int) ≤ wd.length) := by
  have e' : (wd.drop k.toNat).take ((k + (u.1.toArray.size : Int)).toNat - k.toNat) = u.1 := by simpa using e
  refine ⟨spG_add h hu ?_, fun hp => ?_⟩
  · rw [show (k + (u.1.toArray.size : Int)).toNat = k.toNat + ((k + (u.1.toArray.size : Int)).toNat - k.toNat) by omega, List.take_add, e']
  · have := congrArg List.length e'
    rw [List.length_take, List.length_drop] at this
    rw [List.size_toArray] at this ⊢
    omega
theorem str_one (text : Str) (c : Nat) : (text ++ ⟨#[c]⟩ : Str).length = text.length + 1 := by
  show (text ++ ⟨#[c]⟩ : Str).cps.size = text.cps.size + 1
  rw [PySem.Str.cps_append, Array.size_append]; rfl
noncomputable abbrev SpM (wd : List UInt8) (text : Str) (k n : Int) : Prop := 0 ≤ k ∧ k ≤ (wd.length : Int) ∧ (text.length : Int) ≤ n ∧ SpG wd text k
theorem mA {wd : List UInt8} {text : Str} {k j : Int} (hw : WdOk wd) (h0 : 0 ≤ k) (h1 : k < (wd.toArray.size : Int)) (hn : (text.length : Int) ≤ 2 * k) (g0 : 0 ≤ j) (g1 : j < 12) (h : SpG wd text k) :
    SpM wd (text ++ ⟨#[(headsL.getD j.toNat 0 + ((wd.getD k.toNat 0).toNat : Int) - 65).toNat]⟩) (k + 1) (2 * (k + 1) - 1) := by
  refine ⟨by omega, by rw [List.size_toArray] at h1; omega, by rw [str_one]; omega, spA hw h0 h1 g0 g1 h⟩
theorem mB {wd : List UInt8} {text : Str} {k : Int} {u : List UInt8 × Int} (h0 : 0 ≤ k) (hn : (text.length : Int) ≤ 2 * k) (hp : 0 < u.2) (hu : 0 < u.2 → 0 < u.1.length ∧ LetIs u.2.toNat (u.1.map fun b => (b.toNat : Int) - 65))
    (e : (((wd.toArray.toList.drop k.toNat).take ((k + (u.1.toArray.size : Int)).toNat - k.toNat)).toArray.toList == u.1.toArray.toList) = true) (h : SpG wd text k) :
    SpM wd (text ++ ⟨#[u.2.toNat]⟩) (k + (u.1.toArray.size : Int)) (2 * (k + (u.1.toArray.size : Int)) - 1) := by
  obtain ⟨hu1, hu2⟩ := hu hp
  obtain ⟨r1, r2⟩ := spB hu2 h0 e h
  have := r2 hu1
  rw [List.size_toArray] at this
  refine ⟨by rw [List.size_toArray]; omega, by rw [List.size_toArray]; omega, by rw [str_one, List.size_toArray]; omega, r1⟩
theorem mC {wd : List UInt8} {text : Str} {k n j : Int} (g0 : 0 ≤ j) (g1 : j < 11) (h : SpM wd text k (n - 1)) : SpM wd (text ++ ⟨#[(unseenL.getD j.toNat 0).toNat]⟩) k n :=
  ⟨h.1, h.2.1, by have := h.2.2.1; rw [str_one]; omega, spC g0 g1 h.2.2.2⟩
theorem mD {wd : List UInt8} {text : Str} {k n j : Int} (g0 : ¬ j < 11) (g1 : j < 27) (h : SpM wd text k (n - 1)) : SpM wd (text ++ ⟨#[(65013 + j).toNat]⟩) k n :=
  ⟨h.1, h.2.1, by have := h.2.2.1; rw [str_one]; omega, spD g0 g1 h.2.2.2⟩
theorem mN {wd : List UInt8} {text : Str} {k n : Int} (h : SpM wd text k (n - 1)) : SpM wd text k n := ⟨h.1, h.2.1, by have := h.2.2.1; omega, h.2.2.2⟩
theorem sp_start {wd : List UInt8} : 0 ≤ (0 : Int) ∧ (0 : Int) ≤ (wd.length : Int) ∧ ((⟨#[]⟩ : Str).length : Int) ≤ 2 * 0 ∧ SpG wd ⟨#[]⟩ 0 := ⟨by decide, by omega, by decide, spG_nil wd⟩
theorem sp_end {wd : List UInt8} {text : Str} {k : Int} {t : Tok} (h : ¬ k < (wd.toArray.size : Int)) (h1 : k ≤ (wd.length : Int)) (hn : (text.length : Int) ≤ 2 * k) (hs : SpG wd text k) :
    ∃ x t', Value.str text t = .str x t' ∧ ([] : Led) = [] ∧ SpG wd x wd.length ∧ (x.length : Int) ≤ 2 * wd.length := by
  have e : k = (wd.length : Int) := by rw [List.size_toArray] at h; omega
  subst e
  exact ⟨text, t, rfl, rfl, hs, hn⟩
theorem sp_less1 {wd : List UInt8} {k : Int} (h1 : k < (wd.toArray.size : Int)) : ((wd.length : Int) - (k + 1)).toNat < ((wd.length : Int) - k).toNat := by rw [List.size_toArray] at h1; omega
theorem sp_less2 {wd : List UInt8} {k : Int} {u : List UInt8 × Int} (h1 : k < (wd.toArray.size : Int)) (hp : 0 < u.2) (hu : 0 < u.2 → 0 < u.1.length ∧ LetIs u.2.toNat (u.1.map fun b => (b.toNat : Int) - 65)) :
    ((wd.length : Int) - (k + (u.1.toArray.size : Int))).toNat < ((wd.length : Int) - k).toNat := by
  have := (hu hp).1
  rw [List.size_toArray] at h1 ⊢; omega

section
variable {prog : Program} {w : World} {A : Around} {E : Value → Shared → Prop} {s : Shared} {h₀ : Heap} {L p : Addr} {news : Led} {vs : List Value} {cs : List Int} {n : Nat} {Q : Value → Shared → Prop}
theorem tupJ_item {value slice : PySem.Expr} {k : Int} {u : Tok} (N : News h₀ L s.heap news) (hm : (p, ({ cls := .type "tuple", data := .seq vs.toArray n } : Obj)) ∈ news) (hi : IntsAre vs cs) (hz : cs.length ≤ 64) (h0 : 0 ≤ k) (h1 : k < (cs.length : Int))
    (h : ∀ t, Q (.int (cs.getD k.toNat 0) t) s)
    (hs : subscripted slice false (.ref p) (.int k u) = operate [.ref p, .int k u] (getItem (.ref p) (.int k u)) := by with_unfolding_all rfl) :
    wpAny (model prog w) A (subscriptTail value slice (.ref p) (.int k u)) Q E s := by
  have e : vs.length = cs.length := hi.length
  refine item_tup_any (N.isTup hm) h0 (by rw [e]; exact h1) (by omega) (fun j x hj hlt hx => ?_) hs
  obtain ⟨c, t, hx', hc⟩ := IntsAre.at hi j x hx
  have : cs.getD k.toNat 0 = c := by rw [hj, List.getD_eq_getElem?_getD, hc]; rfl
  subst hx'
  rw [← this]
  exact h t
theorem hide2 {h : Heap} {p q : Addr} {us : List Value} {P : Prop} (N : News h₀ L h ((q, ({ cls := .type "tuple", data := .seq us.toArray } : Obj)) :: (p, ({ cls := .type "tuple", data := .seq vs.toArray } : Obj)) :: news)) (i1 : IntsAre vs headsL) (i2 : IntsAre us unseenL)
    (k : ∀ vs us : List Value, IntsAre vs headsL → IntsAre us unseenL → News h₀ L h ((q, ({ cls := .type "tuple", data := .seq us.toArray } : Obj)) :: (p, ({ cls := .type "tuple", data := .seq vs.toArray } : Obj)) :: news) → P) : P := k vs us i1 i2 N
end
set_option maxHeartbeats 4000000 in
theorem spec_spelled (w : World) (mean : ExcName → Option Value) (mg mb : Str → Option Value) (news : Led) (wd : List UInt8) (u : List UInt8 × Int) (r : Addr) (t1 t2 : Tok) (seed : Int) (t t' : Tok) (hm : (r, uObj u t1 t2) ∈ news)
    (hw : wd.length ≤ 15) (hwd : WdOk wd) (hu1 : u.1.length ≤ 3) (hu2 : 0 ≤ u.2 ∧ u.2 < 65000) (hu3 : 0 < u.2 → 0 < u.1.length ∧ LetIs u.2.toNat (u.1.map fun b => (b.toNat : Int) - 65)) :
    Spec w mean mg mb 172 1 news [.bytes wd.toArray t, .ref r, .int seed t'] (fun v new => ∃ x t, v = .str x t ∧ new = [] ∧ SpG wd x wd.length ∧ (x.length : Int) ≤ 2 * wd.length) := by
  unfold Spec
  intro dp un gd cn cs a ccd cl outer A₀ base h₀ L m s Q E B KT F X N T hk hd hu hret
  have N' := News.dup N hm
  clear N hm
  unfold uObj at N'
  obtain ⟨hu2a, hu2b⟩ := hu2
  refine wpAny_call ?_
  k_dflt cell_enter
  (try k_gentoks)
  (rename Fr _ _ _ _ => F0; replace F0 := (show Fr _ _ _ (fun y => List.lookup y [(Str.ofString "seed", Value.int seed t'), (Str.ofString "unit", Value.ref r), (Str.ofString "word", Value.bytes wd.toArray t)]) from F0))
  k_with_none
  k_with "my num" => first | assumption | omega | exact Nat.le_of_ble_eq_true rfl | (simp only [List.size_toArray, List.length_take, List.length_drop, Array.length_toList, List.length_append, List.length_cons, List.length_nil]; omega)
  k_with "my chr" => first | omega | exact (chr_A (by assumption) (by assumption) (by assumption) (by assumption) (by assumption)).1 | exact (chr_A (by assumption) (by assumption) (by assumption) (by assumption) (by assumption)).2 | exact (unseen_bd (by assumption) (by assumption)).1 | exact Int.le_trans (unseen_bd (by assumption) (by assumption)).2 (by decide)
  k_with "my call builtin:chr" => (k_here; (with_reducible show wpAny _ _ (call (Value.builtin "chr") [Value.int _ _]) _ _ _); (refine chr_of_range (by walk_at "my chr") (by walk_at "my chr") ?_))
  k_with "my subscriptTail" => (k_here; (with_reducible show wpAny _ _ (subscriptTail _ (Expr.Slice _ _ none _) (Value.bytes _ _) (Value.ref _)) _ _ _); (with_reducible rename Fr _ _ _ _ => F'); (with_reducible rename News _ _ _ _ => N'); (refine bslice (s := ⟨_, _, _, _, _⟩) F' N' (by walk_at "my num") (by walk_at "my num") (by walk_at "my num") ?_); intro _ _ _ _ _)
  k_with "my subscriptTail" => (k_here; (with_reducible show wpAny _ _ (subscriptTail _ _ (Value.ref _) (Value.int _ _)) _ _ _); k_dflt (refine' tupJ_item ?jN ?jm ?ji ?jz ?j0 ?j1 ?_ ?js; (case jN => k_asm); (case jm => k_mem); (case ji => with_reducible assumption); (case jz => exact Nat.le_of_ble_eq_true rfl); (case j0 => first | assumption | omega); (case j1 => first | (show _ < (12 : Int); assumption) | (show _ < (11 : Int); assumption) | (show _ < (12 : Int); omega) | (show _ < (11 : Int); omega)); (case js => with_unfolding_all rfl); k_whole); intro t7)
  k_with "my upto while" => (repeat' ((fail_if_success (with_reducible show wpAny _ _ (exec (Stmt.While _ _ _ _) _) _ _ _)); (first | (k_unfold; (try dsimp only)) | (walk1 <;> (try dsimp only)) | (dsimp only; walk1))))
  k_with "measure" => first | with_reducible exact sp_less1 (by with_reducible assumption) | with_reducible exact sp_less2 (by with_reducible assumption) (by with_reducible assumption) (by with_reducible assumption)
  k_with "state" => first | with_reducible exact mC (by with_reducible assumption) (by with_reducible assumption) (mA (by with_reducible assumption) (by with_reducible assumption) (by with_reducible assumption) (by with_reducible assumption) (by with_reducible assumption) (by with_reducible assumption) (by with_reducible assumption)) | with_reducible exact mC (by with_reducible assumption) (by with_reducible assumption) (mB (by with_reducible assumption) (by with_reducible assumption) (by with_reducible assumption) (by with_reducible assumption) (by with_reducible assumption) (by with_reducible assumption)) | with_reducible exact mD (by with_reducible assumption) (by with_reducible assumption) (mA (by with_reducible assumption) (by with_reducible assumption) (by with_reducible assumption) (by with_reducible assumption) (by with_reducible assumption) (by with_reducible assumption) (by with_reducible assumption)) | with_reducible exact mD (by with_reducible assumption) (by with_reducible assumption) (mB (by with_reducible assumption) (by with_reducible assumption) (by with_reducible assumption) (by with_reducible assumption) (by with_reducible assumption) (by with_reducible assumption)) | with_reducible exact mN (mA (by with_reducible assumption) (by with_reducible assumption) (by with_reducible assumption) (by with_reducible assumption) (by with_reducible assumption) (by with_reducible assumption) (by with_reducible assumption)) | with_reducible exact mN (mB (by with_reducible assumption) (by with_reducible assumption) (by with_reducible assumption) (by with_reducible assumption) (by with_reducible assumption) (by with_reducible assumption)) | exact sp_start
  walk_at "my upto while"
  (rename News _ _ _ _ => nT)
  refine hide2 nT (by l_ints) (by l_ints) ?_
  clear nT
  intro hv uv iv1 iv2 nT
  k_while (fun (_ : List Int) text at' seed => 0 ≤ at' ∧ at' ≤ (wd.length : Int) ∧ (text.length : Int) ≤ 2 * at' ∧ SpG wd text at') (fun _ text at' seed => ((wd.length : Int) - at').toNat) "text" "at" "seed"
  (repeat' (first | (k_unfold; (try dsimp only)) | (k_end; wrow_close) | (walk1 <;> (try dsimp only)) | (dsimp only; walk1) | (leave1; (try dsimp only)) | fail "no step"))
  exact hret _ [] _ _ (by assumption) (cb_drop (by assumption) (by kcj_all)) (sp_end (by assumption) (by assumption) (by assumption) (by assumption))
end Mine
end

section
open PySem PySem.W PyProof.Rows PySem.Calls PyProof.V PySem.Spec
set_option maxRecDepth 100000
set_option linter.unusedVariables false
namespace Mine
theorem part19 : True := by
  k_with_none
  w_top off
  exact True.intro


/-- what a unit must be -/
noncomputable def UOk (u : List UInt8 × Int) : Prop := u.1.length ≤ 3 ∧ (0 ≤ u.2 ∧ u.2 < 65000) ∧ (0 < u.2 → 0 < u.1.length ∧ LetIs u.2.toNat (u.1.map fun b => (b.toNat : Int) - 65))
/-- a number's letters -/
noncomputable def ltr (n : Int) : List Int := (apOf n.toNat).map fun b => (b.toNat : Int) - 65
theorem wdOk_nil : WdOk [] := fun i h => absurd h (Nat.not_lt_zero _)
theorem wdOk_ap (n : Nat) : WdOk (apOf n) := by
  induction n using Nat.strongRecOn with
  | ind n ih =>
    by_cases h : n = 0
    · subst h; rw [apOf_zero]; exact wdOk_nil
    · have hd := ih (n / 16) (by omega)
      rw [apOf_pos h]
      intro i hi
      rw [List.getD_eq_getElem?_getD, List.getElem?_append]
      by_cases hl : i < (apOf (n / 16)).length
      · rw [if_pos hl, ← List.getD_eq_getElem?_getD]; exact hd i hl
      · rw [if_neg hl]
        have e : i - (apOf (n / 16)).length = 0 := by rw [List.length_append] at hi; simp at hi; omega
        rw [e]
        have : ∀ k, k < 16 → 65 ≤ (UInt8.ofNat (65 + k)).toNat ∧ (UInt8.ofNat (65 + k)).toNat ≤ 80 := by decide
        exact this (n % 16) (Nat.mod_lt _ (by decide))
theorem ltr_len {n : Int} (h : n < 2 ^ 60) : (ltr n).length ≤ 15 := by
  rw [ltr, List.length_map]; exact apOf_len15 (by omega)
theorem spG_end {wd : List UInt8} {x : Str} (h : SpG wd x wd.length) : lettersOf x = wd.map fun b => (b.toNat : Int) - 65 := by
  rw [h.1]; simp

theorem read_end {vs : List Value} {x : Str} {l : List Int} (e : lettersOf x = l) (h : IntsAre vs (lettersOf x)) : IntsAre vs l := e ▸ h

set_option maxHeartbeats 4000000 in
theorem spec_read (w : World) (mean : ExcName → Option Value) (mg mb : Str → Option Value) (news : Led) (n : Int) (u : List UInt8 × Int) (r : Addr) (t1 t2 : Tok) (seed : Int) (t t' : Tok) (hm : (r, uObj u t1 t2) ∈ news)
    (h0 : 0 ≤ n) (hn : n < 2 ^ 60) (hu : UOk u) :
    Spec w mean mg mb 184 3 news [.int n t, .ref r, .int seed t'] (fun v new => ∃ (r : Addr) (vs : List Value) (k : Nat), v = .ref r ∧ new = [(r, W.listOf vs.toArray k)] ∧ IntsAre vs (ltr n) ∧ ∀ p ∈ news, p.1 < r) := by
  obtain ⟨n, rfl⟩ := Int.eq_ofNat_of_zero_le h0
  have hn' : n < 2 ^ 60 := by omega
  have hl : (apOf n).length ≤ 15 := apOf_len15 hn'
  have hw := wdOk_ap n
  obtain ⟨hu1, hu2, hu3⟩ := hu
  unfold Spec
  intro dp un gd cn cs a ccd cl outer A₀ base h₀ L m s Q E B KT F X N T hk hd hu hret
  clear h0 hn
  refine wpAny_call ?_
  k_dflt cell_enter
  k_with_none
  k_with "my call ref" => (k_here; (with_reducible show wpAny _ _ (call (Value.ref 85) [Value.int _ _]) _ _ _); k_dflt (refine' Spec.use ?B ?T ?F ?X ?N ?P ?k (spec_ap _ _ _ _ _ _ (by assumption) _) ?d ?u ?_; (case F => k_asm); (case B => k_asm); (case T => k_asm); (case X => k_asm); (case N => k_asm); (case P => k_asm); (case k => first | exact rfl | assumption); (case d => ktr_room); (case u => ktr_units); k_whole); intro v9 new9 h9 tk9 F9 N9 R9; obtain ⟨t9, e91, e92⟩ := R9; subst e91; subst e92; ((try simp only [List.nil_append] at N9); (try dsimp only); (try k_fold)))
  k_with "my call ref" => (k_here; (with_reducible show wpAny _ _ (call (Value.ref 172) [Value.bytes _ _, Value.ref _, Value.int _ _]) _ _ _); k_dflt (refine' Spec.use ?B ?T ?F ?X ?N ?P ?k (spec_spelled _ _ _ _ _ _ _ _ _ _ _ _ _ (by assumption) (by assumption) (by assumption) (by assumption) (by assumption) (by assumption)) ?d ?u ?_; (case F => k_asm); (case B => k_asm); (case T => k_asm); (case X => k_asm); (case N => k_asm); (case P => k_asm); (case k => first | exact rfl | assumption); (case d => ktr_room); (case u => ktr_units); k_whole); intro v9 new9 h9 tk9 F9 N9 R9; obtain ⟨x9, t9, e91, e92, g9, l9⟩ := R9; subst e91; subst e92; have q9 := spG_end g9; have b9 := g9.2; ((try simp only [List.nil_append] at N9); (try dsimp only); (try k_fold)))
  k_with "my let" => first | assumption | (simp only [PySem.Str.length] at *; omega)
  k_with "my call ref" => (k_here; (with_reducible show wpAny _ _ (call (Value.ref 177) [Value.str _ _]) _ _ _); k_dflt (refine' Spec.use ?B ?T ?F ?X ?N ?P ?k (spec_letters _ _ _ _ _ _ _ (by walk_at "my let") (by rw [‹lettersOf _ = _›, List.length_map]; omega) (by assumption)) ?d ?u ?_; (case F => k_asm); (case B => k_asm); (case T => k_asm); (case X => k_asm); (case N => k_asm); (case P => k_asm); (case k => first | exact rfl | assumption); (case d => ktr_room); (case u => ktr_units); k_whole); intro v9 new9 h9 tk9 F9 N9 R9; obtain ⟨r9, vs9, n9, e91, e92, i9, o9⟩ := R9; subst e91; subst e92; ((try simp only [List.nil_append, List.cons_append] at N9); (try dsimp only); (try k_fold)))
  k_steps
  exact hret _ [_] _ _ (by assumption) (by assumption) ⟨_, Array.toList _, _, rfl, by rw [Array.toArray_toList], read_end (by assumption) (by assumption), by assumption⟩
end Mine
end

section
open PySem PySem.W PyProof.Rows
set_option maxRecDepth 100000
set_option linter.unusedVariables false
namespace Mine

noncomputable def repU (U : List Int) (k : Nat) : List Int := (List.replicate k U).flatten
noncomputable def Dig (ds : List Int) : Prop := ∀ d ∈ ds, 0 ≤ d ∧ d ≤ 15
noncomputable def Lead (ds : List Int) : Prop := ∀ d, ds.head? = some d → 1 ≤ d
theorem num_go (ds : List Int) : ∀ a, ds.foldl (fun a x => 16 * a + x) a = a * 16 ^ ds.length + numOf ds := by
  induction ds with
  | nil => intro a; simp [numOf]
  | cons d ds ih =>
    intro a
    rw [show numOf (d :: ds) = ds.foldl (fun a x => 16 * a + x) (16 * 0 + d) from rfl, ih (16 * 0 + d), List.foldl_cons, ih, List.length_cons, Int.pow_succ]
    have : (16 * a + d) * 16 ^ ds.length = a * (16 ^ ds.length * 16) + d * 16 ^ ds.length := by
      rw [Int.add_mul, Int.mul_comm 16 a, Int.mul_assoc, Int.mul_comm 16]
    rw [this]; simp only [Int.mul_zero, Int.zero_add]; rw [Int.add_assoc]
theorem num_app (a b : List Int) : numOf (a ++ b) = numOf a * 16 ^ b.length + numOf b := by
  rw [numOf, List.foldl_append]; exact num_go b _
theorem num_nil : numOf [] = 0 := rfl
theorem num_cons (d : Int) (ds : List Int) : numOf (d :: ds) = d * 16 ^ ds.length + numOf ds := by
  have := num_app [d] ds
  simpa [numOf] using this
theorem pow_pos16 (n : Nat) : (0 : Int) < 16 ^ n := Int.pow_pos (by decide)
theorem num_bd {ds : List Int} (h : Dig ds) : 0 ≤ numOf ds ∧ numOf ds < 16 ^ ds.length := by
  induction ds with
  | nil => rw [num_nil]; exact ⟨by decide, by decide⟩
  | cons d ds ih =>
    obtain ⟨h1, h2⟩ := ih fun e he => h e (.tail _ he)
    obtain ⟨d1, d2⟩ := h d (.head _)
    rw [num_cons, List.length_cons, Int.pow_succ]
    have hp := pow_pos16 ds.length
    have e1 : 0 ≤ d * 16 ^ ds.length := Int.mul_nonneg d1 (Int.le_of_lt hp)
    have e2 : d * 16 ^ ds.length ≤ 15 * 16 ^ ds.length := Int.mul_le_mul_of_nonneg_right d2 (Int.le_of_lt hp)
    omega
theorem num_pos {ds : List Int} (h : Dig ds) (hl : Lead ds) (hn : ds ≠ []) : 0 < numOf ds := by
  cases ds with
  | nil => exact absurd rfl hn
  | cons d ds =>
    have h1 := (num_bd (ds := ds) fun e he => h e (.tail _ he)).1
    have d1 := hl d rfl
    rw [num_cons]
    have hp := pow_pos16 ds.length
    have e2 : 1 * 16 ^ ds.length ≤ d * 16 ^ ds.length := Int.mul_le_mul_of_nonneg_right d1 (Int.le_of_lt hp)
    omega
theorem rep_zero (U : List Int) : repU U 0 = [] := rfl
theorem rep_add (U : List Int) (i j : Nat) : repU U (i + j) = repU U i ++ repU U j := by
  rw [repU, ← List.replicate_append_replicate, List.flatten_append]; rfl
theorem rep_one (U : List Int) : repU U 1 = U := by simp [repU]
theorem rep_len (U : List Int) (k : Nat) : (repU U k).length = k * U.length := by simp [repU]
theorem rep_dig {U : List Int} (h : Dig U) (k : Nat) : Dig (repU U k) := by
  intro d hd
  simp only [repU, List.mem_flatten, List.mem_replicate] at hd
  obtain ⟨l, ⟨_, rfl⟩, hd⟩ := hd
  exact h d hd
theorem rep_lead {U : List Int} (h : Lead U) (hn : U ≠ []) (k : Nat) : Lead (repU U k) := by
  cases k with
  | zero => intro d hd; cases hd
  | succ k =>
    rw [Nat.add_comm, rep_add, rep_one]
    intro d hd
    cases U with
    | nil => exact absurd rfl hn
    | cons a U => exact h d hd
theorem rep_ne {U : List Int} (hn : U ≠ []) {k : Nat} (hk : 0 < k) : repU U k ≠ [] := by
  intro e
  have := congrArg List.length e
  rw [rep_len] at this
  have h2 : 0 < U.length := List.length_pos_iff.2 hn
  have := Nat.mul_pos hk h2
  simp only [List.length_nil] at *; omega

structure Unit3 (U : List Int) : Prop where
  dig : Dig U
  lead : Lead U
  ne : U ≠ []
  len : U.length ≤ 3
noncomputable def numR (U : List Int) (k : Nat) : Int := numOf (repU U k)
theorem numR_zero (U : List Int) : numR U 0 = 0 := rfl
theorem numR_pos {U : List Int} (h : Unit3 U) {k : Nat} (hk : 0 < k) : 0 < numR U k := num_pos (rep_dig h.dig k) (rep_lead h.lead h.ne k) (rep_ne h.ne hk)
theorem numR_nonneg {U : List Int} (h : Unit3 U) (k : Nat) : 0 ≤ numR U k := (num_bd (rep_dig h.dig k)).1
theorem numR_pos_iff {U : List Int} (h : Unit3 U) (k : Nat) : 0 < numR U k ↔ 0 < k := by
  constructor
  · intro p
    rcases Nat.eq_zero_or_pos k with rfl | hk
    · rw [numR_zero] at p; omega
    · exact hk
  · exact numR_pos h
theorem numR_lt {U : List Int} (h : Unit3 U) {k : Nat} (hk : k ≤ 4) : numR U k < 2 ^ 60 := by
  have h1 := (num_bd (rep_dig h.dig k)).2
  rw [rep_len] at h1
  have h2 : k * U.length ≤ 12 := Nat.mul_le_mul hk h.len
  have h3 : (16 : Int) ^ (k * U.length) ≤ 16 ^ 12 := by
    have : (16 : Nat) ^ (k * U.length) ≤ 16 ^ 12 := Nat.pow_le_pow_right (by decide) h2
    exact_mod_cast this
  have h4 : (16 : Int) ^ 12 < 2 ^ 60 := by decide
  show numOf _ < _
  omega
theorem numR_mod {U : List Int} (h : Unit3 U) {j : Nat} (hj : 0 < j) (i : Nat) : (numR U i) % (numR U j) = numR U (i % j) := by
  induction i using Nat.strongRecOn with
  | ind i ih =>
    by_cases hi : i < j
    · rw [Nat.mod_eq_of_lt hi]
      refine Int.emod_eq_of_lt (numR_nonneg h i) ?_
      have e : numR U j = numR U (j - i) * 16 ^ (repU U i).length + numR U i := by
        rw [numR, show j = (j - i) + i by omega, rep_add, num_app, Nat.add_sub_cancel]; rfl
      have h1 := numR_pos h (k := j - i) (by omega)
      have hp := pow_pos16 (repU U i).length
      have := Int.mul_pos h1 hp
      omega
    · have e : numR U i = numR U j * 16 ^ (repU U (i - j)).length + numR U (i - j) := by
        rw [numR, show i = j + (i - j) by omega, rep_add, num_app, Nat.add_sub_cancel_left]; rfl
      rw [e, Int.add_comm, Int.add_mul_emod_self_left, ih (i - j) (by omega), Nat.mod_eq_sub_mod (Nat.not_lt.1 hi)]

theorem ltr_num {ds : List Int} (h : Dig ds) (hl : Lead ds) : ltr (numOf ds) = ds := by
  have key : ∀ (n : Nat) (ds : List Int), ds.length = n → Dig ds → Lead ds → ltr (numOf ds) = ds := by
    intro n
    induction n with
    | zero => intro ds hn _ _; obtain rfl := List.length_eq_zero_iff.1 hn; rw [num_nil, ltr]; rw [show ((0 : Int)).toNat = 0 from rfl, apOf_zero]; rfl
    | succ n ih =>
      intro ds hn h hl
      have hne : ds ≠ [] := by rintro rfl; cases hn
      obtain ⟨es, d, rfl⟩ : ∃ es d, ds = es ++ [d] := ⟨ds.dropLast, ds.getLast hne, (List.dropLast_concat_getLast hne).symm⟩
      have hd := h d (by simp)
      have hes : Dig es := fun e he => h e (List.mem_append_left _ he)
      have hle : Lead es := by
        intro e he
        cases es with
        | nil => cases he
        | cons a es => exact hl e he
      have p := num_pos h hl hne
      have ihs := ih es (by simpa using hn) hes hle
      have b := num_bd hes
      rw [num_push] at p ⊢
      have e1 : (16 * numOf es + d).toNat / 16 = (numOf es).toNat := by omega
      have e2 : (16 * numOf es + d).toNat % 16 = d.toNat := by omega
      rw [ltr, apOf_pos (by omega), e1, e2, List.map_append]
      congr 1
      have : ∀ k, k < 16 → ((UInt8.ofNat (65 + k)).toNat : Int) - 65 = (k : Int) := by decide
      simp only [List.map_cons, List.map_nil, List.cons.injEq, and_true]
      rw [this d.toNat (by omega)]; omega
  exact key _ ds rfl h hl
theorem ltr_rep {U : List Int} (h : Unit3 U) (k : Nat) : ltr (numR U k) = repU U k := ltr_num (rep_dig h.dig k) (rep_lead h.lead h.ne k)

/-- the unit's letters -/
noncomputable def letU (y : Int) : List Int := (unitOf y).1.map fun b => (b.toNat : Int) - 65
theorem u_case0 : ∀ k < 15, UOk ([66 + (k : Nat)].map (fun n => Nat.toUInt8 n), 0) ∧ Dig ((([66 + (k : Nat)].map (fun n => Nat.toUInt8 n))).map fun b => (b.toNat : Int) - 65) ∧ 1 ≤ (((66 + (k : Nat)).toUInt8.toNat : Int) - 65) := by
  unfold UOk Dig LetIs; decide
theorem sign_ok : ∀ p ∈ signsL, p.1.length ≤ 3 ∧ 0 < p.1.length ∧ (0 ≤ p.2 ∧ p.2 < 65000) ∧ (∀ d ∈ p.1.map (fun b => (b.toNat : Int) - 65), 0 ≤ d ∧ d ≤ 15) ∧ 1 ≤ (p.1.map (fun b => (b.toNat : Int) - 65)).headD 0 := by decide
theorem oct_dig {k : Nat} (h : k < 16) : (((65 + (k : Int)).toNat.toUInt8).toNat : Int) - 65 = k := by
  have : ∀ k < 16, (((65 + (k : Nat)).toUInt8).toNat : Int) - 65 = k := by decide
  have e := this k h
  rwa [show (65 + (k : Int)).toNat = 65 + k by omega]
theorem lead_cons {d : Int} {ds : List Int} (h : 1 ≤ d) : Lead (d :: ds) := fun e he => by cases he; exact h
theorem unit_ok (y : Int) : UOk (unitOf y) ∧ Unit3 (letU y) := by
  have nz : ∀ {P : Prop}, ((0 : Int) < 0 → P) := fun h => absurd h (by decide)
  by_cases h0 : y.fmod 3 = 0
  · obtain ⟨a0, a1⟩ := fm_bd (y.fdiv 3) (k := 15) (by decide)
    have e : letU y = [(y.fdiv 3).fmod 15 + 1] := by
      rw [letU, unit_0 h0]
      have := oct_dig (k := ((y.fdiv 3).fmod 15).toNat + 1) (by omega)
      simp only [List.map_cons, List.map_nil]
      rw [show 66 + (y.fdiv 3).fmod 15 = 65 + (((((y.fdiv 3).fmod 15).toNat + 1 : Nat)) : Int) by omega, this]; simp; omega
    refine ⟨?_, ?_⟩
    · rw [unit_0 h0]; exact ⟨by simp, ⟨Int.le_refl 0, (by decide : (0 : Int) < 65000)⟩, nz⟩
    · rw [e]; exact ⟨by intro d hd; simp at hd; omega, lead_cons (by omega), by simp, by simp⟩
  · by_cases h1 : y.fmod 3 = 1
    · obtain ⟨a0, a1⟩ := fm_bd (y.fdiv 3) (k := 15) (by decide)
      obtain ⟨b0, b1⟩ := fm_bd (y.fdiv 45) (k := 16) (by decide)
      have e : letU y = [(y.fdiv 3).fmod 15 + 1, (y.fdiv 45).fmod 16] := by
        rw [letU, unit_1 h0 h1]
        have := oct_dig (k := ((y.fdiv 3).fmod 15).toNat + 1) (by omega)
        have h2 := oct_dig (k := ((y.fdiv 45).fmod 16).toNat) (by omega)
        simp only [List.map_cons, List.map_nil]
        rw [show 66 + (y.fdiv 3).fmod 15 = 65 + (((((y.fdiv 3).fmod 15).toNat + 1 : Nat)) : Int) by omega, this]
        rw [show 65 + (y.fdiv 45).fmod 16 = 65 + (((((y.fdiv 45).fmod 16).toNat : Nat)) : Int) by omega, h2]
        congr 1
        · omega
        · congr 1; omega
      refine ⟨?_, ?_⟩
      · rw [unit_1 h0 h1]; exact ⟨by simp, ⟨Int.le_refl 0, (by decide : (0 : Int) < 65000)⟩, nz⟩
      · rw [e]; exact ⟨by intro d hd; simp at hd; omega, lead_cons (by omega), by simp, by simp⟩
    · obtain ⟨a0, a1⟩ := fm_bd (y.fdiv 3) (k := 19) (by decide)
      have e := unit_2 h0 h1 (j := ((y.fdiv 3).fmod 19).toNat) rfl
      have hm : unitOf y ∈ signsL := by
        rw [e, List.getD_eq_getElem?_getD, List.getElem?_eq_getElem (show _ < signsL.length by show _ < 19; omega)]
        exact List.getElem_mem _
      obtain ⟨c1, c2, c3, c4, c5⟩ := sign_ok _ hm
      refine ⟨⟨c1, c3, fun _ => ⟨c2, sign_let _ hm⟩⟩, ⟨c4, ?_, ?_, ?_⟩⟩
      · intro d hd
        have : (letU y).headD 0 = d := by
          cases hu : letU y with
          | nil => rw [hu] at hd; cases hd
          | cons a l => rw [hu] at hd; cases hd; rfl
        rw [← this]; exact c5
      · intro hu
        have := congrArg List.length hu
        simp only [letU, List.length_map, List.length_nil] at this; omega
      · simp only [letU, List.length_map]; exact c1
end Mine
end

section
open PySem PySem.W PyProof.Rows PySem.Calls PyProof.V PySem.Spec
set_option maxRecDepth 100000
set_option linter.unusedVariables false
namespace Mine
theorem part21 : True := by
  k_with_none
  w_top off
  exact True.intro


/-- the loop's word -/
structure LastSt (U : List Int) (g : Nat) (va : List Value) (a : Int) (vb : List Value) (b : Int) : Prop where
  here : ∃ i j, a = numR U i ∧ b = numR U j ∧ 1 ≤ i ∧ i ≤ 4 ∧ j ≤ 4 ∧ Nat.gcd i j = g ∧ IntsAre va (repU U i) ∧ IntsAre vb (repU U j)
theorem last_start {U : List Int} {i j : Nat} {va vb : List Value} (hi : 1 ≤ i) (hi' : i ≤ 4) (hj : j ≤ 4) (ha : IntsAre va (repU U i)) (hb : IntsAre vb (repU U j)) : LastSt U (Nat.gcd i j) va (numR U i) vb (numR U j) :=
  ⟨i, j, rfl, rfl, hi, hi', hj, rfl, ha, hb⟩
theorem last_end {U : List Int} (hU : Unit3 U) {g : Nat} {va vb : List Value} {a b : Int} (h : LastSt U g va a vb b) (hz : ¬ b > 0) : a = numR U g ∧ 1 ≤ g ∧ g ≤ 4 ∧ IntsAre va (repU U g) := by
  obtain ⟨i, j, rfl, rfl, h1, h2, h3, rfl, h4, h5⟩ := h
  have : j = 0 := by
    have := (numR_pos_iff hU j).2
    omega
  subst this
  rw [Nat.gcd_zero_right]
  exact ⟨rfl, h1, h2, h4⟩
theorem last_rest {U : List Int} (hU : Unit3 U) {g : Nat} {va vb : List Value} {a b : Int} (h : LastSt U g va a vb b) : 0 ≤ a.fmod b ∧ a.fmod b < 2 ^ 60 := by
  obtain ⟨i, j, rfl, rfl, h1, h2, h3, rfl, h4, h5⟩ := h
  rw [Int.fmod_eq_emod_of_nonneg _ (numR_nonneg hU j)]
  rcases Nat.eq_zero_or_pos j with rfl | hj
  · rw [numR_zero, Int.emod_zero]; exact ⟨numR_nonneg hU i, numR_lt hU h2⟩
  · rw [numR_mod hU hj]
    exact ⟨numR_nonneg hU _, numR_lt hU (by have := Nat.mod_lt i hj; omega)⟩
theorem last_turn {U : List Int} (hU : Unit3 U) {g : Nat} {va vb vc : List Value} {a b : Int} (h : LastSt U g va a vb b) (hp : b > 0) (hc : IntsAre vc (ltr (a.fmod b))) : LastSt U g vb b vc (a.fmod b) := by
  obtain ⟨i, j, rfl, rfl, h1, h2, h3, rfl, h4, h5⟩ := h
  have hj := (numR_pos_iff hU j).1 hp
  rw [Int.fmod_eq_emod_of_nonneg _ (numR_nonneg hU j), numR_mod hU hj] at hc ⊢
  rw [ltr_rep hU] at hc
  exact ⟨j, i % j, rfl, rfl, hj, h3, by have := Nat.mod_lt i hj; omega, by rw [Nat.gcd_comm, ← Nat.gcd_rec, Nat.gcd_comm], h5, hc⟩
theorem last_less {U : List Int} (hU : Unit3 U) {g : Nat} {va vb : List Value} {a b : Int} (h : LastSt U g va a vb b) (hp : b > 0) : (a.fmod b).toNat < b.toNat := by
  have := fm_bd a hp
  omega
theorem rep_take (U : List Int) {i k : Nat} (h : k ≤ i) : (repU U i).take (k * U.length) = repU U k := by
  rw [show i = k + (i - k) by omega, rep_add, ← rep_len U k, List.take_left']; rfl
theorem last_view {U : List Int} (hU : Unit3 U) {g : Nat} {va vb : List Value} {a b : Int} (h : LastSt U g va a vb b) : ∃ xs ys, IntsAre va xs ∧ IntsAre vb ys ∧ xs.length ≤ 12 ∧ ys.length ≤ 12 ∧ (b > 0 → 0 < ys.length ∧ xs.take (xs.length % ys.length) = ltr (a.fmod b)) := by
  obtain ⟨i, j, rfl, rfl, h1, h2, h3, rfl, h4, h5⟩ := h
  have l := hU.len
  refine ⟨_, _, h4, h5, by rw [rep_len]; exact Nat.mul_le_mul h2 l, by rw [rep_len]; exact Nat.mul_le_mul h3 l, fun hp => ?_⟩
  have hj := (numR_pos_iff hU j).1 hp
  refine ⟨by rw [rep_len]; exact Nat.mul_pos hj (List.length_pos_iff.2 hU.ne), ?_⟩
  rw [Int.fmod_eq_emod_of_nonneg _ (numR_nonneg hU j), numR_mod hU hj, ltr_rep hU, rep_len, rep_len, Nat.mul_mod_mul_right]
  exact rep_take U (Nat.mod_le i j)
theorem News.ne_it {h₀ h : Heap} {L a b : Addr} {news : Led} {vs : Array Value} {n : Nat} {x y : Int} (N : News h₀ L h news) (h1 : (a, W.listOf vs n) ∈ news) (h2 : (b, itR x y) ∈ news) : a ≠ b := fun e => by
  have q1 := (N _ h1).1
  have q2 := (N _ h2).1
  dsimp only at q1 q2
  rw [e, q2] at q1
  have q3 := congrArg Obj.cls (Option.some.inj q1)
  have q4 : (Value.type "range_iterator") = Value.type "list" := q3
  injection q4 with q5
  exact absurd q5 (by decide)

structure QIs (xs ys : List Int) (q : Nat) : Prop where
  eq : q = xs.length % ys.length
theorem q_of {xs ys : List Int} : ∃ q : Nat, ((xs.length : Int).fmod (ys.length : Int)) = (q : Int) ∧ QIs xs ys q ∧ (ys.length ≤ 12 → 0 < ys.length → q ≤ 12) := by
  refine ⟨xs.length % ys.length, ?_, ⟨rfl⟩, fun h hp => ?_⟩
  · rw [Int.fmod_eq_emod_of_nonneg _ (Int.natCast_nonneg _)]; rfl
  · have := Nat.mod_lt xs.length hp; omega
structure LenPos (a b : Int) (xs ys : List Int) : Prop where
  pos : b > 0 → 0 < ys.length
  cut : b > 0 → xs.take (xs.length % ys.length) = ltr (a.fmod b)
theorem len_ne {a b : Int} {xs ys : List Int} (h : LenPos a b xs ys) (hp : b > 0) : (ys.length : Int) ≠ 0 := by have := h.pos hp; omega
theorem mod_len {prog : Program} {w : World} {A : Around} {E : Value → Shared → Prop} {s : Shared} {xs ys : List Int} {a b : Int} {t u : Tok} {Q : Value → Shared → Prop} (hL : LenPos a b xs ys) (hb : b > 0) (h12 : ys.length ≤ 12)
    (h : ∀ q : Nat, QIs xs ys q → q ≤ 12 → Q (.int (q : Int) s.toks) { s with toks := s.toks + 1 }) : wpAny (model prog w) A (binaryOp .Mod (.int (xs.length : Int) t) (.int (ys.length : Int) u)) Q E s := by
  refine mod_int' (len_ne hL hb) ?_
  obtain ⟨q, e, hq, hl⟩ := q_of (xs := xs) (ys := ys)
  rw [e]
  exact h q hq (hl h12 (hL.pos hb))
theorem ne_last {prog : Program} {w : World} {A : Around} {E : Value → Shared → Prop} {s : Shared} {h₀ : Heap} {L : Addr} {news : Led} {p q : Addr} {us ws : List Value} {n k j : Nat} {xs ys : List Int} {a b : Int} {Q : Value → Shared → Prop} (N : News h₀ L s.heap news) (m1 : (p, W.listOf us.toArray n) ∈ news) (m2 : (q, W.listOf ws.toArray k) ∈ news)
    (i1 : IntsAre us (ltr (a.fmod b))) (i2 : IntsAre ws (xs.take ((j : Nat) : Int).toNat)) (hQ : QIs xs ys j) (hL : LenPos a b xs ys) (hb : b > 0) (hu : A.units + 64 < cLine) (h : Q (.bool false) s) : wpAny (model prog w) A (compareOp .NotEq (.ref p) (.ref q)) Q E s := by
  refine ne_intsK (N.isList m1) i1 (N.isList m2) i2 hu ?_
  have e : ltr (a.fmod b) = xs.take ((j : Nat) : Int).toNat := by
    rw [← hL.cut hb, Int.toNat_natCast, hQ.eq]
  rw [decide_eq_true e]
  exact h

noncomputable abbrev LSt := Addr × List Value × Nat × Addr × List Value × Nat × Int × Int × Int × Tok × Tok × Tok
noncomputable abbrev lLed (base : Led) (c : LSt) : Led := (c.1, W.listOf c.2.1.toArray c.2.2.1) :: (c.2.2.2.1, W.listOf c.2.2.2.2.1.toArray c.2.2.2.2.2.1) :: base
noncomputable abbrev lPs (c : LSt) : List (Str × Value) := [(Str.ofString "here", .int c.2.2.2.2.2.2.1 c.2.2.2.2.2.2.2.2.2.1), (Str.ofString "letters", .ref c.1), (Str.ofString "other", .int c.2.2.2.2.2.2.2.1 c.2.2.2.2.2.2.2.2.2.2.1), (Str.ofString "behind", .ref c.2.2.2.1), (Str.ofString "seed", .int c.2.2.2.2.2.2.2.2.1 c.2.2.2.2.2.2.2.2.2.2.2)]
noncomputable abbrev lP (U : List Int) (g : Nat) (c : LSt) : Prop := LastSt U g c.2.1 c.2.2.2.2.2.2.1 c.2.2.2.2.1 c.2.2.2.2.2.2.2.1

theorem News.ledOf {h₀ h : Heap} {L : Addr} {l : Led} (N : News h₀ L h l) : ∃ b, b = l := ⟨l, rfl⟩
set_option maxHeartbeats 4000000 in
theorem spec_last (w : World) (mean : ExcName → Option Value) (mg mb : Str → Option Value) (news : Led) (U : List Int) (hU : Unit3 U) (i0 i1 i2 : Nat) (hi0 : 1 ≤ i0 ∧ i0 ≤ 4) (hi1 : i1 ≤ 4) (hi2 : i2 ≤ 4)
    (rn rw r0 r1 r2 r : Addr) (a0 a1 a2 : Tok) (kn kw k0 k1 k2 : Nat) (v0 v1 v2 : List Value) (u : List UInt8 × Int) (t1 t2 : Tok) (seed : Int) (t : Tok)
    (hn : (rn, W.listOf #[.int (numR U i0) a0, .int (numR U i1) a1, .int (numR U i2) a2] kn) ∈ news) (hw : (rw, W.listOf #[.ref r0, .ref r1, .ref r2] kw) ∈ news)
    (h0 : (r0, W.listOf v0.toArray k0) ∈ news) (h1 : (r1, W.listOf v1.toArray k1) ∈ news) (h2 : (r2, W.listOf v2.toArray k2) ∈ news)
    (j0 : IntsAre v0 (repU U i0)) (j1 : IntsAre v1 (repU U i1)) (j2 : IntsAre v2 (repU U i2)) (hm : (r, uObj u t1 t2) ∈ news) (hu : UOk u) :
    Spec w mean mg mb 198 16 news [.ref rn, .ref rw, .ref r, .int seed t] (fun v new => ∃ (r : Addr) (vs : List Value) (k : Nat), v = .ref r ∧ new = [(r, W.listOf vs.toArray k)] ∧ IntsAre vs (repU U (Nat.gcd (Nat.gcd i0 i1) i2))) := by
  obtain ⟨hi0, hi0'⟩ := hi0
  unfold Spec
  intro dp un gd cn cs a ccd cl outer A₀ base hp₀ L m s Q E B KT F X N T hk hd hun hret
  have N' := News.dup (News.dup (News.dup (News.dup (News.dup (News.dup N hm) (.tail _ h2)) (.tail _ (.tail _ h1))) (.tail _ (.tail _ (.tail _ h0)))) (.tail _ (.tail _ (.tail _ (.tail _ hw))))) (.tail _ (.tail _ (.tail _ (.tail _ (.tail _ hn)))))
  clear N hm h0 h1 h2 hw hn
  refine wpAny_call ?_
  k_dflt cell_enter
  (try k_gentoks)
  (rename Fr _ _ _ _ => F0; replace F0 := (show Fr _ _ _ (fun y => List.lookup y [(Str.ofString "seed", Value.int seed t), (Str.ofString "unit", Value.ref r), (Str.ofString "words", Value.ref rw), (Str.ofString "numbers", Value.ref rn)]) from F0))
  k_with_none
  k_with "my binaryOp Mod int int" => (k_here; (with_reducible show wpAny _ _ (binaryOp Operator.Mod (Value.int (List.length _ : Int) _) (Value.int (List.length _ : Int) _)) _ _ _); k_dflt (refine mod_len (by assumption) (by assumption) (by assumption) ?_); intro q7 hQ7 hc7)
  k_with "my compareOp NotEq ref ref" => (k_here; k_dflt (refine' ne_last ?kN ?m1 ?m2 ?i1 ?i2 ?hQ ?hL ?hb ?hu ?_; (case kN => k_asm); (case m1 => k_mem); (case m2 => k_mem); (case i1 => assumption); (case i2 => assumption); (case hQ => assumption); (case hL => assumption); (case hb => assumption); (case hu => ktr_units); k_whole))
  k_with "my call ref" => (k_here; (with_reducible show wpAny _ _ (call (Value.ref 184) [Value.int _ _, Value.ref _, Value.int _ _]) _ _ _); k_dflt (refine' Spec.use ?B ?T ?F ?X ?N ?P ?k (spec_read _ _ _ _ _ _ _ _ _ _ _ _ _ ?zm (by assumption) (by assumption) (by assumption)) ?d ?u ?_; (case F => k_asm); (case B => k_asm); (case T => k_asm); (case X => k_asm); (case N => k_asm); (case zm => k_mem); (case P => k_asm); (case k => first | exact rfl | assumption); (case d => ktr_room); (case u => ktr_units); k_whole); intro v9 new9 h9 tk9 F9 N9 R9; obtain ⟨r9, vs9, n9, e91, e92, i9, o9⟩ := R9; clear o9; subst e91; subst e92; ((try simp only [List.nil_append, List.cons_append] at N9); (try dsimp only); (try k_fold)))
  k_with "my upto while" => (repeat' ((fail_if_success (with_reducible show wpAny _ _ (exec (Stmt.While _ _ _ _) _) _ _ _)); (first | (k_unfold; (try dsimp only)) | (walk1 <;> (first | (with_reducible show UnrEnd _ _ _ _ _ _ _) | (with_reducible show wpAny _ _ (subscriptTail _ _ _ _) _ _ _) | (try dsimp only))) | (dsimp only; walk1))))
  k_with "my KswEnd" => ((rename News _ _ _ _ => nE'); (refine' ksw_end ⟨_, _, _, _, _, _, _, _, _, _, _, _⟩ ?eF ?eN ?en ?ef ?ek ?er ?ep ?em); (case eF => assumption); (case eN => exact nE'); (case ek => ((try dsimp only); kst_all)); (case en => ((try dsimp only); first | kst_in | kst_inAny)); (case ef => trivial); (case er => ksw_same); (case ep => exact last_turn (by assumption) (by assumption) (by assumption) (by assumption)); (case em => exact last_less (by assumption) (by assumption) (by assumption)))
  walk_at "my upto while"
  (rename Fr _ _ _ _ => lF')
  (rename News _ _ _ _ => lN')
  obtain ⟨bs, eb⟩ := News.ledOf lN'
  have nb := News.dup (p := (r0, W.listOf v0.toArray k0)) (News.dup (p := (r1, W.listOf v1.toArray k1)) lN' (by k_mem)) (.tail _ (by k_mem))
  rw [← eb] at nb
  (with_unfolding_all refine' ksw_while (lLed bs) lPs (fun _ => True) [Str.ofString "rest", Str.ofString "left"] (lP U (Nat.gcd i0 i1)) (fun c => c.2.2.2.2.2.2.2.1.toNat) ⟨r0, v0, k0, r1, v1, k1, numR U i0, numR U i1, seed, _, _, _⟩ lF' nb trivial ?kk ?kp ?_)
  case kk => (refine List.forall_mem_cons.2 ⟨?_, List.forall_mem_cons.2 ⟨?_, List.forall_mem_cons.2 ⟨?_, List.forall_mem_cons.2 ⟨?_, List.forall_mem_cons.2 ⟨?_, List.forall_mem_nil _⟩⟩⟩⟩⟩ <;> with_unfolding_all rfl)
  case kp => exact last_start (by assumption) (by assumption) (by assumption) (by assumption) (by assumption)
  subst eb
  clear lF' lN' nb
  rintro ⟨ra, va, na, rb, vb, nb, a9, b9, s9, ta, tb, ts⟩ u9 h9 tk9 - hp9 F9 N9
  have q9 := last_rest hU hp9
  obtain ⟨q91, q92⟩ := q9
  have l9 := last_view hU hp9
  obtain ⟨xs9, ys9, i91, i92, l91, l92, l93⟩ := l9
  have l94 : LenPos a9 b9 xs9 ys9 := ⟨fun h => (l93 h).1, fun h => (l93 h).2⟩
  clear l93
  dsimp only [kstB, lPs, lLed] at F9 N9 q91 q92 i91 i92
  (repeat' ((fail_if_success (with_reducible show UnrEnd _ _ _ _ _ _ _)); (first | (k_unfold; (try dsimp only)) | (walk1 <;> (first | (with_reducible show UnrEnd _ _ _ _ _ _ _) | (with_reducible show wpAny _ _ (subscriptTail _ _ _ _) _ _ _) | (try dsimp only))) | (dsimp only; walk1))))
  · (rename News _ _ _ _ => nE); (rename Fr _ _ _ _ => fE)
    refine UnrEnd.intro fE nE ((ra, W.listOf va.toArray na) :: (rb, W.listOf vb.toArray nb) :: (rn, W.listOf #[Value.int (numR U i0) a0, Value.int (numR U i1) a1, Value.int (numR U i2) a2] kn) :: (rw, W.listOf #[Value.ref r0, Value.ref r1, Value.ref r2] kw) :: (r0, W.listOf v0.toArray k0) :: (r1, W.listOf v1.toArray k1) :: (r2, W.listOf v2.toArray k2) :: (r, uObj u t1 t2) :: news) ?sb ?of ?_
    case sb => first | kst_in | kst_inAny
    case of =>
      refine List.forall_mem_cons.2 ⟨News.ne_it nE (by k_mem) (by k_mem), List.forall_mem_cons.2 ⟨News.ne_it nE (by k_mem) (by k_mem), ?_⟩⟩
      k_all
    (repeat' ((fail_if_success (with_reducible show wpAny _ _ (exec (Stmt.While _ _ _ _) _) _ _ _)); (first | (k_unfold; (try dsimp only)) | (walk1 <;> (first | (with_reducible show UnrEnd _ _ _ _ _ _ _) | (with_reducible show wpAny _ _ (subscriptTail _ _ _ _) _ _ _) | (try dsimp only))) | (dsimp only; walk1))))
    (try clear q91 q92 l94)
    (rename Fr _ _ _ _ => lF')
    (rename News _ _ _ _ => lN')
    obtain ⟨bs, eb⟩ := News.ledOf lN'
    have nb := News.dup (p := (ra, W.listOf va.toArray na)) (News.dup (p := (r2, W.listOf v2.toArray k2)) lN' (by k_mem)) (.tail _ (by k_mem))
    rw [← eb] at nb
    obtain ⟨la1, la2, la3, la4⟩ := last_end hU hp9 (by omega)
    subst la1
    (with_unfolding_all refine' ksw_while (lLed bs) lPs (fun _ => True) [Str.ofString "rest", Str.ofString "left"] (lP U (Nat.gcd (Nat.gcd i0 i1) i2)) (fun c => c.2.2.2.2.2.2.2.1.toNat) ⟨ra, va, na, r2, v2, k2, numR U (Nat.gcd i0 i1), numR U i2, s9, _, _, _⟩ lF' nb trivial ?kk ?kp ?_)
    case kk => (refine List.forall_mem_cons.2 ⟨?_, List.forall_mem_cons.2 ⟨?_, List.forall_mem_cons.2 ⟨?_, List.forall_mem_cons.2 ⟨?_, List.forall_mem_cons.2 ⟨?_, List.forall_mem_nil _⟩⟩⟩⟩⟩ <;> with_unfolding_all rfl)
    case kp => exact last_start (by assumption) (by assumption) (by assumption) (by assumption) (by assumption)
    subst eb
    clear lF' lN' nb hp9 i91 i92 l91 l92
    rintro ⟨rc, vc, nc, rd, vd, nd, c9, d9, z9, tc, td, tz⟩ u8 h8 tk8 - hp8 F8 N8
    have q8 := last_rest hU hp8
    obtain ⟨q81, q82⟩ := q8
    have l8 := last_view hU hp8
    obtain ⟨xs8, ys8, i81, i82, l81, l82, l83⟩ := l8
    have l84 : LenPos c9 d9 xs8 ys8 := ⟨fun h => (l83 h).1, fun h => (l83 h).2⟩
    clear l83
    dsimp only [kstB, lPs, lLed] at F8 N8 q81 q82 i81 i82
    (repeat' ((fail_if_success (with_reducible show UnrEnd _ _ _ _ _ _ _)); (first | (k_unfold; (try dsimp only)) | (walk1 <;> (first | (with_reducible show UnrEnd _ _ _ _ _ _ _) | (with_reducible show wpAny _ _ (subscriptTail _ _ _ _) _ _ _) | (try dsimp only))) | (dsimp only; walk1))))
    (rename News _ _ _ _ => nE); (rename Fr _ _ _ _ => fE)
    refine UnrEnd.intro fE nE ((rc, W.listOf vc.toArray nc) :: (rd, W.listOf vd.toArray nd) :: news) ?sb ?of ?_
    case sb => first | kst_in | kst_inAny
    case of =>
      refine List.forall_mem_cons.2 ⟨News.ne_it nE (by k_mem) (by k_mem), List.forall_mem_cons.2 ⟨News.ne_it nE (by k_mem) (by k_mem), ?_⟩⟩
      k_all
    (repeat' (first | (k_unfold; (try dsimp only)) | (k_end; wrow_close) | (walk1 <;> (first | (with_reducible show UnrEnd _ _ _ _ _ _ _) | (with_reducible show wpAny _ _ (subscriptTail _ _ _ _) _ _ _) | (try dsimp only))) | (dsimp only; walk1) | (leave1; (try dsimp only)) | fail "no step"))
    exact hret _ [_] _ _ (by assumption) (cb_drop (by assumption) (by kcj_all)) ⟨rc, vc, nc, rfl, rfl, (last_end hU hp8 (by omega)).2.2.2⟩
end Mine
end

section
open PySem PySem.W PyProof.Rows PySem.Calls PyProof.V PySem.Spec
set_option maxRecDepth 100000
set_option linter.unusedVariables false
namespace Mine
theorem part22 : True := by
  k_with_none
  w_top off
  exact True.intro


section
variable {prog : Program} {w : World} {A : Around} {E : Value → Shared → Prop} {s : Shared} {env : Env} {h₀ : Heap} {x : Str} {body : List Stmt} {Q : Flow → Shared → Prop}
theorem loopY {σ : Type} {I : Addr} {fp : List Addr} {n : Nat} {V : Nat → Value → Prop} {St : Nat → Heap → Prop} {m₀ : Str → Option Value} (base : Led) (Ld : σ → Led) (ps : σ → List (Str × Value)) (stored : List Str) (P : Nat → σ → Prop) (c₀ : σ)
    (W : Walks prog w A I fp [I] n V St) (W' : ∀ b ∈ fp, b ∈ [I]) (hLf : env.locals ∉ fp) (hwr : h₀.get? I = none) (hbase : ∀ p ∈ base, p.1 ≠ I) (hobj : ∀ i h, St i h → ∃ o f, h.get? I = some o ∧ o.data = .fields f) (hT : ∀ c, ∀ p ∈ Ld c, p ∈ base ∨ ∀ f, p.2.data ≠ .fields f)
    (hst : St 0 s.heap) (F : Fr h₀ env.locals s.heap m₀) (N : News h₀ env.locals s.heap (Ld c₀)) (hn₀ : ∀ p ∈ Ld c₀, p.1 ≠ I) (hk : ∀ p ∈ ps c₀, m₀ p.1 = some p.2) (hp : P 0 c₀)
    (turn : ∀ i v c (u : Str → Option Value) h tk own, i < n → V i v → P i c → (∀ p ∈ own, ∀ q ∈ Ld c, p.1 ≠ q.1) → Fr h₀ env.locals h (fun y => if y = x then some v else kstB (fun z => if stored.contains z then u z else m₀ z) (ps c) y) → News h₀ env.locals h (Ld c ++ own) →
      wpAny (model prog w) A (execs body env) (XPost h₀ env.locals Ld ps x stored m₀ (P (i + 1)) own { s with heap := h, toks := tk } Q) E { s with heap := h, toks := tk })
    (done : ∀ c (u : Str → Option Value) h tk, P n c → Fr h₀ env.locals h (fun y => if y = x then u y else kstB (fun z => if stored.contains z then u z else m₀ z) (ps c) y) → News h₀ env.locals h (Ld c) → Q .next { s with heap := h, toks := tk }) :
    LoopAtV prog w A h₀ env x body Q E (.ref I) s := by
  let J : Nat → (Str → Option Value) → Led → Prop := fun i m nx => ∃ c : σ, nx = Ld c ∧ (∀ p ∈ ps c, m p.1 = some p.2) ∧ (∀ z, z ≠ x → (∀ p ∈ ps c, z ≠ p.1) → stored.contains z = false → m z = m₀ z) ∧ P i c
  refine ⟨I, fp, [I], n, V, St, m₀, Ld c₀, J, rfl, W, hLf, ?_, ?_, hst, F, N, ⟨c₀, rfl, hk, fun _ _ _ _ => rfl, hp⟩, ?_, ?_⟩
  · intro b hb; rw [List.mem_singleton.mp hb]; exact hwr
  · intro p hp hI; exact hn₀ p hp (List.mem_singleton.mp hI)
  · rintro i v m₁ news₁ s₁ own ⟨hh', tk', rfl⟩ hin hV ⟨c, rfl, h1, h2, hP⟩ hoff hown hlive hcov hst₁ F₁ N₁
    have N₂ : News h₀ env.locals hh' (Ld c ++ own) := fun p hp => N₁ p ((List.mem_append.mp hp).elim (fun h => List.mem_append.mpr (.inr h)) fun h => List.mem_append.mpr (.inl h))
    obtain ⟨o, f₁, ho, hf⟩ := hobj _ _ hst₁
    have hIown : (I, o) ∈ own := hcov I (W.sub I (List.mem_singleton.mpr rfl)) hwr o ho
    have hsep : ∀ p ∈ own, ∀ q ∈ Ld c, p.1 ≠ q.1 := fun p hp q hq e => hoff q hq (List.mem_singleton.mp (W' _ (e ▸ hown p hp)) ▸ List.mem_singleton.mpr rfl)
    refine wpAny_mono (turn i v c m₁ hh' tk' own hin hV hP hsep (kst_fr h1 h2 F₁) N₂) (fun f s₂ p => ?_) fun _ _ e => e
    have fin : XEnd h₀ env.locals Ld ps x stored m₀ (P (i + 1)) own { s with heap := hh', toks := tk' } s₂ → LoopStepU h₀ env.locals [I] own (J (i + 1)) { s with heap := hh', toks := tk' } .next s₂ := by
      rintro ⟨c', h', tk, m', news', e, F', N', hk', hn', ho', hr', hp'⟩
      refine ⟨rfl, h', tk, m', Ld c', e, F', fun p hp => N' p ((List.mem_append.mp hp).elim (ho' p) (hn' p)), fun p hp hI => ?_, c', rfl, hk', hr', hp'⟩
      have hI := List.mem_singleton.mp hI
      rcases hT c' p hp with hb | hd
      · exact hbase p hb hI
      · have e1 := (N' p (hn' p hp)).1
        have e2 := (N' _ (ho' _ hIown)).1
        rw [hI] at e1
        rw [e1] at e2
        have e3 : p.2 = o := Option.some.inj e2
        exact hd f₁ (by rw [e3]; exact hf)
    cases f with
    | ret v => exact .ret p
    | brk => exact .brk p
    | next => exact .next (fin p)
    | cont => exact .cont (fin p)
  · rintro h' tk m' news' F' N' _ ⟨c, rfl, h1, h2, hP⟩
    exact done c m' h' tk hP (kst_frOut h1 h2 F') N'

theorem loopY_str {σ : Type} {xt : Str} {tx : Tok} {m₀ : Str → Option Value} (base : Led) (Ld : σ → Led) (ps : σ → List (Str × Value)) (stored : List Str) (P : List Int → σ → Prop) (c₀ : σ)
    (hh : A.handled = none) (hT : ∀ c, ∀ p ∈ Ld c, p ∈ base ∨ ∀ f, p.2.data ≠ .fields f) (hb : ∀ p ∈ base, p ∈ Ld c₀)
    (F : Fr h₀ env.locals s.heap m₀) (N : News h₀ env.locals s.heap (Ld c₀)) (hk : ∀ p ∈ ps c₀, m₀ p.1 = some p.2) (hp : P [] c₀)
    (turn : ∀ (c : σ) (pre post : List Int) (n : Nat) t (u : Str → Option Value) h tk own, KStt.codes xt = pre ++ (n : Int) :: post → P pre c → (∀ p ∈ own, ∀ q ∈ Ld c, p.1 ≠ q.1) →
      Fr h₀ env.locals h (fun y => if y = x then some (.str ⟨#[n]⟩ t) else kstB (fun z => if stored.contains z then u z else m₀ z) (ps c) y) → News h₀ env.locals h (Ld c ++ own) →
      wpAny (model prog w) A (execs body env) (XPost h₀ env.locals Ld ps x stored m₀ (P (pre ++ [(n : Int)])) own { s with heap := h, toks := tk } Q) E { s with heap := h, toks := tk })
    (done : ∀ (c : σ) (u : Str → Option Value) h tk, P (KStt.codes xt) c → Fr h₀ env.locals h (fun y => if y = x then u y else kstB (fun z => if stored.contains z then u z else m₀ z) (ps c) y) → News h₀ env.locals h (Ld c) → Q .next { s with heap := h, toks := tk }) :
    wpAny (model prog w) A (pyIter (.str xt tx)) (fun it s₂ => LoopAtV prog w A h₀ env x body Q E it s₂) E s := by
  have key : ∀ (T : String) (St : Nat → Heap → Prop), (∀ i h, St i h → ∃ o f, h.get? s.heap.objs.size = some o ∧ o.data = .fields f) → ∀ o, Walks prog w A s.heap.objs.size [s.heap.objs.size] [s.heap.objs.size] xt.cps.size (SignAt xt) St → St 0 (s.heap.push o) →
      LoopAtV prog w A h₀ env x body Q E (.ref s.heap.objs.size) { s with heap := s.heap.push o } := by
    intro T St hobj o W hst
    refine loopY base Ld ps stored (fun i c => P ((KStt.codes xt).take i) c) c₀ W (fun _ h => h) ?_ ?_ ?_ hobj hT hst (F.push _) (fun p hp => ⟨Heap.get?_push_of_some _ (N p hp).1, (N p hp).2⟩) (new_off (o := o) N) hk (by simpa using hp) ?_ ?_
    · intro hm
      exact absurd F.ns.lt ((List.mem_singleton.mp hm) ▸ Nat.lt_irrefl _)
    · exact next_is_new F
    · intro p hp
      exact new_off (o := o) N p (hb p hp)
    · rintro i v c u h tk own hi ⟨n, t, hn, rfl⟩ hP hS F₁ N₁
      have hn' := KStt.code_at hn
      have hs : (KStt.codes xt).take (i + 1) = (KStt.codes xt).take i ++ [(n : Int)] := by simp [List.take_add_one, hn']
      have e : KStt.codes xt = (KStt.codes xt).take i ++ (n : Int) :: (KStt.codes xt).drop (i + 1) := by
        have ht := List.take_append_drop (i + 1) (KStt.codes xt)
        rw [hs, List.append_assoc] at ht
        exact ht.symm
      rw [hs]
      exact turn c _ _ n t u h tk own e hP hS F₁ N₁
    · rintro c u h tk hP F₁ N₁
      have hl : xt.cps.size = (KStt.codes xt).length := (KStt.codes_length xt).symm
      rw [hl, List.take_length] at hP
      exact done c u h tk hP F₁ N₁
  cases ha : xt.cps.all (· < 128)
  · exact wpAny_pyIter_wide ha (key "" _ (fun i h st => let ⟨o, ho, _, hd⟩ := st; ⟨o, _, ho, hd⟩) _ (Walks.strWide hh _ xt tx) ⟨_, Heap.get?_push_size _ rfl, rfl, rfl⟩)
  · exact wpAny_pyIter_ascii ha (key "" _ (fun i h st => let ⟨o, ho, _, hd⟩ := st; ⟨o, _, ho, hd⟩) _ (Walks.strAscii hh _ xt tx) ⟨_, Heap.get?_push_size _ rfl, rfl, rfl⟩)
end
theorem allLt_mem {d : Addr} : ∀ {l : Led}, AllLt d l → ∀ p ∈ l, p.1 < d
  | [], _, p, h => nomatch h
  | _ :: _, x, p, h => by
    rcases List.mem_cons.1 h with rfl | h
    · exact x.1
    · exact allLt_mem x.2 p h
theorem News.tailOf {h₀ h : Heap} {L : Addr} {p : Addr × Obj} {l : Led} (N : News h₀ L h (p :: l)) : ∃ b, b = l := ⟨l, rfl⟩
theorem my_upd {d : Addr} {o o' : Obj} {base own : Led} (h1 : AllLt d base) (h2 : ∀ p ∈ own, ∀ q ∈ (d, o) :: base, p.1 ≠ q.1) : Upd d o o' (((d, o) :: base) ++ own) (((d, o') :: base) ++ own) := by
  refine Upd.head fun p hp => ?_
  rcases List.mem_append.1 hp with hp | hp
  · exact Nat.ne_of_lt (allLt_mem h1 p hp)
  · exact h2 p hp _ (.head _)
/-- a list of counts, one more at b -/
noncomputable def bump (c : List Int) (b : Nat) : List Int := (c ++ List.replicate (b + 1 - c.length) 0).set b ((c ++ List.replicate (b + 1 - c.length) 0).getD b 0 + 1)
noncomputable def wsGo : List Int → List Int → Int → Int → Int → List Int × Int × Int × Int
  | [], c, b, n, nt => (c, b, n, nt)
  | ch :: cs, c, b, n, nt => if ch = 32 then wsGo cs c (b + 1) (n + 1) nt else if ch = 9 then wsGo cs (bump c b.toNat) 0 (n + 1) (nt + 1) else (c, b, n, nt)
noncomputable abbrev WSt := Addr × List Value × Nat × Int × Int × Int × Tok × Tok × Tok
noncomputable abbrev wLd (base : Led) (c : WSt) : Led := (c.1, W.listOf c.2.1.toArray c.2.2.1) :: base
noncomputable abbrev wPs (c : WSt) : List (Str × Value) := [(Str.ofString "count", .ref c.1), (Str.ofString "b", .int c.2.2.2.1 c.2.2.2.2.2.2.1), (Str.ofString "n", .int c.2.2.2.2.1 c.2.2.2.2.2.2.2.1), (Str.ofString "nt", .int c.2.2.2.2.2.1 c.2.2.2.2.2.2.2.2)]
structure WsIs (pre : List Int) (vs : List Value) (cs : List Int) (b n nt : Int) : Prop where
  ii : IntsAre vs cs
  go : ∀ rest, wsGo (pre ++ rest) [] 0 0 0 = wsGo rest cs b n nt
  b0 : 0 ≤ b
  b1 : b ≤ (pre.length : Int)
  len : cs.length ≤ pre.length
noncomputable abbrev wP (base : Led) (pre : List Int) (c : WSt) : Prop := AllLt c.1 base ∧ ∃ cs, WsIs pre c.2.1 cs c.2.2.2.1 c.2.2.2.2.1 c.2.2.2.2.2.1
theorem ws_pre {x : Str} {pre post : List Int} {n : Nat} (hx : x.cps.size ≤ 64) (e : KStt.codes x = pre ++ (n : Int) :: post) : pre.length < 64 := by
  have : (KStt.codes x).length = x.cps.size := KStt.codes_length x
  rw [e, List.length_append, List.length_cons] at this
  omega
/-- a Whitespace object's parts -/
structure WsA where
  (r d q p : Addr) (x : Str) (tx : Tok) (n : Int) (tn : Tok) (nt : Int) (tnt : Tok) (b : Int) (tb : Tok) (vs : List Value) (sm : Bool) (k1 k2 k3 k4 k5 : Tok)
noncomputable abbrev wsEs (P : Params) (a : WsA) : List DictEntry := [⟨PyData.keyHash P (Str.ofString "raw"), .str (Str.ofString "raw") a.k1, .str a.x a.tx⟩, ⟨PyData.keyHash P (Str.ofString "n"), .str (Str.ofString "n") a.k2, .int a.n a.tn⟩, ⟨PyData.keyHash P (Str.ofString "nt"), .str (Str.ofString "nt") a.k3, .int a.nt a.tnt⟩, ⟨PyData.keyHash P (Str.ofString "norm"), .str (Str.ofString "norm") a.k4, .ref a.q⟩, ⟨PyData.keyHash P (Str.ofString "is_simple"), .str (Str.ofString "is_simple") a.k5, .bool a.sm⟩]
noncomputable abbrev wsLed (w : World) (a : WsA) : Led := [(a.r, instObj 147 a.d), (a.d, W.dictOf (wsEs w.params a) 5), (a.q, { cls := .type "tuple", data := .seq #[.ref a.p, .int a.b a.tb] }), (a.p, { cls := .type "tuple", data := .seq a.vs.toArray })]
structure WsOf (cd : List Int) (a : WsA) (cs : List Int) : Prop where
  ii : IntsAre a.vs cs
  go : wsGo cd [] 0 0 0 = (cs, a.b, a.n, a.nt)
  sm : a.sm = decide ((cs.length : Int) ≤ 1)
theorem ws_done {cd : List Int} {vs : List Value} {cs : List Int} {b m t : Int} (h : WsIs cd vs cs b m t) : wsGo cd [] 0 0 0 = (cs, b, m, t) := by
  have := h.go []
  rwa [List.append_nil] at this
theorem sign_is {n : Nat} {c : Str} {k : Nat} (h : ((⟨#[n]⟩ : Str) == c) = true) (hc : c = ⟨#[k]⟩) : n = k := by
  subst hc
  have := eq_of_beq h
  simpa using this
theorem sign_not {n : Nat} {c : Str} {k : Nat} (h : ((⟨#[n]⟩ : Str) == c) = false) (hc : c = ⟨#[k]⟩) : n ≠ k := by
  subst hc
  rintro rfl
  simp at h
theorem sp_is : (Str.ofString " ") = ⟨#[32]⟩ := by decide
theorem tab_is : (Str.ofString "\t") = ⟨#[9]⟩ := by decide
theorem allLt_sub {d : Addr} {l l' : Led} (h : AllLt d l) (s : ∀ p ∈ l', p ∈ l) : AllLt d l' := allLt_of fun p hp => allLt_mem h p (s p hp)
theorem wsA {base : Led} {r1 : Addr} {pre : List Int} {n : Nat} {vs : List Value} {cs : List Int} {b m t : Int} (ho : AllLt r1 base) (hW : WsIs pre vs cs b m t) (hc : ((⟨#[n]⟩ : Str) == Str.ofString " ") = true) :
    AllLt r1 base ∧ ∃ cs, WsIs (pre ++ [(n : Int)]) vs cs (b + 1) (m + 1) t := by
  obtain rfl := sign_is hc sp_is
  obtain ⟨h1, h2, h3, h4, h5⟩ := hW
  refine ⟨ho, cs, h1, fun rest => ?_, by omega, by rw [List.length_append]; simp; omega, by rw [List.length_append]; omega⟩
  rw [List.append_assoc, h2]; rfl
theorem ws_brk {cd pre post : List Int} {n : Nat} {vs : List Value} {cs : List Int} {b m t : Int} (e : cd = pre ++ (n : Int) :: post) (h : WsIs pre vs cs b m t) (h1 : ((⟨#[n]⟩ : Str) == Str.ofString " ") = false) (h2 : ((⟨#[n]⟩ : Str) == Str.ofString "\t") = false) : wsGo cd [] 0 0 0 = (cs, b, m, t) := by
  have a1 := sign_not h1 sp_is
  have a2 := sign_not h2 tab_is
  rw [e, h.go, wsGo, if_neg (by omega), if_neg (by omega)]
theorem bump_len (c : List Int) (b : Nat) : (bump c b).length = max c.length (b + 1) := by
  rw [bump, List.length_set, List.length_append, List.length_replicate]; omega
theorem wsT {pre : List Int} {n : Nat} {vs vs' : List Value} {cs : List Int} {b m t : Int} (hW : WsIs pre vs cs b m t) (hc : ((⟨#[n]⟩ : Str) == Str.ofString "\t") = true) (hi : IntsAre vs' (bump cs b.toNat)) :
    ∃ cs, WsIs (pre ++ [(n : Int)]) vs' cs 0 (m + 1) (t + 1) := by
  obtain rfl := sign_is hc tab_is
  obtain ⟨h1, h2, h3, h4, h5⟩ := hW
  refine ⟨_, hi, fun rest => ?_, by omega, by omega, by rw [bump_len, List.length_append]; simp; omega⟩
  rw [List.append_assoc, h2]; rfl
theorem wsB {base own : Led} {r1 D a c : Addr} {o : Obj} {pre : List Int} {n : Nat} {vs vs' : List Value} {cs : List Int} {b m t : Int} (ho : a < D ∧ c < D ∧ AllLt D (((r1, o) :: base) ++ own)) (hW : WsIs pre vs cs b m t)
    (hc : ((⟨#[n]⟩ : Str) == Str.ofString "\t") = true) (hl : (cs.length : Int) ≤ b)
    (hi : IntsAre vs' ((cs ++ (List.replicate (b - (cs.length : Int) + 1).toNat [(0 : Int)]).flatten).set b.toNat ((cs ++ (List.replicate (b - (cs.length : Int) + 1).toNat [(0 : Int)]).flatten).getD b.toNat 0 + 1))) :
    AllLt D base ∧ ∃ cs, WsIs (pre ++ [(n : Int)]) vs' cs 0 (m + 1) (t + 1) := by
  refine ⟨allLt_sub ho.2.2 fun p hp => List.mem_append_left _ (.tail _ hp), wsT hW hc ?_⟩
  have e : (List.replicate (b - (cs.length : Int) + 1).toNat [(0 : Int)]).flatten = List.replicate (b.toNat + 1 - cs.length) 0 := by
    rw [List.flatten_replicate_singleton, show (b - (cs.length : Int) + 1).toNat = b.toNat + 1 - cs.length by omega]
  rw [e] at hi
  exact hi
theorem wsC {base : Led} {r1 : Addr} {pre : List Int} {n : Nat} {vs vs' : List Value} {cs : List Int} {b m t : Int} (ho : AllLt r1 base) (hW : WsIs pre vs cs b m t)
    (hc : ((⟨#[n]⟩ : Str) == Str.ofString "\t") = true) (hl : ¬ (cs.length : Int) ≤ b) (hi : IntsAre vs' (cs.set b.toNat (cs.getD b.toNat 0 + 1))) :
    AllLt r1 base ∧ ∃ cs, WsIs (pre ++ [(n : Int)]) vs' cs 0 (m + 1) (t + 1) := by
  refine ⟨ho, wsT hW hc ?_⟩
  rw [bump, show b.toNat + 1 - cs.length = 0 by have := hW.b0; omega, List.replicate_zero, List.append_nil]
  exact hi
theorem News.left {h₀ h : Heap} {L : Addr} {a b : Led} (N : News h₀ L h (a ++ b)) : News h₀ L h a := fun p hp => N p (List.mem_append_left _ hp)

theorem ws_ne {news own ld : Led} {d : Addr} {o : Obj} (l : ∀ p ∈ news, p.1 < d) (h : ∀ p ∈ own, ∀ q ∈ ld, p.1 ≠ q.1) (hm : (d, o) ∈ ld) : ∀ p ∈ news ++ own, p.1 ≠ d := fun p hp => by
  rcases List.mem_append.1 hp with hp | hp
  · exact Nat.ne_of_lt (l p hp)
  · exact h p hp _ hm
theorem News.ne_tup {h₀ h : Heap} {L a b : Addr} {news : Led} {vs : Array Value} {n k : Nat} {es : List DictEntry} (N : News h₀ L h news) (h1 : (a, ({ cls := .type "tuple", data := .seq vs n } : Obj)) ∈ news) (h2 : (b, W.dictOf es k) ∈ news) : a ≠ b := fun e => by
  have q1 := (N _ h1).1
  have q2 := (N _ h2).1
  dsimp only at q1 q2
  rw [e, q2] at q1
  have q3 := congrArg Obj.cls (Option.some.inj q1)
  have q4 : (Value.type "dict") = Value.type "tuple" := q3
  injection q4 with q5
  exact absurd q5 (by decide)
set_option maxHeartbeats 4000000 in
theorem spec_ws (w : World) (mean : ExcName → Option Value) (mg mb : Str → Option Value) (news : Led) (x : Str) (t : Tok) (hx : x.cps.size ≤ 64) :
    Spec w mean mg mb 147 2 news [.str x t] (fun v new => ∃ a cs, v = .ref a.r ∧ new = wsLed w a ∧ WsOf (KStt.codes x) a cs) := by
  unfold Spec
  intro dp un gd cn cs a ccd cl outer A₀ base h₀ L m s Q E B KT F X N T hk hd hu hret
  k_with_none
  k_with "my state" => first | exact wsA (by assumption) (by assumption) (by assumption) | exact wsB (by assumption) (by assumption) (by assumption) (by assumption) (by assumption) | exact wsC (by assumption) (by assumption) (by assumption) (by assumption) (by assumption)
  k_with "my XEnd" => ((rename News _ _ _ _ => nE'); refine XEnd.intro (_, _, _, _, _, _, _, _, _) (by assumption) nE' (by dsimp only [wPs]; kst_all) (by dsimp only [wLd]; first | kst_in | kst_inAny) (by first | (intro p hp; kst_mem) | kst_anyIn) (by dsimp only [wPs]; kst_same) (by dsimp only [wP]; walk_at "my state"))
  k_with "my XPost" => ((dsimp only [XPost]); (first | (with_reducible show XEnd _ _ _ _ _ _ _ _ _ _ _) | ((rename News _ _ _ _ => nB); (have nC := News.left nB); clear nB) | skip))
  k_with "my k_upd" => with_reducible exact my_upd (by with_unfolding_all assumption) (by with_unfolding_all assumption)
  k_with "my k_all" => (with_unfolding_all refine' ws_ne ?wa ?wb ?wc; (case wa => assumption); (case wb => assumption); (case wc => k_mem))
  k_with "my k_upd" => (refine' Upd.tail ?a ?b; (case a => (dsimp only; exact News.ne_tup (by assumption) (by k_mem) (by k_mem))); (case b => k_upd))
  k_with "pyIter str" => fail
  (refine' call_cls F X N ?k4 ?k5 ?k6 ?_); (case k4 => k_is); (case k5 => k_is); (case k6 => k_is); intro x' d' h' F' N' l1 l2; (try k_lt l1); (try k_lt2 l2)
  k_dflt cell_enter
  (try k_gentoks)
  (rename Fr _ _ _ _ => F0; replace F0 := (show Fr _ _ _ (fun y => List.lookup y [(Str.ofString "ws", Value.str x t), (Str.ofString "self", Value.ref _)]) from F0))
  (repeat' (first | (k_unfold; (try dsimp only)) | (k_end; wrow_close) | (walk1 <;> (try dsimp only)) | (dsimp only; walk1) | (leave1; (try dsimp only)) | fail "no step"))
  (rename Fr _ _ _ _ => lF')
  (rename News _ _ _ _ => lN')
  obtain ⟨bs, eb⟩ := News.tailOf lN'
  rw [← eb] at lN'
  (with_unfolding_all refine' loopY_str bs (wLd bs) wPs [] (wP bs) ⟨_, [], 0, 0, 0, 0, _, _, _⟩ (by rfl) (fun _ => off_fields) (fun _ hp => .tail _ hp) lF' lN' ?xk ?xp ?_ ?_)
  case xk => kst_all
  case xp => exact ⟨by rw [eb]; with_unfolding_all assumption, [], .nil, fun _ => rfl, Int.le_refl 0, Int.le_refl 0, Nat.le_refl 0⟩
  all_goals clear lF' lN'
  all_goals subst eb
  · rintro ⟨r1, vs1, n1, b1, m1, t1, tb1, tn1, tt1⟩ pre post n2 t2 u2 h2 tk2 own2 e2 ⟨of2, cs2, hW2⟩ sp2 F2 N2
    have hW3 := hW2
    obtain ⟨hi2, hg2, hb0, hb1, hl2⟩ := hW3
    dsimp only [kstB, wPs, wLd] at F2 N2 hi2 hg2 hb0 hb1 hl2 of2 sp2 hW2
    have of3 := of2
    simp only [AllLt] at of3
    have hp2 := ws_pre hx e2
    have hz2 : cs2.length ≤ 64 := by omega
    have hv2 : vs1.length ≤ 64 := by rw [hi2.length]; exact hz2
    have hb2 : b1 ≤ 64 := by omega
    (repeat' (first | (k_unfold; (try dsimp only)) | (k_end; wrow_close) | (walk1 <;> (try dsimp only)) | (dsimp only; walk1) | (leave1; (try dsimp only)) | fail "no step"))
    refine' hret (.ref x') (wsLed w ⟨x', d', _, _, _, _, _, _, _, _, _, _, _, _, _, _, _, _, _⟩) _ _ (by assumption) ?zN ⟨_, _, rfl, rfl, by assumption, ws_brk (by assumption) (by assumption) (by assumption) (by assumption), rfl⟩
    case zN => (refine cb_drop (by assumption) ?_; (try dsimp only [wsLed, wsEs, List.cons_append, List.nil_append]); kcj_all)
  · rintro ⟨r1, vs1, n1, b1, m1, t1, tb1, tn1, tt1⟩ u2 h2 tk2 ⟨of2, cs2, hW2⟩ F2 N2
    have hW3 := hW2
    obtain ⟨hi2, hg2, hb0, hb1, hl2⟩ := hW3
    dsimp only [kstB, wPs, wLd] at F2 N2 hi2 hg2 hb0 hb1 hl2 of2 hW2
    have hz2 : cs2.length ≤ 64 := Nat.le_trans hl2 (by rw [KStt.codes_length]; exact hx)
    have hv2 : vs1.length ≤ 64 := by rw [hi2.length]; exact hz2
    have of3 := of2
    simp only [AllLt] at of3
    (repeat' (first | (k_unfold; (try dsimp only)) | (k_end; wrow_close) | (walk1 <;> (try dsimp only)) | (dsimp only; walk1) | (leave1; (try dsimp only)) | fail "no step"))
    refine' hret (.ref x') (wsLed w ⟨x', d', _, _, _, _, _, _, _, _, _, _, _, _, _, _, _, _, _⟩) _ _ (by assumption) ?zN ⟨_, _, rfl, rfl, by assumption, ws_done (by assumption), rfl⟩
    case zN => (refine cb_drop (by assumption) ?_; (try dsimp only [wsLed, wsEs, List.cons_append, List.nil_append]); kcj_all)
end Mine
end

section
open PySem PySem.W PyProof.Rows PySem.Calls PyProof.V PySem.Spec
set_option maxRecDepth 100000
set_option linter.unusedVariables false
namespace Mine
theorem part23 : True := by
  k_with_none
  w_top off
  exact True.intro


theorem News.dups {h₀ h : Heap} {L : Addr} {news l : Led} (N : News h₀ L h news) (hm : ∀ p ∈ l, p ∈ news) : News h₀ L h (l ++ news) := fun q hq => by
  rcases List.mem_append.1 hq with hq | hq
  · exact N _ (hm q hq)
  · exact N _ hq

section
variable {prog : Program} {w : World} {A : Around} {E : Value → Shared → Prop} {s : Shared} {h₀ : Heap} {L p : Addr} {news : Led} {vs : List Value} {cs : List Int} {n : Nat} {Q : Value → Shared → Prop}
theorem tupI_len (N : News h₀ L s.heap news) (hm : (p, ({ cls := .type "tuple", data := .seq vs.toArray n } : Obj)) ∈ news) (hi : IntsAre vs cs) (hz : cs.length ≤ 64)
    (h : Q (.int (cs.length : Int) (s.toks + 1)) { s with toks := s.toks + 1 + 1 }) : wpAny (model prog w) A (call (.builtin "len") [.ref p]) Q E s := by
  have e : vs.toArray.size = cs.length := by rw [List.size_toArray, hi.length]
  refine len_tuple (N.isTup hm) (by rw [e]; omega) (by rw [e]; exact h)
theorem tupI_item {value slice : PySem.Expr} {k : Int} {u : Tok} (N : News h₀ L s.heap news) (hm : (p, ({ cls := .type "tuple", data := .seq vs.toArray n } : Obj)) ∈ news) (hi : IntsAre vs cs) (hz : cs.length ≤ 64) (h0 : 0 ≤ k) (h1 : k < (cs.length : Int))
    (h : ∀ t, Q (.int (cs.getD k.toNat 0) t) s)
    (hs : subscripted slice false (.ref p) (.int k u) = operate [.ref p, .int k u] (getItem (.ref p) (.int k u)) := by with_unfolding_all rfl) :
    wpAny (model prog w) A (subscriptTail value slice (.ref p) (.int k u)) Q E s := by
  have e : vs.length = cs.length := hi.length
  refine item_tup_any (N.isTup hm) h0 (by rw [e]; exact h1) (by omega) (fun j x hj hlt hx => ?_) hs
  obtain ⟨c, t, hx', hc⟩ := IntsAre.at hi j x hx
  have : cs.getD k.toNat 0 = c := by rw [hj, List.getD_eq_getElem?_getD, hc]; rfl
  subst hx'
  rw [← this]
  exact h t
end
theorem mul_div {k ts c : Int} (h0 : 0 ≤ k) (h1 : k ≤ 64) (h2 : 1 ≤ ts) : IntMulOk (k.fdiv ts) c := by
  have a : k.fdiv ts = k / ts := Int.fdiv_eq_ediv_of_nonneg k (by omega)
  have b : 0 ≤ k / ts := Int.ediv_nonneg h0 (by omega)
  have c : k / ts ≤ k := Int.ediv_le_self ts h0
  rw [a]
  exact PySem.IntMulOk.of_left (PySem.intBits_le_64 (by omega) (by omega))
noncomputable def ilSum (ts : Int) (cs : List Int) (pre : List Int) : Int := (pre.map fun i => i.fdiv ts * cs.getD i.toNat 0).sum
theorem il_start {ts : Int} {cs : List Int} : (0 : Int) = ilSum ts cs [] := rfl
theorem il_turn {ts : Int} {cs pre : List Int} {il k : Int} (h : il = ilSum ts cs pre) : il + k.fdiv ts * cs.getD k.toNat 0 = ilSum ts cs (pre ++ [k]) := by
  rw [h, ilSum, ilSum, List.map_append, List.sum_append]; simp
set_option maxHeartbeats 4000000 in
theorem spec_longest (w : World) (mean : ExcName → Option Value) (mg mb : Str → Option Value) (news : Led) (a : WsA) (cs : List Int) (ha : ∀ p ∈ wsLed w a, p ∈ news) (hi : IntsAre a.vs cs) (hz : cs.length ≤ 64) :
    Spec w mean mg mb 109 2 news [.ref a.r] (fun v new => ∃ t, v = .int (if a.b > (cs.length : Int) - 1 then a.b else (cs.length : Int) - 1) t ∧ new = []) := by
  obtain ⟨r, d, q, p, x, tx, n, tn, nt, tnt, b, tb, vs, sm, k1, k2, k3, k4, k5⟩ := a
  unfold Spec
  intro dp un gd cn csc ad ccd cl outer A₀ base h₀ L m s Q E B KT F X N T hk hd hu hret
  have N' := News.dups N ha
  clear N ha
  dsimp only [wsLed, wsEs, List.cons_append, List.nil_append] at N' hi
  refine wpAny_call ?_
  k_dflt cell_enter
  (try k_gentoks)
  (rename Fr _ _ _ _ => F0; replace F0 := (show Fr _ _ _ (fun y => List.lookup y [(Str.ofString "self", Value.ref r)]) from F0))
  k_with_none
  k_with "my call builtin:len" => (k_here; (with_reducible show wpAny _ _ (call (Value.builtin "len") [Value.ref _]) _ _ _); k_dflt (refine' tupI_len ?kN ?km ?ki ?kz ?_; (case kN => k_asm); (case km => k_mem); (case ki => assumption); (case kz => assumption); k_whole))
  k_with "my subscriptTail" => (k_here; (with_reducible show wpAny _ _ (subscriptTail _ _ (Value.ref _) (Value.int _ _)) _ _ _); k_dflt (refine' tupI_item ?kN ?km ?ki ?kz ?k0 ?k1 ?_ ?ks; (case kN => k_asm); (case km => k_mem); (case ki => assumption); (case kz => assumption); (case k0 => omega); (case k1 => omega); (case ks => with_unfolding_all rfl); k_whole); intro t7)
  k_with "my binaryOp Mult int int" => (k_here; (with_reducible show wpAny _ _ (binaryOp Operator.Mult (Value.int (Int.fdiv _ _) _) (Value.int _ _)) _ _ _); (with_reducible refine mul_int ?_ (mul_div (by omega) (by omega) (by omega))))
  (repeat' (first | (k_unfold; (try dsimp only)) | (k_end; wrow_close) | (walk1 <;> (try dsimp only)) | (dsimp only; walk1) | (leave1; (try dsimp only)) | fail "no step"))
  exact hret _ [] _ _ (by assumption) (cb_drop (by assumption) (by kcj_all)) ⟨_, rfl, rfl⟩

set_option maxHeartbeats 4000000 in
theorem spec_indent (w : World) (mean : ExcName → Option Value) (mg mb : Str → Option Value) (news : Led) (a : WsA) (cs : List Int) (ts : Int) (t : Tok) (ha : ∀ p ∈ wsLed w a, p ∈ news) (hi : IntsAre a.vs cs) (hz : cs.length ≤ 64) (h1 : 1 ≤ ts) (h2 : ts ≤ 64) :
    Spec w mean mg mb 116 2 news [.ref a.r, .int ts t] (fun v new => ∃ t, v = .int (a.b + ts * (ilSum ts cs (rangeKs ts ((cs.length : Int) - ts).toNat) + a.nt)) t ∧ new = []) := by
  obtain ⟨r, d, q, p, x, tx, n, tn, nt, tnt, b, tb, vs, sm, k1, k2, k3, k4, k5⟩ := a
  unfold Spec
  intro dp un gd cn csc ad ccd cl outer A₀ base h₀ L m s Q E B KT F X N T hk hd hu hret
  have N' := News.dups N ha
  clear N ha
  dsimp only [wsLed, wsEs, List.cons_append, List.nil_append] at N' hi
  refine wpAny_call ?_
  k_dflt cell_enter
  (try k_gentoks)
  (rename Fr _ _ _ _ => F0; replace F0 := (show Fr _ _ _ (fun y => List.lookup y [(Str.ofString "tabsize", Value.int ts t), (Str.ofString "self", Value.ref r)]) from F0))
  k_with_none
  k_with "my call builtin:len" => (k_here; (with_reducible show wpAny _ _ (call (Value.builtin "len") [Value.ref _]) _ _ _); k_dflt (refine' tupI_len ?kN ?km ?ki ?kz ?_; (case kN => k_asm); (case km => k_mem); (case ki => assumption); (case kz => assumption); k_whole))
  k_with "my subscriptTail" => (k_here; (with_reducible show wpAny _ _ (subscriptTail _ _ (Value.ref _) (Value.int _ _)) _ _ _); k_dflt (refine' tupI_item ?kN ?km ?ki ?kz ?k0 ?k1 ?_ ?ks; (case kN => k_asm); (case km => k_mem); (case ki => assumption); (case kz => assumption); (case k0 => omega); (case k1 => omega); (case ks => with_unfolding_all rfl); k_whole); intro t7)
  k_with "my binaryOp Mult int int" => (k_here; (with_reducible show wpAny _ _ (binaryOp Operator.Mult (Value.int (Int.fdiv _ _) _) (Value.int _ _)) _ _ _); (with_reducible refine mul_int ?_ (mul_div (by omega) (by omega) (by omega))))
  k_with "state" => first | exact il_start | exact il_turn (by assumption)
  k_with "pyIter ref" => k_state (fun pre il => il = ilSum ts cs pre) "il"
  (repeat' (first | (k_unfold; (try dsimp only)) | (k_end; wrow_close) | (walk1 <;> (try dsimp only)) | (dsimp only; walk1) | (leave1; (try dsimp only)) | fail "no step"))
  exact hret _ [] _ _ (by assumption) (cb_drop (by assumption) (by kcj_all)) ⟨_, by rw [kInv], rfl⟩
end Mine
end

section
open PySem PySem.W PyProof.Rows PySem.Calls PyProof.V PySem.Spec
set_option maxRecDepth 100000
set_option linter.unusedVariables false
namespace Mine
theorem part24 : True := by
  k_with_none
  w_top off
  exact True.intro


/-- an indentation's level -/
noncomputable def ilv (b nt : Int) (cs : List Int) (ts : Int) : Int := b + ts * (ilSum ts cs (rangeKs ts ((cs.length : Int) - ts).toNat) + nt)
noncomputable def lon (b : Int) (cs : List Int) : Int := if b > (cs.length : Int) - 1 then b else (cs.length : Int) - 1
theorem use_longest (w : World) (mean : ExcName → Option Value) (mg mb : Str → Option Value) (news : Led) (r d q p : Addr) (x : Str) (tx : Tok) (n : Int) (tn : Tok) (nt : Int) (tnt : Tok) (b : Int) (tb : Tok) (vs : List Value) (sm : Bool) (k1 k2 k3 k4 k5 : Tok) (cs : List Int)
    (ha : ∀ z ∈ wsLed w ⟨r, d, q, p, x, tx, n, tn, nt, tnt, b, tb, vs, sm, k1, k2, k3, k4, k5⟩, z ∈ news) (hi : IntsAre vs cs) (hz : cs.length ≤ 64) :
    Spec w mean mg mb 109 2 news [.ref r] (fun v new => ∃ t, v = .int (lon b cs) t ∧ new = []) := spec_longest w mean mg mb news _ cs ha hi hz
theorem use_indent (w : World) (mean : ExcName → Option Value) (mg mb : Str → Option Value) (news : Led) (r d q p : Addr) (x : Str) (tx : Tok) (n : Int) (tn : Tok) (nt : Int) (tnt : Tok) (b : Int) (tb : Tok) (vs : List Value) (sm : Bool) (k1 k2 k3 k4 k5 : Tok) (cs : List Int) (ts : Int) (t : Tok)
    (ha : ∀ z ∈ wsLed w ⟨r, d, q, p, x, tx, n, tn, nt, tnt, b, tb, vs, sm, k1, k2, k3, k4, k5⟩, z ∈ news) (hi : IntsAre vs cs) (hz : cs.length ≤ 64) (h1 : 1 ≤ ts) (h2 : ts ≤ 64) :
    Spec w mean mg mb 116 2 news [.ref r, .int ts t] (fun v new => ∃ t, v = .int (ilv b nt cs ts) t ∧ new = []) := spec_indent w mean mg mb news _ cs ts t ha hi hz h1 h2

noncomputable def witD (fa fb : Int → Int) (ts : Int) : Dat := .tuple [.int ts, .int (fa ts), .int (fb ts)]
noncomputable def witL (p : Int → Bool) (fa fb : Int → Int) (ks : List Int) : List Dat := (ks.filter p).map (witD fa fb)

structure WitIs (p : Int → Bool) (fa fb : Int → Int) (pre : List Int) (a : List Dat) : Prop where
  eq : a = witL p fa fb pre
theorem wit_start {p : Int → Bool} {fa fb : Int → Int} : ([] : List Dat).length ≤ ([] : List Int).length ∧ WitIs p fa fb [] [] := ⟨Nat.le_refl _, ⟨rfl⟩⟩
theorem witL_push {p : Int → Bool} {fa fb : Int → Int} {pre : List Int} {k : Int} : witL p fa fb (pre ++ [k]) = witL p fa fb pre ++ (if p k = true then [witD fa fb k] else []) := by
  rw [witL, witL, List.filter_append, List.map_append]
  congr 1
  by_cases h : p k = true
  · rw [if_pos h, List.filter_cons_of_pos h]; rfl
  · rw [if_neg h, List.filter_cons_of_neg h]; rfl
theorem wit_yes {b1 b2 nt nt' : Int} {cs es pre : List Int} {a : List Dat} {k : Int} (h1 : a.length ≤ pre.length) (h2 : WitIs (fun ts => decide (ilv b1 nt cs ts ≥ ilv b2 nt' es ts)) (ilv b1 nt cs) (ilv b2 nt' es) pre a) (hc : ilv b2 nt' es k ≤ ilv b1 nt cs k) :
    (a ++ [Dat.tuple [Dat.int k, Dat.int (ilv b1 nt cs k), Dat.int (ilv b2 nt' es k)]]).length ≤ (pre ++ [k]).length ∧ WitIs (fun ts => decide (ilv b1 nt cs ts ≥ ilv b2 nt' es ts)) (ilv b1 nt cs) (ilv b2 nt' es) (pre ++ [k]) (a ++ [Dat.tuple [Dat.int k, Dat.int (ilv b1 nt cs k), Dat.int (ilv b2 nt' es k)]]) := by
  refine ⟨by rw [List.length_append, List.length_append]; simp; omega, ⟨?_⟩⟩
  rw [witL_push, if_pos (decide_eq_true hc), h2.eq]; rfl
theorem wit_no {b1 b2 nt nt' : Int} {cs es pre : List Int} {a : List Dat} {k : Int} (h1 : a.length ≤ pre.length) (h2 : WitIs (fun ts => decide (ilv b1 nt cs ts ≥ ilv b2 nt' es ts)) (ilv b1 nt cs) (ilv b2 nt' es) pre a) (hc : ¬ ilv b2 nt' es k ≤ ilv b1 nt cs k) :
    a.length ≤ (pre ++ [k]).length ∧ WitIs (fun ts => decide (ilv b1 nt cs ts ≥ ilv b2 nt' es ts)) (ilv b1 nt cs) (ilv b2 nt' es) (pre ++ [k]) a := by
  refine ⟨by rw [List.length_append]; omega, ⟨?_⟩⟩
  rw [witL_push, if_neg (by simpa using hc), List.append_nil, h2.eq]
theorem wit_yesN {b1 b2 nt nt' : Int} {cs es pre : List Int} {a : List Dat} {k : Int} (h1 : a.length ≤ pre.length) (h2 : WitIs (fun ts => decide (ilv b1 nt cs ts ≠ ilv b2 nt' es ts)) (ilv b1 nt cs) (ilv b2 nt' es) pre a) (hc : ¬ ilv b1 nt cs k = ilv b2 nt' es k) :
    (a ++ [Dat.tuple [Dat.int k, Dat.int (ilv b1 nt cs k), Dat.int (ilv b2 nt' es k)]]).length ≤ (pre ++ [k]).length ∧ WitIs (fun ts => decide (ilv b1 nt cs ts ≠ ilv b2 nt' es ts)) (ilv b1 nt cs) (ilv b2 nt' es) (pre ++ [k]) (a ++ [Dat.tuple [Dat.int k, Dat.int (ilv b1 nt cs k), Dat.int (ilv b2 nt' es k)]]) := by
  refine ⟨by rw [List.length_append, List.length_append]; simp; omega, ⟨?_⟩⟩
  rw [witL_push, if_pos (decide_eq_true hc), h2.eq]; rfl
theorem wit_noN {b1 b2 nt nt' : Int} {cs es pre : List Int} {a : List Dat} {k : Int} (h1 : a.length ≤ pre.length) (h2 : WitIs (fun ts => decide (ilv b1 nt cs ts ≠ ilv b2 nt' es ts)) (ilv b1 nt cs) (ilv b2 nt' es) pre a) (hc : ilv b1 nt cs k = ilv b2 nt' es k) :
    a.length ≤ (pre ++ [k]).length ∧ WitIs (fun ts => decide (ilv b1 nt cs ts ≠ ilv b2 nt' es ts)) (ilv b1 nt cs) (ilv b2 nt' es) (pre ++ [k]) a := by
  refine ⟨by rw [List.length_append]; omega, ⟨?_⟩⟩
  rw [witL_push, if_neg (by simpa using hc), List.append_nil, h2.eq]
theorem new_with {h₀ h : Heap} {L : Addr} {x : Addr × Obj} {tl news : Led} (N : News h₀ L h (x :: tl)) (hs : ∀ p ∈ news, p ∈ tl) : News h₀ L h ((x :: tl) ++ news) := fun p hp => by
  rcases List.mem_append.1 hp with hp | hp
  · exact N p hp
  · exact N p (.tail _ (hs p hp))
theorem wit_all {l : Led} {vs : List Value} {ds : List Dat} {p : Int → Bool} {fa fb : Int → Int} {ks : List Int} (h : DatAll l vs ds) (hw : WitIs p fa fb ks ds) : DatAll l vs (witL p fa fb ks) := hw.eq ▸ h
noncomputable def wtop (b1 : Int) (cs : List Int) (b2 : Int) (es : List Int) : Int := (if lon b2 es > lon b1 cs then lon b2 es else lon b1 cs) + 1 + 1 - 1
set_option maxHeartbeats 4000000 in
theorem spec_notless (w : World) (mean : ExcName → Option Value) (mg mb : Str → Option Value) (news : Led) (a b : WsA) (cs es : List Int) (ha : ∀ p ∈ wsLed w a, p ∈ news) (hi : IntsAre a.vs cs) (hz : cs.length ≤ 64) (hb : ∀ p ∈ wsLed w b, p ∈ news) (hj : IntsAre b.vs es) (hy : es.length ≤ 64)
    (la : 0 ≤ lon a.b cs ∧ lon a.b cs ≤ 60) (lb : 0 ≤ lon b.b es ∧ lon b.b es ≤ 60) :
    Spec w mean mg mb 144 12 news [.ref a.r, .ref b.r] (fun v new => ∃ (r : Addr) (vs : List Value) (k : Nat) (tl : Led), v = .ref r ∧ new = (r, W.listOf vs.toArray k) :: tl ∧ DatAll tl vs (witL (fun ts => decide (ilv a.b a.nt cs ts ≥ ilv b.b b.nt es ts)) (ilv a.b a.nt cs) (ilv b.b b.nt es) (rangeKs 1 (wtop a.b cs b.b es).toNat))) := by
  obtain ⟨r, d, q, p, x, tx, n, tn, nt, tnt, b1, tb, vs, sm, k1, k2, k3, k4, k5⟩ := a
  obtain ⟨r', d', q', p', x', tx', n', tn', nt', tnt', b2, tb', vs', sm', k1', k2', k3', k4', k5'⟩ := b
  unfold Spec
  intro dp un gd cn csc ad ccd cl outer A₀ base h₀ L m s Q E B KT F X N T hk hd hu hret
  have N1 := News.dups N ha
  have N' := News.dups N1 (l := wsLed w ⟨r', d', q', p', x', tx', n', tn', nt', tnt', b2, tb', vs', sm', k1', k2', k3', k4', k5'⟩) (fun p hp => List.mem_append_right _ (hb p hp))
  clear N ha N1 hb
  dsimp only [wsLed, wsEs, List.cons_append, List.nil_append] at N' hi hj la lb
  obtain ⟨la1, la2⟩ := la
  obtain ⟨lb1, lb2⟩ := lb
  dsimp only
  refine wpAny_call ?_
  k_dflt cell_enter
  (try k_gentoks)
  (rename Fr _ _ _ _ => F0; replace F0 := (show Fr _ _ _ (fun y => List.lookup y [(Str.ofString "other", Value.ref r'), (Str.ofString "self", Value.ref r)]) from F0))
  k_with_none
  k_with "my call ref" => (k_here; (try dsimp only [List.append_nil, List.cons_append, List.nil_append]); (with_reducible show wpAny _ _ (call (Value.ref 109) [Value.ref _]) _ _ _); k_dflt (refine' Spec.use ?B ?T ?F ?X ?N ?P ?k (use_longest _ _ _ _ _ _ _ _ _ _ _ _ _ _ _ _ _ _ _ _ _ _ _ _ _ ?zm ?zi ?zz) ?d ?u ?_; (case F => k_asm); (case B => k_asm); (case T => k_asm); (case X => k_asm); (case N => k_asm); (case zm => (dsimp only [wsLed, wsEs]; kcj_all)); (case zi => assumption); (case zz => assumption); (case P => k_asm); (case k => first | exact rfl | assumption); (case d => ktr_room); (case u => ktr_units); k_whole); intro v9 new9 h9 tk9 F9 N9 R9; obtain ⟨t9, e91, e92⟩ := R9; subst e91; subst e92; ((try simp only [List.nil_append, List.cons_append] at N9); (try dsimp only); (try k_fold)))
  k_with "my call ref" => (k_here; (try dsimp only [List.append_nil, List.cons_append, List.nil_append]); (with_reducible show wpAny _ _ (call (Value.ref 116) [Value.ref _, Value.int _ _]) _ _ _); k_dflt (refine' Spec.use ?iB ?iT ?iF ?iX ?iN ?iP ?ik (use_indent _ _ _ _ _ _ _ _ _ _ _ _ _ _ _ _ _ _ _ _ _ _ _ _ _ _ _ ?izm ?izi ?izz ?iz1 ?iz2) ?id ?iu ?_; (case iF => k_asm); (case iB => k_asm); (case iT => k_asm); (case iX => k_asm); (case iN => k_asm); (case izm => (dsimp only [wsLed, wsEs]; kcj_all)); (case izi => assumption); (case izz => assumption); (case iz1 => omega); (case iz2 => omega); (case iP => k_asm); (case ik => first | exact rfl | assumption); (case id => ktr_room); (case iu => ktr_units); k_whole); intro v9 new9 h9 tk9 F9 N9 R9; obtain ⟨t9, e91, e92⟩ := R9; subst e91; subst e92; ((try simp only [List.nil_append, List.cons_append] at N9); (try dsimp only); (try k_fold)))
  k_with "state" => first | exact wit_start | exact wit_yes (by assumption) (by assumption) (by assumption) | exact wit_no (by assumption) (by assumption) (by assumption)
  k_with "pyIter ref" => k_dat (fun pre a => a.length ≤ pre.length ∧ WitIs (fun ts => decide (ilv b1 nt cs ts ≥ ilv b2 nt' es ts)) (ilv b1 nt cs) (ilv b2 nt' es) pre a) "a*"
  (repeat' (first | (k_unfold; (try dsimp only)) | (k_end; wrow_close) | (walk1 <;> (try dsimp only)) | (dsimp only; walk1) | (leave1; (try dsimp only)) | fail "no step"))
  exact hret _ (_ :: _) _ _ (by assumption) (new_with (by assumption) (by intro p hp; kst_mem)) ⟨_, _, _, _, rfl, rfl, wit_all (by assumption) (by assumption)⟩
set_option maxHeartbeats 4000000 in
theorem spec_notequal (w : World) (mean : ExcName → Option Value) (mg mb : Str → Option Value) (news : Led) (a b : WsA) (cs es : List Int) (ha : ∀ p ∈ wsLed w a, p ∈ news) (hi : IntsAre a.vs cs) (hz : cs.length ≤ 64) (hb : ∀ p ∈ wsLed w b, p ∈ news) (hj : IntsAre b.vs es) (hy : es.length ≤ 64)
    (la : 0 ≤ lon a.b cs ∧ lon a.b cs ≤ 60) (lb : 0 ≤ lon b.b es ∧ lon b.b es ≤ 60) :
    Spec w mean mg mb 130 12 news [.ref a.r, .ref b.r] (fun v new => ∃ (r : Addr) (vs : List Value) (k : Nat) (tl : Led), v = .ref r ∧ new = (r, W.listOf vs.toArray k) :: tl ∧ DatAll tl vs (witL (fun ts => decide (ilv a.b a.nt cs ts ≠ ilv b.b b.nt es ts)) (ilv a.b a.nt cs) (ilv b.b b.nt es) (rangeKs 1 (wtop a.b cs b.b es).toNat))) := by
  obtain ⟨r, d, q, p, x, tx, n, tn, nt, tnt, b1, tb, vs, sm, k1, k2, k3, k4, k5⟩ := a
  obtain ⟨r', d', q', p', x', tx', n', tn', nt', tnt', b2, tb', vs', sm', k1', k2', k3', k4', k5'⟩ := b
  unfold Spec
  intro dp un gd cn csc ad ccd cl outer A₀ base h₀ L m s Q E B KT F X N T hk hd hu hret
  have N1 := News.dups N ha
  have N' := News.dups N1 (l := wsLed w ⟨r', d', q', p', x', tx', n', tn', nt', tnt', b2, tb', vs', sm', k1', k2', k3', k4', k5'⟩) (fun p hp => List.mem_append_right _ (hb p hp))
  clear N ha N1 hb
  dsimp only [wsLed, wsEs, List.cons_append, List.nil_append] at N' hi hj la lb
  obtain ⟨la1, la2⟩ := la
  obtain ⟨lb1, lb2⟩ := lb
  dsimp only
  refine wpAny_call ?_
  k_dflt cell_enter
  (try k_gentoks)
  (rename Fr _ _ _ _ => F0; replace F0 := (show Fr _ _ _ (fun y => List.lookup y [(Str.ofString "other", Value.ref r'), (Str.ofString "self", Value.ref r)]) from F0))
  k_with_none
  k_with "my call ref" => (k_here; (try dsimp only [List.append_nil, List.cons_append, List.nil_append]); (with_reducible show wpAny _ _ (call (Value.ref 109) [Value.ref _]) _ _ _); k_dflt (refine' Spec.use ?B ?T ?F ?X ?N ?P ?k (use_longest _ _ _ _ _ _ _ _ _ _ _ _ _ _ _ _ _ _ _ _ _ _ _ _ _ ?zm ?zi ?zz) ?d ?u ?_; (case F => k_asm); (case B => k_asm); (case T => k_asm); (case X => k_asm); (case N => k_asm); (case zm => (dsimp only [wsLed, wsEs]; kcj_all)); (case zi => assumption); (case zz => assumption); (case P => k_asm); (case k => first | exact rfl | assumption); (case d => ktr_room); (case u => ktr_units); k_whole); intro v9 new9 h9 tk9 F9 N9 R9; obtain ⟨t9, e91, e92⟩ := R9; subst e91; subst e92; ((try simp only [List.nil_append, List.cons_append] at N9); (try dsimp only); (try k_fold)))
  k_with "my call ref" => (k_here; (try dsimp only [List.append_nil, List.cons_append, List.nil_append]); (with_reducible show wpAny _ _ (call (Value.ref 116) [Value.ref _, Value.int _ _]) _ _ _); k_dflt (refine' Spec.use ?iB ?iT ?iF ?iX ?iN ?iP ?ik (use_indent _ _ _ _ _ _ _ _ _ _ _ _ _ _ _ _ _ _ _ _ _ _ _ _ _ _ _ ?izm ?izi ?izz ?iz1 ?iz2) ?id ?iu ?_; (case iF => k_asm); (case iB => k_asm); (case iT => k_asm); (case iX => k_asm); (case iN => k_asm); (case izm => (dsimp only [wsLed, wsEs]; kcj_all)); (case izi => assumption); (case izz => assumption); (case iz1 => omega); (case iz2 => omega); (case iP => k_asm); (case ik => first | exact rfl | assumption); (case id => ktr_room); (case iu => ktr_units); k_whole); intro v9 new9 h9 tk9 F9 N9 R9; obtain ⟨t9, e91, e92⟩ := R9; subst e91; subst e92; ((try simp only [List.nil_append, List.cons_append] at N9); (try dsimp only); (try k_fold)))
  k_with "state" => first | exact wit_start | exact wit_yesN (by assumption) (by assumption) (by assumption) | exact wit_noN (by assumption) (by assumption) (by assumption)
  k_with "pyIter ref" => k_dat (fun pre a => a.length ≤ pre.length ∧ WitIs (fun ts => decide (ilv b1 nt cs ts ≠ ilv b2 nt' es ts)) (ilv b1 nt cs) (ilv b2 nt' es) pre a) "a*"
  (repeat' (first | (k_unfold; (try dsimp only)) | (k_end; wrow_close) | (walk1 <;> (try dsimp only)) | (dsimp only; walk1) | (leave1; (try dsimp only)) | fail "no step"))
  exact hret _ (_ :: _) _ _ (by assumption) (new_with (by assumption) (by intro p hp; kst_mem)) ⟨_, _, _, _, rfl, rfl, wit_all (by assumption) (by assumption)⟩
set_option maxHeartbeats 4000000 in
theorem spec_less (w : World) (mean : ExcName → Option Value) (mg mb : Str → Option Value) (news : Led) (a b : WsA) (ha : ∀ p ∈ wsLed w a, p ∈ news) (hb : ∀ p ∈ wsLed w b, p ∈ news) (hn : a.n = b.n) :
    Spec w mean mg mb 137 2 news [.ref a.r, .ref b.r] (fun v new => v = .bool false ∧ new = []) := by
  obtain ⟨r, d, q, p, x, tx, n, tn, nt, tnt, b1, tb, vs, sm, k1, k2, k3, k4, k5⟩ := a
  obtain ⟨r', d', q', p', x', tx', n', tn', nt', tnt', b2, tb', vs', sm', k1', k2', k3', k4', k5'⟩ := b
  unfold Spec
  intro dp un gd cn csc ad ccd cl outer A₀ base h₀ L m s Q E B KT F X N T hk hd hu hret
  have N1 := News.dups N ha
  have N' := News.dups N1 (l := wsLed w ⟨r', d', q', p', x', tx', n', tn', nt', tnt', b2, tb', vs', sm', k1', k2', k3', k4', k5'⟩) (fun p hp => List.mem_append_right _ (hb p hp))
  clear N ha N1 hb
  dsimp only [wsLed, wsEs, List.cons_append, List.nil_append] at N' hn
  dsimp only
  refine wpAny_call ?_
  k_dflt cell_enter
  (try k_gentoks)
  (rename Fr _ _ _ _ => F0; replace F0 := (show Fr _ _ _ (fun y => List.lookup y [(Str.ofString "other", Value.ref r'), (Str.ofString "self", Value.ref r)]) from F0))
  k_with_none
  k_with "my call ref" => (k_here; (try dsimp only [List.append_nil, List.cons_append, List.nil_append]); (with_reducible show wpAny _ _ (call (Value.ref 109) [Value.ref _]) _ _ _); k_dflt (refine' Spec.use ?B ?T ?F ?X ?N ?P ?k (use_longest _ _ _ _ _ _ _ _ _ _ _ _ _ _ _ _ _ _ _ _ _ _ _ _ _ ?zm ?zi ?zz) ?d ?u ?_; (case F => k_asm); (case B => k_asm); (case T => k_asm); (case X => k_asm); (case N => k_asm); (case zm => (dsimp only [wsLed, wsEs]; kcj_all)); (case zi => assumption); (case zz => assumption); (case P => k_asm); (case k => first | exact rfl | assumption); (case d => ktr_room); (case u => ktr_units); k_whole); intro v9 new9 h9 tk9 F9 N9 R9; obtain ⟨t9, e91, e92⟩ := R9; subst e91; subst e92; ((try simp only [List.nil_append, List.cons_append] at N9); (try dsimp only); (try k_fold)))
  k_with "my call ref" => (k_here; (try dsimp only [List.append_nil, List.cons_append, List.nil_append]); (with_reducible show wpAny _ _ (call (Value.ref 116) [Value.ref _, Value.int _ _]) _ _ _); k_dflt (refine' Spec.use ?iB ?iT ?iF ?iX ?iN ?iP ?ik (use_indent _ _ _ _ _ _ _ _ _ _ _ _ _ _ _ _ _ _ _ _ _ _ _ _ _ _ _ ?izm ?izi ?izz ?iz1 ?iz2) ?id ?iu ?_; (case iF => k_asm); (case iB => k_asm); (case iT => k_asm); (case iX => k_asm); (case iN => k_asm); (case izm => (dsimp only [wsLed, wsEs]; kcj_all)); (case izi => assumption); (case izz => assumption); (case iz1 => omega); (case iz2 => omega); (case iP => k_asm); (case ik => first | exact rfl | assumption); (case id => ktr_room); (case iu => ktr_units); k_whole); intro v9 new9 h9 tk9 F9 N9 R9; obtain ⟨t9, e91, e92⟩ := R9; subst e91; subst e92; ((try simp only [List.nil_append, List.cons_append] at N9); (try dsimp only); (try k_fold)))
  (repeat' (first | (k_unfold; (try dsimp only)) | (k_end; wrow_close) | (walk1 <;> (try dsimp only)) | (dsimp only; walk1) | (leave1; (try dsimp only)) | fail "no step"))
  all_goals first | exact hret _ [] _ _ (by assumption) (cb_drop (by assumption) (by kcj_all)) ⟨rfl, rfl⟩ | (exfalso; omega)
end Mine
end

section
open PySem PySem.W PyProof.Rows PySem.Calls PyProof.V PySem.Spec
set_option maxRecDepth 100000
set_option linter.unusedVariables false
namespace Mine
theorem part25 : True := by
  k_with_none
  w_top off
  exact True.intro


theorem datInts (l : Led) {vs : List Value} {cs : List Int} (h : IntsAre vs cs) : DatAll l vs (cs.map Dat.int) := by
  induction h with
  | nil => exact .nil
  | cons a t r ih => exact .cons (.int a t) ih
theorem okInts (n : Nat) (cs : List Int) : (cs.map Dat.int).all (kqdOk n) = true := by
  simp only [List.all_map, List.all_eq_true]; intro c _; cases n <;> rfl
section
variable {prog : Program} {w : World} {A : Around} {E : Value → Shared → Prop} {s : Shared} {h₀ : Heap} {L : Addr} {news : Led} {Q : Value → Shared → Prop}
theorem shaped_of {d : PyData} (h1 : d.canLay0 = true) (h2 : d.depth ≤ 9) : SeqAt.shaped d = true := by
  unfold SeqAt.shaped; rw [h1, Bool.true_and]; exact decide_eq_true (Nat.le_trans h2 (by decide))
open Classical in
theorem eq_dat {a b : Value} {d e : Dat} (N : News h₀ L s.heap news) (Da : DatIn news a d) (Db : DatIn news b e) (ha : kqdOk 8 d = true) (hb : kqdOk 8 e = true) (hu : A.units + 64 < cLine) (h : Q (.bool (decide (d = e))) s) :
    wpAny (model prog w) A (compareOp .Eq a b) Q E s := by
  obtain ⟨as, ra⟩ := kqd_in N 8 Da ha
  obtain ⟨bs, rb⟩ := kqd_in N 8 Db hb
  have la := kqd_lay 8 d ha
  have lb := kqd_lay 8 e hb
  have e1 : PyData.eqv (kqdP d) (kqdP e) = decide (d = e) := by
    have q := kqd_eqv 8 d e 8 ha hb
    by_cases hq : d = e
    · rw [decide_eq_true hq]; exact q.mpr hq
    · rw [decide_eq_false hq]; exact Bool.eq_false_iff.mpr fun x => hq (q.mp x)
  exact eq_dataH ra rb (shaped_of la.1 (by omega)) (shaped_of lb.1 (by omega)) hu (by rw [e1]; exact h)
open Classical in
theorem eq_norm {q q' p p' : Addr} {vs vs' : List Value} {cs es : List Int} {b b' : Int} {tb tb' : Tok} {n n' k k' : Nat} (N : News h₀ L s.heap news) (m1 : (q, ({ cls := .type "tuple", data := .seq #[.ref p, .int b tb] n } : Obj)) ∈ news) (m2 : (p, ({ cls := .type "tuple", data := .seq vs.toArray k } : Obj)) ∈ news)
    (m3 : (q', ({ cls := .type "tuple", data := .seq #[.ref p', .int b' tb'] n' } : Obj)) ∈ news) (m4 : (p', ({ cls := .type "tuple", data := .seq vs'.toArray k' } : Obj)) ∈ news) (i1 : IntsAre vs cs) (i2 : IntsAre vs' es) (hne : cs ≠ es) (hu : A.units + 64 < cLine) (h : Q (.bool false) s) :
    wpAny (model prog w) A (compareOp .Eq (.ref q) (.ref q')) Q E s := by
  refine eq_dat (d := .tuple [.tuple (cs.map Dat.int), .int b]) (e := .tuple [.tuple (es.map Dat.int), .int b']) N (.tuple (vs := [.ref p, .int b tb]) m1 (.cons (.tuple m2 (datInts _ i1)) (.cons (.int _ _) .nil))) (.tuple (vs := [.ref p', .int b' tb']) m3 (.cons (.tuple m4 (datInts _ i2)) (.cons (.int _ _) .nil))) ?_ ?_ hu ?_
  · simp only [kqdOk, List.all_cons, List.all_nil, okInts, Bool.and_true]
  · simp only [kqdOk, List.all_cons, List.all_nil, okInts, Bool.and_true]
  · rw [decide_eq_false]
    · exact h
    · intro e
      injection e with e
      injection e with e1 _
      injection e1 with e1
      exact hne (List.map_inj_right (fun a b h => by injection h) |>.1 e1)
end
set_option maxHeartbeats 4000000 in
theorem spec_equal (w : World) (mean : ExcName → Option Value) (mg mb : Str → Option Value) (news : Led) (a b : WsA) (cs es : List Int) (ha : ∀ p ∈ wsLed w a, p ∈ news) (hi : IntsAre a.vs cs) (hb : ∀ p ∈ wsLed w b, p ∈ news) (hj : IntsAre b.vs es) (hne : cs ≠ es) :
    Spec w mean mg mb 123 12 news [.ref a.r, .ref b.r] (fun v new => v = .bool false ∧ new = []) := by
  obtain ⟨r, d, q, p, x, tx, n, tn, nt, tnt, b1, tb, vs, sm, k1, k2, k3, k4, k5⟩ := a
  obtain ⟨r', d', q', p', x', tx', n', tn', nt', tnt', b2, tb', vs', sm', k1', k2', k3', k4', k5'⟩ := b
  unfold Spec
  intro dp un gd cn csc ad ccd cl outer A₀ base h₀ L m s Q E B KT F X N T hk hd hu hret
  have N1 := News.dups N ha
  have N' := News.dups N1 (l := wsLed w ⟨r', d', q', p', x', tx', n', tn', nt', tnt', b2, tb', vs', sm', k1', k2', k3', k4', k5'⟩) (fun p hp => List.mem_append_right _ (hb p hp))
  clear N ha N1 hb
  dsimp only [wsLed, wsEs, List.cons_append, List.nil_append] at N' hi hj
  dsimp only
  refine wpAny_call ?_
  k_dflt cell_enter
  k_with_none
  k_with "my compareOp Eq ref ref" => (k_here; k_dflt (refine' eq_norm ?kN ?m1 ?m2 ?m3 ?m4 ?i1 ?i2 ?hn ?hu ?_; (case kN => k_asm); (case m1 => k_mem); (case m2 => k_mem); (case m3 => k_mem); (case m4 => k_mem); (case i1 => assumption); (case i2 => assumption); (case hn => assumption); (case hu => ktr_units); k_whole))
  k_steps
  exact hret _ [] _ _ (by assumption) (cb_drop (by assumption) (by kcj_all)) ⟨rfl, rfl⟩
end Mine
end

section
open PySem PySem.W PyProof.Rows PySem.Calls PyProof.V PySem.Spec
set_option maxRecDepth 100000
set_option linter.unusedVariables false
namespace Mine
theorem part26 : True := by
  k_with_none
  w_top off
  exact True.intro


section
variable {prog : Program} {w : World} {A : Around} {E : Value → Shared → Prop} {s : Shared} {h₁ h₀ : Heap} {c P L : Addr} {ps : Array Value} {m mg : Str → Option Value} {bm : Addr} {ob : Obj}
theorem genAt_move {a : Addr} {g : Nat} {C : Addr} {fp wr : List Addr} {pz : Nat → Bool} {n₀ j : Nat} {F : Nat → Value → Prop} {s s' : Shared} (hcs : cStatics ∈ fp) (x : GenAt prog w A a g C fp wr pz n₀ F j s)
    (hk : ∀ b ∈ a :: C :: fp, ∀ o, s.heap.get? b = some o → s'.heap.get? b = some o) (hg : s'.gens = s.gens) : GenAt prog w A a g C fp wr pz n₀ F j s' := by
  obtain ⟨x1, x2, gs, x3, x4⟩ := x
  refine ⟨?_, ?_, gs, by rw [hg]; exact x3, fun s'' h => x4 s'' fun b hb o e => h b hb o (hk b (.tail _ hb) o e)⟩
  · obtain ⟨o, vs, t, e, r⟩ := x1
    exact ⟨o, vs, t, hk a (.head _) o e, r⟩
  · obtain ⟨mc, n1, n2⟩ := x2
    exact ⟨mc, n1.at' fun o e => hk _ (.tail _ (.tail _ hcs)) o e, n2⟩
/-- the addresses of a base heap that are alive -/
noncomputable def aliveOf (h : Heap) : List Addr := (List.range h.objs.size).filter fun b => (h.get? b).isSome
theorem mem_alive {h : Heap} {b : Addr} : b ∈ aliveOf h ↔ ∃ o, h.get? b = some o := by
  unfold aliveOf
  rw [List.mem_filter, List.mem_range]
  constructor
  · rintro ⟨_, h2⟩
    exact Option.isSome_iff_exists.1 h2
  · rintro ⟨o, e⟩
    exact ⟨Heap.lt_size e, by rw [e]; rfl⟩
noncomputable abbrev grownOf (h₀ : Heap) (P : Addr) (ps : Array Value) (pos : Pos) (c' : Addr) : Heap := regrown h₀ P (ps ++ #[rawInt pos.line, rawInt pos.col, .ref c'])
theorem genexp_mine {env : Env} {elt iter : PySem.Expr} {x : Str} {px : Pos} {scope : Scope} {cl : List (Str × Addr)} {pos : Pos} {Q : Value → Shared → Prop} {l : Addr} {items : Array Value} {F : Nat → Value → Prop}
    (B : Based h₁ h₀ c P ps) (M : BMod h₀ env.globals mg bm ob) (hcode : env.code = .ref c) (hnf : codeAmong pos ps.toList = none)
    (hh : A.handled = none) (hco : scope.isCoroutine = false) (hclos : closureFor scope env = pure cl) (hcell : ∀ y ∈ scope.names, y.2 ≠ .cell) (h0 : scope.names.lookup (".0" : Str) = some NameKind.local)
    (hx : scope.names.lookup x = some .local) (hkind : scope.kind = .function) (hroom : A.depth < recursionLimit)
    (F₀ : Fr h₀ L s.heap m) (G₀ : AllBare s.gens) (hlim : h₀.NoLimit) (hl : h₀.IsList l items) (hlP : l ≠ P)
    (hit : wpAny (model prog w) A (eval iter env) (fun xv s₁ => xv = .ref l ∧ s₁ = s) E s)
    (hq : ∀ (c' C : Addr) (A' : Around) (E' : Value → Shared → Prop) (i : Nat) (v : Value) (t : Shared) (m₂ : Str → Option Value), A'.handled = none → items[i]? = some v → t.heap.Ns C m₂ → m₂ x = some v →
      (∀ b o, (grownOf h₀ P ps pos c').get? b = some o → t.heap.get? b = some o) →
      wpAny (model prog w) A' (eval elt (genEnv scope cl C (.ref c') builtinsNs env)) (fun y s₃ => F i y ∧ Keeps t s₃) E' t)
    (hQ : ∀ (c' a C I : Addr) (oa oC oI : Obj) (h₅ : Heap) (tk : Nat) (gens : Array GenState), Based h₁ (grownOf h₀ P ps pos c') c P (ps ++ #[rawInt pos.line, rawInt pos.col, .ref c']) → Fr (grownOf h₀ P ps pos c') L h₅ m →
      News (grownOf h₀ P ps pos c') L h₅ [(a, oa), (C, oC), (I, oI)] → AllBare gens →
      (∀ (s' : Shared) m', s'.gens = gens → Fr (grownOf h₀ P ps pos c') L s'.heap m' → News (grownOf h₀ P ps pos c') L s'.heap [(a, oa), (C, oC), (I, oI)] →
        Gen prog w A L a (passing (fun _ => true) items.size 0).length (fun j y => ∃ i, (passing (fun _ => true) items.size 0)[j]? = some i ∧ F i y) s') →
      Q (.ref a) { s with heap := h₅, toks := tk, gens := gens })
    (hs : ∀ x, genFold iter env x = pure x) :
    wpAny (model prog w) A (eval (.GeneratorExp elt [⟨.Name x px, iter, [], 0⟩] scope pos) env) Q E s := by
  refine wpAny_GeneratorExp_make (cl := cl) hco hclos hcell h0 hkind hroom (wpAny_mono hit (fun xv s₁ e => ?_) fun _ _ e => e) hs
  obtain ⟨e1, e2⟩ := e
  have e3 := e2.symm
  subst e1; subst e3; clear e2
  have hl' : s.heap.IsList l items := let ⟨o, a, r⟩ := hl; ⟨o, F₀.keep _ _ a, r⟩
  have hlt : l < s.heap.objs.size := by obtain ⟨_, e, _⟩ := hl'; exact Heap.lt_size e
  refine wpAny_pyIter_list hl' ?_
  have up1 : ∀ b o, s.heap.get? b = some o → (s.heap.push { cls := .type "list_iterator", data := .fields #[.ref l, .int 0 0] }).get? b = some o := fun b o e => Heap.get?_push_of_some _ e
  have F₂ := F₀.keeps up1
  refine ⟨hlim.keeps F₂.keep, wpAny_genexprCodeX hcode (B.codeAt F₂) (B.tabAt F₂) hnf fun c' h₃ tk₃ hx₃ hge hlt₃ hcode₃ _ htab₃ _ => ?_⟩
  obtain ⟨B₃, F₃⟩ := B.grow F₂ hx₃ hcode₃ htab₃
  have M₃ : BMod h₃ env.globals mg bm ob := (M.keeps F₂.keep).extBut (B.tabAt F₂) hx₃
  have hcP : cStatics ≠ P := fun e => by
    obtain ⟨_, hns, _⟩ := hlim
    obtain ⟨o, es, ep, ho, hd, _⟩ := hns
    rw [e, B.tab.2] at ho; cases ho; cases hd
  have hl₃ : h₃.NoLimit := (hlim.keeps F₂.keep).extBut hx₃ hcP
  refine wpAny_builtinsFor M₃.ns M₃.name M₃.ne M₃.obj M₃.cls M₃.dict M₃.data ?_
  intro h' hn' hs'
  dsimp only at hn' hs' hge hlt₃ hx₃ ⊢
  have z1 : (s.heap.push { cls := .type "list_iterator", data := .fields #[.ref l, .int 0 0] }).objs.size = s.heap.objs.size + 1 := Heap.size_push ..
  have hsz : h'.objs.size = h₃.objs.size + 1 := by rw [hs'.1, Heap.size_push]
  have I₃ : h₃.get? s.heap.objs.size = some { cls := .type "list_iterator", data := .fields #[.ref l, .int 0 0] } := hx₃ _ _ (fun e => absurd (Heap.lt_size (B.tabAt F₀).2) (by rw [← e]; exact Nat.lt_irrefl _)) (Heap.get?_push_size _ rfl)
  have hI₃ : @LT.lt Nat _ s.heap.objs.size h₃.objs.size := Heap.lt_size I₃
  have hs3 : @LT.lt Nat _ s.heap.objs.size h'.objs.size := by rw [hsz]; exact Nat.lt_succ_of_lt hI₃
  have keep' : ∀ b o, h₃.get? b = some o → h'.get? b = some o := fun b o e => hs'.extBut b o (Nat.ne_of_lt (Heap.lt_size e)) (Heap.get?_push_of_some _ e)
  have G₀s : (grownOf h₀ P ps pos c').objs.size ≤ L := F₃.above
  have hLs : @LT.lt Nat _ L s.heap.objs.size := F₀.ns.lt
  have hn'' := hn'
  obtain ⟨oC, esC, epC, hoC, hdC⟩ := hn''
  have hgenD : ({ cls := .type "generator", data := .fields #[.int s.gens.size 0, .str "<genexpr>" (tk₃ + 1), .str (env.qual ++ "<genexpr>") (tk₃ + 1 + 1)] } : Obj).isFreed = false := rfl
  generalize hgen : ({ cls := .type "generator", data := .fields #[.int s.gens.size 0, .str "<genexpr>" (tk₃ + 1), .str (env.qual ++ "<genexpr>") (tk₃ + 1 + 1)] } : Obj) = oa at hgenD
  have keep₅ : ∀ b o, h₃.get? b = some o → (h'.push oa).get? b = some o := fun b o e => Heap.get?_push_of_some _ (keep' b o e)
  have F₅ : Fr (grownOf h₀ P ps pos c') L (h'.push oa) m := F₃.keeps keep₅
  have none₀ : ∀ b, s.heap.objs.size ≤ b → (grownOf h₀ P ps pos c').get? b = none := fun b hb => Heap.get?_none_of_le (Nat.le_trans (Nat.le_trans G₀s (Nat.le_of_lt hLs)) hb)
  have N₅ : News (grownOf h₀ P ps pos c') L (h'.push oa) [(h'.objs.size, oa), (h₃.objs.size, oC), (s.heap.objs.size, { cls := .type "list_iterator", data := .fields #[.ref l, .int 0 0] })] := by
    exact List.forall_mem_cons.2 ⟨⟨Heap.get?_push_size _ hgenD, Nat.ne_of_gt (Nat.lt_trans hLs hs3), none₀ _ (Nat.le_of_lt hs3)⟩, List.forall_mem_cons.2 ⟨⟨Heap.get?_push_of_some _ hoC, Nat.ne_of_gt (Nat.lt_trans hLs hI₃), none₀ _ (Nat.le_of_lt hI₃)⟩, List.forall_mem_cons.2 ⟨⟨keep₅ _ _ I₃, Nat.ne_of_gt hLs, none₀ _ (Nat.le_refl _)⟩, List.forall_mem_nil _⟩⟩⟩
  have csA : cStatics ∈ aliveOf (grownOf h₀ P ps pos c') := by
    obtain ⟨mc, hns, _⟩ := hlim
    obtain ⟨o, es, ep, ho, _⟩ := hns
    exact mem_alive.2 ⟨o, (Heap.get?_update_other _ _ (Ne.symm hcP)).trans ho⟩
  have lA : l ∈ aliveOf (grownOf h₀ P ps pos c') := let ⟨o, ho, _⟩ := hl; mem_alive.2 ⟨o, (Heap.get?_update_other _ _ (Ne.symm hlP)).trans ho⟩
  have ltA : ∀ b ∈ aliveOf (grownOf h₀ P ps pos c'), @LT.lt Nat _ b L := fun b hb => let ⟨o, e⟩ := mem_alive.1 hb; Nat.lt_of_lt_of_le (Heap.lt_size e) G₀s
  have W₀ : ∀ A' : Around, A'.handled = none → Walks prog w A' s.heap.objs.size (s.heap.objs.size :: aliveOf (grownOf h₀ P ps pos c')) [s.heap.objs.size] items.size (fun i v => items[i]? = some v) (fun i h => h.IsListIter s.heap.objs.size l i ∧ h.IsList l items) := fun A' hA =>
    (Walks.list hA _ l (Nat.ne_of_lt hlt) items).mono_fp fun b hb => by
      rcases List.mem_cons.mp hb with rfl | hb
      · exact .head _
      · rw [List.mem_singleton.mp hb]; exact .tail _ lA
  have hl₅ : (h'.push oa).IsList l items := let ⟨o, ho, r⟩ := hl; ⟨o, F₅.keep _ _ ((Heap.get?_update_other _ _ (Ne.symm hlP)).trans ho), r⟩
  have hCf : h₃.objs.size ∉ s.heap.objs.size :: aliveOf (grownOf h₀ P ps pos c') := fun hm => by
    rcases List.mem_cons.mp hm with e | hm
    · exact Nat.ne_of_gt hI₃ e
    · exact Nat.lt_asymm (ltA _ hm) (Nat.lt_trans hLs hI₃)
  have hav : h'.objs.size ∉ s.heap.objs.size :: aliveOf (grownOf h₀ P ps pos c') := fun hm => by
    rcases List.mem_cons.mp hm with e | hm
    · exact Nat.ne_of_gt hs3 e
    · exact Nat.lt_asymm (ltA _ hm) (Nat.lt_trans hLs hs3)
  have hcw : cStatics ∉ [s.heap.objs.size] := fun hm => by
    exact Nat.ne_of_lt (Nat.lt_trans (ltA _ csA) hLs) (List.mem_singleton.mp hm)
  refine hQ c' h'.objs.size h₃.objs.size s.heap.objs.size oa oC _ (h'.push oa) _ _ B₃ F₅ N₅ (G₀.push rfl) fun s' m' hg' F' N' => ?_
  have at₅ : GenAt prog w A.in4 h'.objs.size s.gens.size h₃.objs.size (s.heap.objs.size :: aliveOf (grownOf h₀ P ps pos c')) [s.heap.objs.size] (fun _ => true) items.size F 0
      { s with gens := s.gens.push (.fresh (.compStart (.GeneratorExp elt [⟨.Name x px, iter, [], 0⟩] scope pos) 0 (.ref s.heap.objs.size) .none (genEnv scope cl h₃.objs.size (.ref c') builtinsNs env))), toks := tk₃ + 1 + 1 + 1, heap := h'.push oa } := by
    refine GenAt.freshD (A := A.in4) (cenv := genEnv scope cl h₃.objs.size (.ref c') builtinsNs env) (m := fun y => if y = ".0" then some (.ref s.heap.objs.size) else none) hh W₀ _ F hx (by simp [genEnv, hkind]) hco hCf ?_ ⟨_, _, _, Heap.get?_push_size _ hgenD, by rw [← hgen], by rw [← hgen], by rw [← hgen]⟩ (Array.getElem?_push_size ..) ⟨⟨_, keep₅ _ _ I₃, rfl, rfl⟩, hl₅⟩ (hn'.push _) ((hl₃.keeps keep₅))
    refine ⟨fun A' E' i v s₂ m₂ hA _ _ hP hn hm hk => wpAny_pure ⟨rfl, keeps_refl _⟩, fun A' E' i v s₂ m₂ hA _ _ hP _ hn hm hk => hq c' h₃.objs.size A' E' i v s₂ m₂ hA hP hn hm fun b o e => ?_⟩
    have hb : b ∈ aliveOf (grownOf h₀ P ps pos c') := mem_alive.2 ⟨o, e⟩
    exact hk b (.tail _ hb) (fun hm => Nat.ne_of_lt (Nat.lt_trans (ltA _ hb) hLs) (List.mem_singleton.mp hm)) o (F₅.keep _ _ e)
  have same : ∀ b ∈ h'.objs.size :: h₃.objs.size :: s.heap.objs.size :: aliveOf (grownOf h₀ P ps pos c'), ∀ o, (h'.push oa).get? b = some o → s'.heap.get? b = some o := by
    intro b hb o e
    rcases List.mem_cons.mp hb with rfl | hb
    · rw [(N₅ _ (.head _)).1] at e; cases e; exact (N' _ (.head _)).1
    · rcases List.mem_cons.mp hb with rfl | hb
      · rw [(N₅ _ (.tail _ (.head _))).1] at e; cases e; exact (N' _ (.tail _ (.head _))).1
      · rcases List.mem_cons.mp hb with rfl | hb
        · rw [(N₅ _ (.tail _ (.tail _ (.head _)))).1] at e; cases e; exact (N' _ (.tail _ (.tail _ (.head _)))).1
        · obtain ⟨o', e'⟩ := mem_alive.1 hb
          rw [F₅.keep _ _ e'] at e; cases e
          exact F'.keep _ _ e'
  refine ⟨_, _, _, _, WalksS.genexpQ (A := A.in4) hh h'.objs.size s.gens.size h₃.objs.size (s.heap.objs.size :: aliveOf (grownOf h₀ P ps pos c')) [s.heap.objs.size] (fun _ => true) items.size F (show @Ne Nat _ _ by omega) hav (fun b hb => by rw [List.mem_singleton.mp hb]; exact .head _) hroom (.tail _ csA) (fun e => hCf (e ▸ .tail _ csA)) hcw, genAt_move (.tail _ csA) at₅ same hg', fun i s' st => st.1.typeIs, .head _, ?_, ?_⟩
  · intro b hb
    rcases List.mem_cons.mp hb with rfl | hb
    · exact Heap.lt_size (N' _ (.head _)).1
    · rcases List.mem_cons.mp hb with rfl | hb
      · exact Heap.lt_size (N' _ (.tail _ (.head _))).1
      · rcases List.mem_cons.mp hb with rfl | hb
        · exact Heap.lt_size (N' _ (.tail _ (.tail _ (.head _)))).1
        · obtain ⟨o', e'⟩ := mem_alive.1 hb
          exact Heap.lt_size (F'.keep _ _ e')
  · intro b hb
    rcases List.mem_cons.mp hb with rfl | hb
    · exact (show @LT.lt Nat _ _ _ by omega)
    · rw [List.mem_singleton.mp hb]; exact hLs
end
end Mine
end

section
open PySem PySem.W PyProof.Rows PySem.Calls PyProof.V PySem.Spec
set_option maxRecDepth 100000
set_option linter.unusedVariables false
namespace Mine
theorem part27 : True := by
  k_with_none
  w_top off
  exact True.intro



theorem datAll_get {l : Led} : ∀ {vs : List Value} {ds : List Dat}, DatAll l vs ds → ∀ (i : Nat) (v : Value), vs[i]? = some v → ∃ d, ds[i]? = some d ∧ DatIn l v d
  | _, _, .nil, i, v, h => by simp at h
  | _, _, .cons a r, 0, v, h => ⟨_, rfl, by simp at h; subst h; exact a⟩
  | _, _, .cons a r, i + 1, v, h => by simpa using datAll_get r i v (by simpa using h)
theorem datAll_len {l : Led} : ∀ {vs : List Value} {ds : List Dat}, DatAll l vs ds → vs.length = ds.length
  | _, _, .nil => rfl
  | _, _, .cons _ r => by simp [datAll_len r]
theorem tup3 {l : Led} {v : Value} {a b c : Int} (h : DatIn l v (.tuple [.int a, .int b, .int c])) : ∃ p n ta tb tc, v = .ref p ∧ (p, ({ cls := .type "tuple", data := .seq #[.int a ta, .int b tb, .int c tc] n } : Obj)) ∈ l := by
  cases h with
  | tuple hm r =>
    cases r with | cons a1 r => cases r with | cons a2 r => cases r with | cons a3 r => cases r with | nil =>
      cases a1; cases a2; cases a3
      exact ⟨_, _, _, _, _, rfl, hm⟩
section
variable {M : Model} {A : Around} {E : Value → Shared → Prop} {s : Shared} {scope : Scope} {cl : List (Str × Addr)} {C : Addr} {code : Value} {env : Env} {m₂ mg mb : Str → Option Value} {x : Str} {pos : Pos} {v : Value} {Q : Value → Shared → Prop}
theorem gen_local (hn : s.heap.Ns C m₂) (hx : m₂ x = some v) (h : Q v s)
    (hk : (genEnv scope cl C code builtinsNs env).scope.kind = .function := by rfl) (hl : (genEnv scope cl C code builtinsNs env).kindOf x = some .local := by rfl) (hd : (x == ("__debug__" : Str)) = false := by decide) :
    wpAny M A (eval (.Name x pos) (genEnv scope cl C code builtinsNs env)) Q E s := wpAny_Name (wpAny_loadName_local hk hl hn hx h) hd
theorem gen_built (hg : s.heap.Ns mainGlobals mg) (hm : mg x = none) (hb : s.heap.Ns builtinsNs mb) (hv : mb x = some v) (h : Q v s) (he : env.globals = mainGlobals := by rfl)
    (hk : (genEnv scope cl C code builtinsNs env).scope.kind = .function := by rfl) (hl : (genEnv scope cl C code builtinsNs env).kindOf x = some .globalImplicit := by rfl) (hd : (x == ("__debug__" : Str)) = false := by decide) :
    wpAny M A (eval (.Name x pos) (genEnv scope cl C code builtinsNs env)) Q E s :=
  Name_function_global hk hl (loadGlobal_builtin (env := genEnv scope cl C code builtinsNs env) (show s.heap.Ns env.globals mg from he ▸ hg) hm hb hv h) hd
end
theorem num_txt : ∀ n < 65, (Str.ofString (toString ((n : Nat) : Int))).length ≤ 2 := by decide +kernel
theorem num_txtI {k : Int} (h0 : 0 ≤ k) (h1 : k ≤ 64) : (Str.ofString (toString k)).length ≤ 2 := by
  obtain ⟨n, rfl⟩ := Int.eq_ofNat_of_zero_le h0
  exact num_txt n (by omega)
theorem nums_len {ks : List Int} (hks : ∀ s ∈ ks, 0 ≤ s ∧ s ≤ 64) (hl : ks.length ≤ 64) : ((ks.map fun s : Int => (Str.ofString (toString s))).map (·.length)).sum + (ks.map fun s : Int => (Str.ofString (toString s))).length * (Str.ofString ", ").length ≤ 256 := by
  have h := sumLen_le_of_bound (fun s : Int => (Str.ofString (toString s))) 2 ks fun a ha => num_txtI (hks a ha).1 (hks a ha).2
  have e : (Str.ofString ", ").length = 2 := by decide
  rw [List.length_map, e]
  omega
theorem nums_join {ks : List Int} (hks : ∀ s ∈ ks, 0 ≤ s ∧ s ≤ 64) (hl : ks.length ≤ 64) : JoinOk (Str.ofString ", ") (ks.map fun s : Int => (Str.ofString (toString s))) = true ∧ (Txt.join (Str.ofString ", ") (ks.map fun s : Int => (Str.ofString (toString s)))).length ≤ 256 := by
  have h := nums_len hks hl
  refine ⟨joinOk_of (Nat.le_trans h (by decide)), ?_⟩
  show (Builtin.Str.glued _ _).length ≤ _
  rw [StrLaws.glued_eq_join]
  exact Nat.le_trans (StrLaws.join_length_le _ _) h
theorem range_map_getD (ks : List Int) : (List.range ks.length).map (fun j => Str.ofString (toString (ks.getD j 0))) = ks.map fun s : Int => Str.ofString (toString s) := by
  apply List.ext_getElem
  · simp
  · intro i h1 h2
    have h3 : i < ks.length := by simpa using h2
    simp [List.getD_eq_getElem?_getD, h3]
theorem prefix_S : (Str.ofString "at tab size" ++ Str.ofString "s" : Str) = Str.ofString "at tab sizes" := by decide +kernel
set_option maxHeartbeats 4000000 in
theorem spec_fmt (w : World) (mean : ExcName → Option Value) (mg mb : Str → Option Value) (news : Led) (r : Addr) (vs : List Value) (k : Nat) (tl : Led) (ks : List Int) (e : Int)
    (hm : ∀ p ∈ (r, W.listOf vs.toArray k) :: tl, p ∈ news) (hD : DatAll tl vs (ks.map fun s => Dat.tuple [.int s, .int e, .int e])) (hks : ∀ s ∈ ks, 0 ≤ s ∧ s ≤ 64) (hl : ks.length ≤ 64) (h153 : ∀ p ∈ news, p.1 ≠ 153)
    (dp un : Nat) (gd : Option (List Code)) (cn : Str) (cs : Scope) (a : Addr) (ccd : Value) (cl : List (Str × Addr)) (outer : List Env) (A₀ : Around) (base h₀ : Heap) (L : Addr) (m : Str → Option Value) (s : Shared) (Q E : Value → Shared → Prop)
    (B : Below A₀ base outer h₀) (F : Fr h₀ L s.heap m) (X : (KK w.params).In h₀) (N : News h₀ L s.heap ((153, tabObj #[]) :: news)) (T : Top qv (looseW qv looseV) mean mg mb h₀) (hk : cs.kind = .function)
    (hd : dp + 4 < recursionLimit) (hu : un + 64 < cLine) (hg : s.gens = #[])
    (hret : ∀ (s' : Shared) (t : Tok) (ps : Array Value), Fr h₀ L s'.heap m → News h₀ L s'.heap ((153, tabObj ps) :: news) → AllBare s'.gens → s'.os = s.os →
      Q (.str ((if 1 < ks.length then Str.ofString "at tab sizes" else Str.ofString "at tab size") ++ Str.ofString " " ++ Txt.join (Str.ofString ", ") (ks.map fun s : Int => (toString s : Str))) t) s') :
    wpAny (model pw w) (ktrTop dp un gd cn cs L a ccd cl outer) (call (.ref 158) [.ref r]) Q E s := by
  k_with_none
  k_with "my eval Name" => ((with_reducible show wpAny _ _ (eval (Expr.Name (PySem.Str.ofString "tup") _) (genEnv _ _ _ _ _ _)) _ _ _); refine gen_local (by with_reducible assumption) (by with_reducible assumption) ?_ (by with_unfolding_all rfl) (by with_unfolding_all rfl) (by decide))
  k_with "my eval Name" => ((with_reducible show wpAny _ _ (eval (Expr.Name (PySem.Str.ofString "str") _) (genEnv _ _ _ _ _ _)) _ _ _); refine gen_built (by with_reducible assumption) (by with_reducible assumption) (by with_reducible assumption) (by with_reducible assumption) ?_ (by with_unfolding_all rfl) (by with_unfolding_all rfl) (by with_unfolding_all rfl) (by decide))
  k_with "my subscriptTail" => ((with_reducible show wpAny _ _ (subscriptTail _ _ (Value.ref _) (Value.int _ _)) _ _ _); refine item_tup_any (k := 0) (by assumption) (Int.le_refl 0) (by decide) (by decide) ?_; intro j9 x9 e91 e92 e93; subst e91; cases e93)
  have G0 : AllBare s.gens := .of_eq hg
  have T' := T.keeps F.keep
  have X' : (KK w.params).In s.heap := X.keeps F.keep
  have hl' := T'.nolimit
  obtain ⟨bm, ob, M⟩ := bmod_of_top T'
  have ho := X' 158 (f158 w.params) rfl
  have hcd : s.heap.CodeRec (.ref 157) (Str.ofString "format_witnesses") := by
    exact ⟨157, _, _, _, rfl, X' 157 (f157 w.params) rfl, rfl, rfl⟩
  refine wpAny_call ?_
  refine call_plain (name := Str.ofString "format_witnesses") (params := q9P) (body := q9B) (scope := q9S) (pm := .str (.ofString "cpy313.tabnanny") 2227) (doc := .none) (binds := [(Str.ofString "w", .ref r)]) ?hroom ho ?hdata hl' hcd ?hbind ?hloc ?_
  case hroom => show (ktrTop dp un gd cn cs L a ccd cl outer).depth < _; simp only [ktrTop, depth_deeper]; omega
  case hdata => rfl
  case hbind => rfl
  case hloc => exact locs rfl
  intro h₁ F₁
  have N₁ : News s.heap s.heap.objs.size h₁ [] := News.nil
  have T₁ := topRead_of T'
  have B₁ : Based s.heap s.heap 157 153 #[] := by
    have c9 : CodeHd s.heap 157 153 := ⟨_, _, _, _, _, _, _, _, _, X' 157 (f157 w.params) rfl, rfl, rfl, rfl, rfl, rfl, rfl, rfl, rfl, by decide⟩
    have t9 := (N _ (.head _)).1
    exact Based.start (c9.code t9 (by constructor)) (c9.tab t9) (by decide)
  have lgeM := LGe.Mark.mk
  have hLn : L ≠ 153 := fun e => by
    obtain ⟨o, es, ep, e1, e2, _⟩ := F.ns
    rw [e, (N _ (.head _)).1] at e1; cases e1; cases e2
  have fin : ∀ (g' h' : Heap) (ps : Array Value), (∀ b, b ≠ 153 → g'.get? b = s.heap.get? b) → g'.get? 153 = some (tabObj ps) → (∀ b o, g'.get? b = some o → h'.get? b = some o) → Fr h₀ L h' m ∧ News h₀ L h' ((153, tabObj ps) :: news) := fun g' h' ps k1 k0 k2 => by
    have k3 : ∀ b o, b ≠ 153 → s.heap.get? b = some o → h'.get? b = some o := fun b o hb e => k2 b o ((k1 b hb).trans e)
    refine ⟨⟨F.ns.at' fun o e => k3 _ o hLn e, fun b o e => k3 b o (fun q => ?_) (F.keep b o e), F.above⟩, fun p hp => ?_⟩
    rotate_left
    · rcases List.mem_cons.1 hp with rfl | hp
      · exact ⟨k2 _ _ k0, (N _ (.head _)).2⟩
      · exact ⟨k3 _ _ (h153 p hp) (N p (.tail _ hp)).1, (N p (.tail _ hp)).2⟩
    rw [q, (N _ (.head _)).2.2] at e; cases e
  clear T B F hu hcd
  (repeat' (first | (k_unfold; (try dsimp only)) | (k_end; wrow_close) | (walk1 <;> (try dsimp only)) | (dsimp only; walk1) | (leave1; (try dsimp only)) | fail "no step"))
  have hd' : (ktrTop dp un gd cn cs L a ccd cl outer).depth + 2 < recursionLimit := by simp only [ktrTop, depth_deeper]; show dp + 2 < _; omega
  have hlist : s.heap.IsList r vs.toArray := ⟨_, (N _ (.tail _ (hm _ (.head _)))).1, rfl, k, rfl⟩
  have hr153 : r ≠ 153 := h153 _ (hm _ (.head _))
  refine genexp_mine (F := fun i y => ∃ t, y = .str (Str.ofString (toString (ks.getD i 0))) t) B₁ M (by with_unfolding_all rfl) (by with_unfolding_all rfl) (by with_unfolding_all rfl) (by with_unfolding_all rfl) (by with_unfolding_all rfl) (by decide) (by with_unfolding_all rfl) (by with_unfolding_all rfl) (by with_unfolding_all rfl) ?hroom2 F₁ G0 hl' hlist hr153 ?hit ?hq ?_ (by intro _; with_unfolding_all rfl)
  case hroom2 => simp only [ktrTop, depth_deeper]; show dp + 1 < _; omega
  case hit => exact ld F₁ (v := .ref r) rfl ⟨rfl, rfl⟩
  case hq =>
    intro c' C A' E' i v t m₂ hA hi hn hx hkeep
    obtain ⟨d, hd1, hd2⟩ := datAll_get hD i v (by simpa using hi)
    rw [List.getElem?_map] at hd1
    obtain ⟨kk, hk1, hk2⟩ : ∃ kk, ks[i]? = some kk ∧ Dat.tuple [.int kk, .int e, .int e] = d := by
      cases hq : ks[i]? with
      | none => rw [hq] at hd1; cases hd1
      | some kk => rw [hq] at hd1; exact ⟨kk, rfl, by simpa using hd1⟩
    subst hk2
    obtain ⟨p, n9, ta9, tb9, tc9, rfl, hp⟩ := tup3 hd2
    have hp2 := (N _ (.tail _ (hm _ (.tail _ hp)))).1
    have hp3 : p ≠ 153 := h153 _ (hm _ (.tail _ hp))
    have up : ∀ b o, b ≠ 153 → s.heap.get? b = some o → t.heap.get? b = some o := fun b o hb e => hkeep b o ((Heap.get?_update_other _ _ (Ne.symm hb)).trans e)
    have htup : IsTup t.heap p #[.int kk ta9, .int e tb9, .int e tc9] := ⟨_, up _ _ hp3 hp2, rfl, _, rfl⟩
    have hgN : t.heap.Ns mainGlobals mg := let ⟨o, es, ep, e, r⟩ := T₁.g; ⟨o, es, ep, up _ _ (by decide) e, r⟩
    have hbN : t.heap.Ns builtinsNs mb := let ⟨o, es, ep, e, r⟩ := T₁.b; ⟨o, es, ep, up _ _ (by decide) e, r⟩
    have hmg : mg (Str.ofString "str") = none := mg_none_of X' T₁.g (by k_is)
    have hmb : mb (Str.ofString "str") = some (.type "str") := T₁.builtins _ (by decide)
    have hkk : kk = ks.getD i 0 := by rw [List.getD_eq_getElem?_getD, hk1]; rfl
    have hkb := hks kk (List.mem_of_getElem? hk1)
    clear hd1 hd2 hp hp2 hp3 up hkeep B₁ N₁ F₁ N
    rw [← hkk]
    (repeat' (first | (k_unfold; (try dsimp only)) | (k_end; wrow_close) | (walk1 <;> (try dsimp only)) | (dsimp only; walk1) | (leave1; (try dsimp only)) | fail "no step"))
    all_goals try rfl
    exact ⟨_, _, rfl, fun _ _ e => e⟩
  intro c' ag C I oa oC oI h₅ tk gens B₅ F₅ N₅ G₅ gen₅
  have T₅ : TopRead qv (looseW qv looseV) mg mb (grownOf s.heap 153 #[] { line := 88, col := 13, endLine := 88, endCol := 39 } c') := LGe.top_regrown F₅ T₁ B₁
  have X₅ : (KK w.params).In (grownOf s.heap 153 #[] { line := 88, col := 13, endLine := 88, endCol := 39 } c') := fun b o e => by
    by_cases hb : b = 153
    · subst hb
      have e' : (none : Option Obj) = some o := e
      cases e'
    · exact (Heap.get?_update_other _ _ (Ne.symm hb)).trans (X' b o e)
  have hl₅ : (grownOf s.heap 153 #[] { line := 88, col := 13, endLine := 88, endCol := 39 } c').IsList r vs.toArray := let ⟨o, ho, q⟩ := hlist; ⟨o, (Heap.get?_update_other _ _ (Ne.symm hr153)).trans ho, q⟩
  have fin₅ := fun h' => fin (grownOf s.heap 153 #[] { line := 88, col := 13, endLine := 88, endCol := 39 } c') h' _ (fun b hb => Heap.get?_update_other _ _ (Ne.symm hb)) (Heap.get?_update_self _ (N _ (.head _)).1 rfl)
  clear fin B₅ B₁ N₁ F₁ T₁ X' X lgeM N hlist
  generalize grownOf s.heap 153 #[] { line := 88, col := 13, endLine := 88, endCol := 39 } c' = g' at *
  (repeat' (first | (k_unfold; (try dsimp only)) | (k_end; wrow_close) | (walk1 <;> (try dsimp only)) | (dsimp only; walk1) | (leave1; (try dsimp only)) | fail "no step"))
  rename Fr _ _ _ _ => F9
  have hJ := nums_join hks hl
  have elen : vs.toArray.size = ks.length := by rw [List.size_toArray, datAll_len hD, List.length_map]
  have gen₆ : ∀ (s' : Shared) (m' : Str → Option Value), s'.gens = gens → Fr g' s.heap.objs.size s'.heap m' → News g' s.heap.objs.size s'.heap [(ag, oa), (C, oC), (I, oI)] →
      Gen pw w ((ktrTop dp un gd cn cs L a ccd cl outer).deeper (envOf (Str.ofString "format_witnesses") q9S s.heap.objs.size 158 (Value.ref 157))) s.heap.objs.size ag ks.length (fun j y => ∃ t, y = Value.str (Str.ofString (toString (ks.getD j 0))) t) s' := fun s' m' h1 h2 h3 => by
    have X9 := gen₅ s' m' h1 h2 h3
    rw [show passing (fun _ => true) vs.toArray.size 0 = List.range ks.length by rw [elen]; simp [passing], List.length_range] at X9
    exact X9.imp fun j y ⟨i, hi, t, e⟩ => by
      have : i = j := by
        have := (List.getElem?_eq_some_iff.1 hi).2
        simpa using this.symm
      subst this
      exact ⟨t, e⟩
  clear gen₅
  refine len_list (let ⟨o, ho, q⟩ := hl₅; ⟨o, F9.keep _ _ ho, q⟩) (by rw [elen]; omega) ?_
  rw [elen]
  (repeat' (first | (k_unfold; (try dsimp only)) | (k_end; wrow_close) | (walk1 <;> (try dsimp only)) | (dsimp only; walk1) | (leave1; (try dsimp only)) | fail "no step"))
  all_goals
    rename Fr _ _ _ _ => Fj
    rename News _ _ _ _ => Nj
    refine join_rows Fj G₅ (gen₆ _ _ rfl Fj Nj) (fun j => Str.ofString (toString (ks.getD j 0))) (fun j v hv => hv) ?jok ?_ ?jsz
    case jok => rw [range_map_getD]; exact hJ.1
    case jsz => rw [sizeLine_eq]; omega
    rw [range_map_getD]
    intro s' t' F9' G9' os9
    have hJ2 := hJ.2
    generalize Txt.join (Str.ofString ", ") (ks.map fun s : Int => (Str.ofString (toString s))) = xj at *
    (repeat' (first | (k_unfold; (try dsimp only)) | (k_end; wrow_close) | (walk1 <;> (try dsimp only)) | (dsimp only; walk1) | (leave1; (try dsimp only)) | fail "no step"))
    have f9 := fin₅ _ F9'.keep
    refine (show ∀ q, q = _ → Q (.str (q ++ Str.ofString " " ++ xj) _) _ from fun q e => e ▸ hret ⟨s'.heap, s'.gens, s'.drawn, _, s'.os⟩ _ _ f9.1 f9.2 G9' os9) _ ?_
    first | exact (if_pos (by omega)).symm | exact (if_neg (by omega)).symm
end Mine
end

section
open PySem PySem.W PyProof.Rows PySem.Calls PyProof.V PySem.Spec
set_option maxRecDepth 100000
set_option linter.unusedVariables false
namespace Mine
theorem part28 : True := by
  k_with_none
  w_top off
  exact True.intro


noncomputable def lawB1 : List Stmt := by
  have h : q17B.drop 1 = ?x := by
    conv => lhs; whnf
  exact ?x
noncomputable def lawB4 : List Stmt := by
  have h : q17B.drop 4 = ?x := by
    conv => lhs; whnf
  exact ?x
noncomputable def lawB6 : List Stmt := by
  have h : q17B.drop 6 = ?x := by
    conv => lhs; whnf
  exact ?x
noncomputable def lawB9 : List Stmt := by
  have h : q17B.drop 9 = ?x := by
    conv => lhs; whnf
  exact ?x
noncomputable def lawB12 : List Stmt := by
  have h : q17B.drop 12 = ?x := by
    conv => lhs; whnf
  exact ?x
noncomputable def lawB15 : List Stmt := by
  have h : q17B.drop 15 = ?x := by
    conv => lhs; whnf
  exact ?x
noncomputable def lawB17 : List Stmt := by
  have h : q17B.drop 17 = ?x := by
    conv => lhs; whnf
  exact ?x
noncomputable def lawB19 : List Stmt := by
  have h : q17B.drop 19 = ?x := by
    conv => lhs; whnf
  exact ?x
theorem seg_fr {h₀ h : Heap} {L : Addr} {m : Str → Option Value} {ps : List (Str × Value)} (F : Fr h₀ L h m) (hk : ∀ p ∈ ps, m p.1 = some p.2) : Fr h₀ L h (kstB m ps) := by
  have e : kstB m ps = m := by
    funext y
    exact kstB_eq hk fun _ => rfl
  rw [e]; exact F
noncomputable abbrev lawEnv (L fa : Addr) (ccd : Value) : Env := envOfC (Str.ofString "law") q17S L fa ccd
noncomputable abbrev lawA (L fa : Addr) (ccd : Value) : Around := callerA.deeper (lawEnv L fa ccd)
structure LawAt (w : World) (mean : ExcName → Option Value) (mg mb : Str → Option Value) (h₀ : Heap) (L : Addr) : Prop where
  KT : IntTab pw w h₀ 33 tabD
  X : (KK w.params).In h₀
  T : Top qv (looseW qv looseV) mean mg mb h₀
  B : Below callerA h₀ [] h₀
  hL : 153 < L
section
variable {prog : Program} {w : World} {A : Around} {E : Value → Shared → Prop} {s : Shared} {h₀ : Heap} {L l : Addr} {m : Str → Option Value} {news : Led} {vs : List Value} {ns : List Int} {n : Nat} {x : Int} {tx : Tok} {value slice : PySem.Expr} {Q : Value → Shared → Prop}
theorem cut_from (F : Fr h₀ L s.heap m) (N : News h₀ L s.heap news) (hm : (l, W.listOf vs.toArray n) ∈ news) (hi : IntsAre vs ns) (h0 : 0 ≤ x) (hz : ns.length ≤ 1000)
    (h : ∀ D ws h', Fr h₀ L h' m → News h₀ L h' ((D, W.listOf (List.toArray ws) 0) :: news) → (∀ p ∈ news, p.1 < D) → IntsAre ws (ns.drop x.toNat) → Q (.ref D) { s with heap := h' })
    (hs : subscripted slice false (.ref l) (.ref s.heap.objs.size) = operate [.ref s.heap.objs.size, .ref l] (getItem (.ref l) (.ref s.heap.objs.size)) := by with_unfolding_all rfl) (ht : ∀ r, letTemporaryGo value (.ref l) r = pure () := by intro _; with_unfolding_all rfl) :
    wpAny (model prog w) A (subscriptTail value slice (.ref l) (.ref s.heap.objs.size)) Q E { s with heap := s.heap.push { cls := .type "slice", data := .fields #[.int x tx, .none, .none] } } :=
  kmk_slice_ints F N (N.isList hm) (IsPart.int _ _) IsPart.none hi (kmk_from hi h0) rfl (fun D ws h' F' N' l1 hI' _ _ => h D ws h' F' N' l1 hI') hs ht (by rw [List.size_toArray, hi.length, sizeLine_eq]; exact Nat.le_trans hz (by decide))
theorem cut_upto (F : Fr h₀ L s.heap m) (N : News h₀ L s.heap news) (hm : (l, W.listOf vs.toArray n) ∈ news) (hi : IntsAre vs ns) (h0 : 0 ≤ x) (hz : ns.length ≤ 1000)
    (h : ∀ D ws h', Fr h₀ L h' m → News h₀ L h' ((D, W.listOf (List.toArray ws) 0) :: news) → (∀ p ∈ news, p.1 < D) → IntsAre ws (ns.take x.toNat) → Q (.ref D) { s with heap := h' })
    (hs : subscripted slice false (.ref l) (.ref s.heap.objs.size) = operate [.ref s.heap.objs.size, .ref l] (getItem (.ref l) (.ref s.heap.objs.size)) := by with_unfolding_all rfl) (ht : ∀ r, letTemporaryGo value (.ref l) r = pure () := by intro _; with_unfolding_all rfl) :
    wpAny (model prog w) A (subscriptTail value slice (.ref l) (.ref s.heap.objs.size)) Q E { s with heap := s.heap.push { cls := .type "slice", data := .fields #[.none, .int x tx, .none] } } :=
  kmk_slice_ints F N (N.isList hm) IsPart.none (IsPart.int _ _) hi (kmk_upto hi h0) rfl (fun D ws h' F' N' l1 hI' _ _ => h D ws h' F' N' l1 hI') hs ht (by rw [List.size_toArray, hi.length, sizeLine_eq]; exact Nat.le_trans hz (by decide))
end
theorem drawn_four (ns : List Int) : ∃ a b c y, List.take 4 (ns ++ List.drop ((ns.length : Int)).toNat [1, 3, 2, 2]) = [a, b, c, y] := by
  rw [Int.toNat_natCast]
  match ns with
  | [] => exact ⟨1, 3, 2, 2, rfl⟩
  | [a] => exact ⟨a, 3, 2, 2, rfl⟩
  | [a, b] => exact ⟨a, b, 2, 2, rfl⟩
  | [a, b, c] => exact ⟨a, b, c, 2, rfl⟩
  | a :: b :: c :: y :: r => exact ⟨a, b, c, y, rfl⟩
theorem ints_four {vs : List Value} {a b c y : Int} (h : IntsAre vs [a, b, c, y]) : ∃ ta tb tc ty, vs = [.int a ta, .int b tb, .int c tc, .int y ty] := by
  cases h with | cons _ t1 h => cases h with | cons _ t2 h => cases h with | cons _ t3 h => cases h with | cons _ t4 h => cases h with | nil => exact ⟨_, _, _, _, rfl⟩
set_option maxHeartbeats 8000000 in
theorem law_0 (w : World) (mean : ExcName → Option Value) (mg mb : Str → Option Value) (h₀ : Heap) (L : Addr) (s : Shared) (fa : Addr) (ccd : Value) (A : LawAt w mean mg mb h₀ L) (rs : Addr) (vs : List Value) (ns : List Int) (c1 c2 c3 c4 c5 c6 c7 : Obj)
    (F : Fr h₀ L s.heap (fun y => if y = Str.ofString "script" then some (.ref rs) else none)) (hl : h₀.IsList rs vs.toArray) (hi : IntsAre vs ns) (hz : ns.length ≤ 63)
    (N : News h₀ L s.heap [(L + 1 + 1 + 1 + 1 + 1 + 1 + 1, c1), (L + 1 + 1 + 1 + 1 + 1 + 1, c2), (L + 1 + 1 + 1 + 1 + 1, c3), (L + 1 + 1 + 1 + 1, c4), (L + 1 + 1 + 1, c5), (L + 1 + 1, c6), (L + 1, c7), (153, tabObj #[])])
    (Q : Flow → Shared → Prop) (E : Value → Shared → Prop)
    (next : ∀ h' tk rd kd xa xb xc xy ta tb tc ty (m0 : Str → Option Value), Fr h₀ L h' (kstB m0 [(Str.ofString "drawn", .ref rd), (Str.ofString "script", .ref rs)]) →
      News h₀ L h' [(rd, W.listOf #[.int xa ta, .int xb tb, .int xc tc, .int xy ty] kd), (L + 1 + 1 + 1 + 1 + 1 + 1 + 1, c1), (L + 1 + 1 + 1 + 1 + 1 + 1, c2), (L + 1 + 1 + 1 + 1 + 1, c3), (L + 1 + 1 + 1 + 1, c4), (L + 1 + 1 + 1, c5), (L + 1 + 1, c6), (L + 1, c7), (153, tabObj #[])] →
      @LT.lt Nat _ (L + 1 + 1 + 1 + 1 + 1 + 1 + 1) rd → wpAny (model pw w) (lawA L fa ccd) (execs lawB1 (lawEnv L fa ccd)) Q E { s with heap := h', toks := tk }) :
    wpAny (model pw w) (lawA L fa ccd) (execs q17B (lawEnv L fa ccd)) Q E s := by
  obtain ⟨KT, X, T, B, hL⟩ := A
  k_with_none
  k_with "my cutlen" => first | exact Nat.le_of_ble_eq_true rfl | omega | (simp only [List.length_append, List.length_drop, List.length_cons, List.length_nil]; omega)
  k_with "my subscriptTail" => (k_here; (with_reducible show wpAny _ _ (subscriptTail _ (PySem.Expr.Slice _ _ none _) (Value.ref _) (Value.ref _)) _ _ _); k_dflt (first | (refine' cut_from ?zF ?zN ?zm ?zi ?z0 ?zz ?_ ?zs ?zt; (case zF => k_asm); (case zN => k_asm); (case zm => k_mem); (case zi => l_ints); (case z0 => first | omega | exact Int.natCast_nonneg _); (case zz => walk_at "my cutlen"); (case zs => with_unfolding_all rfl); (case zt => kmk_pure)) | (refine' cut_upto ?zF ?zN ?zm ?zi ?z0 ?zz ?_ ?zs ?zt; (case zF => k_asm); (case zN => k_asm); (case zm => k_mem); (case zi => l_ints); (case z0 => first | omega | exact Int.natCast_nonneg _); (case zz => walk_at "my cutlen"); (case zs => with_unfolding_all rfl); (case zt => kmk_pure))); intro D' ws' h' F' N' l1 hI'; (try k_lt l1); (try k_sweep))
  k_with "my last subscriptTail" => (k_here; (with_reducible show wpAny _ _ (subscriptTail _ (PySem.Expr.Slice _ _ none _) (Value.ref _) (Value.ref _)) _ _ _); k_dflt (first | (refine' cut_from ?zF ?zN ?zm ?zi ?z0 ?zz ?_ ?zs ?zt; (case zF => k_asm); (case zN => k_asm); (case zm => k_mem); (case zi => l_ints); (case z0 => first | omega | exact Int.natCast_nonneg _); (case zz => walk_at "my cutlen"); (case zs => with_unfolding_all rfl); (case zt => kmk_pure)) | (refine' cut_upto ?zF ?zN ?zm ?zi ?z0 ?zz ?_ ?zs ?zt; (case zF => k_asm); (case zN => k_asm); (case zm => k_mem); (case zi => l_ints); (case z0 => first | omega | exact Int.natCast_nonneg _); (case zz => walk_at "my cutlen"); (case zs => with_unfolding_all rfl); (case zt => kmk_pure))); intro D' ws' h' F' N' l1 hI'; (try k_lt l1); (try k_sweep))
  k_with "my subscriptTail Name Slice ref ref" => (k_here; (with_reducible show wpAny _ _ (subscriptTail _ (PySem.Expr.Slice _ _ none _) (Value.ref _) (Value.ref _)) _ _ _); k_dflt (first | (refine' cut_from ?zF ?zN ?zm ?zi ?z0 ?zz ?_ ?zs ?zt; (case zF => k_asm); (case zN => k_asm); (case zm => k_mem); (case zi => l_ints); (case z0 => first | omega | exact Int.natCast_nonneg _); (case zz => walk_at "my cutlen"); (case zs => with_unfolding_all rfl); (case zt => kmk_pure)) | (refine' cut_upto ?zF ?zN ?zm ?zi ?z0 ?zz ?_ ?zs ?zt; (case zF => k_asm); (case zN => k_asm); (case zm => k_mem); (case zi => l_ints); (case z0 => first | omega | exact Int.natCast_nonneg _); (case zz => walk_at "my cutlen"); (case zs => with_unfolding_all rfl); (case zt => kmk_pure))); intro D' ws' h' F' N' l1 hI'; (try k_lt l1); (try k_sweep))
  (repeat' ((fail_if_success (with_reducible show wpAny _ _ (execs (Stmt.Assign [Expr.Name (PySem.Str.ofString "total") _] _ _ :: _) _) _ _ _)); (first | (k_unfold; (try dsimp only)) | walk1 | (dsimp only; walk1))))
  obtain ⟨xa, xb, xc, xy, e4⟩ := drawn_four ns
  rename IntsAre _ (List.take _ _) => hI4
  rw [show Int.toNat 4 = 4 from rfl, e4] at hI4
  obtain ⟨ta, tb, tc, ty, e5⟩ := ints_four hI4
  subst e5
  rename Fr _ _ _ _ => fE
  refine next _ _ _ _ _ _ _ _ _ _ _ _ _ (seg_fr fE (by kst_all)) (cb_drop (by assumption) (by kcj_all)) ?_
  omega
end Mine
end

section
open PySem PySem.W PyProof.Rows PySem.Calls PyProof.V PySem.Spec
set_option maxRecDepth 100000
set_option linter.unusedVariables false
namespace Mine
theorem part29 : True := by
  k_with_none
  w_top off
  exact True.intro



theorem News.ne_cell {h₀ h : Heap} {L a c : Addr} {news : Led} {o1 o2 : Obj} {v : Option Value} (N : News h₀ L h news) (h1 : (a, o1) ∈ news) (h2 : (c, o2) ∈ news) (hd : o2.data = .cell v) (hn : ∀ v, o1.data ≠ .cell v) : a ≠ c := fun e => by
  have q1 := (N _ h1).1
  have q2 := (N _ h2).1
  dsimp only at q1 q2
  rw [e, q2] at q1
  exact hn v (by rw [← Option.some.inj q1]; exact hd)
noncomputable def lawB3 : List Stmt := by
  have h : q17B.drop 3 = ?x := by
    conv => lhs; whnf
  exact ?x
set_option maxHeartbeats 8000000 in
theorem law_1a (w : World) (mean : ExcName → Option Value) (mg mb : Str → Option Value) (h₀ : Heap) (L : Addr) (s : Shared) (fa : Addr) (ccd : Value) (A : LawAt w mean mg mb h₀ L) (rs : Addr) (vs : List Value) (ns : List Int) (c1 c2 c3 c4 c5 c6 c7 : Obj)
    (hl : h₀.IsList rs vs.toArray) (hi : IntsAre vs ns) (hz : ns.length ≤ 63) (rd : Addr) (kd : Nat) (xa xb xc xy : Int) (ta tb tc ty : Tok) (m0 : Str → Option Value)
    (F : Fr h₀ L s.heap (kstB m0 [(Str.ofString "drawn", .ref rd), (Str.ofString "script", .ref rs)]))
    (N : News h₀ L s.heap [(rd, W.listOf #[.int xa ta, .int xb tb, .int xc tc, .int xy ty] kd), (L + 1 + 1 + 1 + 1 + 1 + 1 + 1, c1), (L + 1 + 1 + 1 + 1 + 1 + 1, c2), (L + 1 + 1 + 1 + 1 + 1, c3), (L + 1 + 1 + 1 + 1, c4), (L + 1 + 1 + 1, c5), (L + 1 + 1, c6), (L + 1, c7), (153, tabObj #[])])
    (hrd : @LT.lt Nat _ (L + 1 + 1 + 1 + 1 + 1 + 1 + 1) rd) (d6 : c6.data = .cell none) (d7 : c7.data = .cell none)
    (Q : Flow → Shared → Prop) (E : Value → Shared → Prop)
    (next : ∀ h' tk (m0 : Str → Option Value) (ru : Addr) (t1 t2 tt : Tok) (o6 o7 : Obj) (T : Int), Fr h₀ L h' (kstB m0 [(Str.ofString "drawn", .ref rd)]) →
      News h₀ L h' [(rd, W.listOf #[.int xa ta, .int xb tb, .int xc tc, .int xy ty] kd), (L + 1 + 1, o6), (ru, uObj (unitOf xy) t1 t2), (L + 1, o7), (L + 1 + 1 + 1, c5), (L + 1 + 1 + 1 + 1, c4), (L + 1 + 1 + 1 + 1 + 1, c3), (L + 1 + 1 + 1 + 1 + 1 + 1, c2), (L + 1 + 1 + 1 + 1 + 1 + 1 + 1, c1), (153, tabObj #[])] →
      o6.data = .cell (some (.ref ru)) → o7.data = .cell (some (.int T tt)) → 0 ≤ T → T < 1000000 →
      wpAny (model pw w) (lawA L fa ccd) (execs lawB3 (lawEnv L fa ccd)) Q E { s with heap := h', toks := tk }) :
    wpAny (model pw w) (lawA L fa ccd) (execs lawB1 (lawEnv L fa ccd)) Q E s := by
  obtain ⟨KT, X, T, B, hL⟩ := A
  have hL9 : @LT.lt Nat _ 153 L := hL
  dsimp only [kstB] at F
  k_with_none
  k_with "my call ref" => (k_here; (with_reducible show wpAny _ _ (call (Value.ref 165) [Value.int _ _]) _ _ _); k_dflt (refine' Spec.use ?B ?T ?F ?X ?N ?P ?k (spec_unit _ _ _ _ _ _ _) ?d ?u ?_; (case F => k_asm); (case B => k_asm); (case T => k_asm); (case X => k_asm); (case N => k_asm); (case P => k_asm); (case k => first | exact rfl | assumption); (case d => decide); (case u => decide); k_whole); intro v9 new9 h9 tk9 F9 N9 R9; obtain ⟨r9, t91, t92, e91, e92⟩ := R9; subst e91; subst e92; ((try simp only [List.nil_append, List.cons_append] at N9); (try dsimp only); (try k_fold)))
  k_with "my k_updF" => (refine' UpdF.tail ?a ?b; (case a => (dsimp only; exact News.ne_cell (by assumption) (by k_mem) (by k_mem) (by assumption) (by intro v h; cases h))); (case b => k_updF))
  (repeat' ((fail_if_success (with_reducible show wpAny _ _ (execs (Stmt.Assign [Expr.Name (PySem.Str.ofString "due") _] _ _ :: _) _) _ _ _)); (first | (k_unfold; (try dsimp only)) | walk1 | (dsimp only; walk1))))
  rename Fr _ _ _ _ => fE
  rename News _ _ _ _ => nE
  rw [show [xa, xb, xc, xy].getD (Int.toNat 3) 0 = xy from rfl] at nE
  refine next _ _ _ _ _ _ _ _ _ _ (seg_fr fE (by kst_all)) (cb_drop nE (by kcj_all)) (by assumption) (by assumption) ?_ ?_
  · exact (fm_bd _ (by decide)).1
  · exact (fm_bd _ (by decide)).2
end Mine
end

section
open PySem PySem.W PyProof.Rows PySem.Calls PyProof.V PySem.Spec
set_option maxRecDepth 100000
set_option linter.unusedVariables false
namespace Mine
theorem part30 : True := by
  k_with_none
  w_top off
  exact True.intro


theorem ints_three {vs : List Value} {a b c y : Int} (h : IntsAre vs (List.take (Int.toNat 3) [a, b, c, y])) : ∃ ta tb tc, vs = [.int a ta, .int b tb, .int c tc] := by
  have h' : IntsAre vs [a, b, c] := h
  cases h' with | cons _ t1 h => cases h with | cons _ t2 h => cases h with | cons _ t3 h => cases h with | nil => exact ⟨_, _, _, rfl⟩
theorem comp_end1 {h₀ : Heap} {L I C D : Addr} {m : Str → Option Value} {s₁ : Shared} {x : Addr × Obj} {oI oC oD : Obj} {S : Led → Prop} {rest : Value → Led → Prop} {y : Value} {h' : Heap} {tk : Nat} {old : Led}
    (F : Fr h₀ L h' m) (N : News h₀ L h' (x :: (I, oI) :: (C, oC) :: (D, oD) :: old)) (l1 : @LT.lt Nat _ I x.1) (l2 : @LT.lt Nat _ C x.1) (l3 : @LT.lt Nat _ D x.1) (off : LCg.Off3 I C D old) (hS : S (x :: old)) (r : rest y (x :: old)) :
    LCg.CompEnd h₀ L m s₁ I oI C oC D oD S rest y { s₁ with heap := h', toks := tk } := by
  refine LCg.CompEnd.intro F N (x :: old) (fun p hp => ?_) ⟨⟨Nat.ne_of_gt l1, Nat.ne_of_gt l2, Nat.ne_of_gt l3⟩, off⟩ hS r
  rcases List.mem_cons.1 hp with rfl | hp
  · exact .tail _ (.head _)
  · rcases List.mem_cons.1 hp with rfl | hp
    · exact .tail _ (.tail _ (.head _))
    · rcases List.mem_cons.1 hp with rfl | hp
      · exact .tail _ (.tail _ (.tail _ (.head _)))
      · rcases List.mem_cons.1 hp with rfl | hp
        · exact .head _
        · exact .tail _ (.tail _ (.tail _ (.tail _ hp)))
theorem ints_at_all : ∀ {vs : List Value} {ks : List Int}, vs.length = ks.length → (∀ (i : Nat) (v : Value), vs[i]? = some v → ∃ (k : Int) (u : Tok), ks[i]? = some k ∧ v = .int k u) → IntsAre vs ks
  | [], [], _, _ => .nil
  | [], _ :: _, h, _ => by cases h
  | _ :: _, [], h, _ => by cases h
  | v :: vs, k :: ks, h, H => by
    obtain ⟨k', u, e, rfl⟩ := H 0 v rfl
    cases e
    exact .cons _ _ (ints_at_all (by simpa using h) fun i x hx => H (i + 1) x (by simpa using hx))
section
variable {prog : Program} {w : World} {A : Around} {E : Value → Shared → Prop} {s₁ : Shared} {h₀ : Heap} {L : Addr} {m : Str → Option Value} {news : Led}
theorem ints_of_paired {P : Value → Value → Prop} (g : Int → Int) : ∀ {vs ys : List Value} {ks : List Int}, IntsAre vs ks → Paired P vs ys → (∀ k t r, P (.int k t) r → ∃ t', r = .int (g k) t') → IntsAre ys (ks.map g)
  | _, _, _, .nil, .nil, _ => .nil
  | _, _, _, .cons k t r, .cons h q, hp => by
    obtain ⟨t', rfl⟩ := hp _ _ _ h
    exact .cons _ t' (ints_of_paired g r q hp)
theorem comp_bytes {env : Env} {elt : PySem.Expr} {x : Str} {scope : Scope} {Q : Value → Shared → Prop} {b : Array UInt8} {t : Tok} (g : Int → Int)
    (hh : A.handled = none) (F : Fr h₀ L s₁.heap m) (N : News h₀ L s₁.heap news) (hsz : b.size ≤ sizeLine)
    (g2 : ∀ C k u s₂ m₂ E', s₂.heap.Ns C m₂ → m₂ x = some (.int k u) → Fr h₀ L s₂.heap m → News h₀ L s₂.heap news → wpAny (model prog w) A (eval elt (compEnv scope C env)) (fun r s₃ => IsIntV r (g k) ∧ Keeps s₂ s₃) E' s₂)
    (g3 : ∀ D (ys : List Value) h' tk, Fr h₀ L h' m → News h₀ L h' news → h₀.get? D = none → h'.IsList D ys.toArray → NewPlain h' news D ys.toArray → IntsAre ys ((KBw.bInts b).map g) → Q (.ref D) { s₁ with heap := h', toks := tk }) :
    wpAny (model prog w) A (pyIter (.bytes b t)) (CompPost prog w A env scope x [] elt Q) E s₁ := by
  unfold CompPost
  refine KBw.pyIter_bytes ?_
  have up : ∀ (h' : Heap), (∀ c o', c ∉ [s₁.heap.objs.size] → (s₁.heap.push { cls := .type "bytes_iterator", data := .fields #[.bytes b t, .int 0 0] }).get? c = some o' → h'.get? c = some o') → ∀ c o', s₁.heap.get? c = some o' → h'.get? c = some o' :=
    fun h' hk c o' e => hk c o' (old_not_new e) (Heap.get?_push_of_some _ e)
  refine ⟨fun _ => true, fun v r => ∀ k t, v = .int k t → ∃ t', r = .int (g k) t', s₁.heap.objs.size, [s₁.heap.objs.size], [s₁.heap.objs.size], b.size, _, _, rfl, KBw.walks hh _ b t, hsz, ⟨_, Heap.get?_push_size _ rfl, rfl, rfl⟩, ?_, ⟨?_, ?_⟩, ?_⟩
  · intro c hb
    show c < (s₁.heap.push _).objs.size
    rw [Heap.size_push, List.mem_singleton.mp hb]
    exact Nat.lt_succ_self _
  · intro C i v s₃ m₃ E' hP hn hm _ htk
    exact wpAny_pure ⟨rfl, keeps_refl _⟩
  · intro C i v s₃ m₃ E' hP hp hn hm hkp htk
    obtain ⟨c, u, hc, rfl⟩ := hP
    refine wpAny_mono (g2 C _ _ s₃ m₃ E' hn hm (F.keeps (up _ hkp)) (N.grown (up _ hkp))) (fun r s₄ h₄ => ⟨?_, h₄.2⟩) fun _ _ e => e
    obtain ⟨⟨t', e⟩, _⟩ := h₄
    intro k t9 ek
    cases ek
    exact ⟨t', e⟩
  · intro D h' tk ys vs hnew hlD hplD hlen hP hF hk
    have hvs : IntsAre vs (KBw.bInts b) := by
      refine ints_at_all (by rw [hlen, KBw.ints_length]) fun i v hv => ?_
      obtain ⟨c, u, hc, e⟩ := hP i v hv
      exact ⟨_, u, KBw.ints_get hc, e⟩
    refine g3 D ys.toList h' tk (F.keeps (up h' hk)) (N.grown (up h' hk)) ?_ (by rw [Array.toArray_toList]; exact hlD) ⟨by rw [Array.toArray_toList]; exact hplD, fun p hp e => by rw [← e, Heap.get?_push_of_some _ (N p hp).1] at hnew; cases hnew⟩ ?_
    · cases e : h₀.get? D with
      | none => rfl
      | some o' => rw [Heap.get?_push_of_some _ (F.keep _ _ e)] at hnew; cases hnew
    · rw [List.filter_eq_self.2 (fun _ _ => rfl)] at hF
      exact ints_of_paired g hvs hF fun k t r h => h k t rfl
end
/-- how often a draw repeats the unit -/
noncomputable def reps (x : Int) : Nat := (1 + x.fmod 4).toNat
theorem reps_bd (x : Int) : 1 ≤ reps x ∧ reps x ≤ 4 := by
  have := fm_bd x (k := 4) (by decide)
  unfold reps
  omega
theorem letU_eq (y : Int) : List.map (fun k : Int => k - 65) (KBw.bInts (unitOf y).fst.toArray) = letU y := by
  rw [KBw.ints_list, List.map_map]; rfl
section
variable {prog : Program} {w : World} {A : Around} {E : Value → Shared → Prop} {s : Shared} {h₀ : Heap} {L : Addr} {m : Str → Option Value} {news : Led} {l : Addr} {vs : List Value} {y x : Int} {u : Tok} {n : Nat} {Q : Value → Shared → Prop}
theorem mul_unit (Fm : Fr h₀ L s.heap m) (N : News h₀ L s.heap ((l, W.listOf vs.toArray n) :: news)) (hi : IntsAre vs (List.map (fun k : Int => k - 65) (KBw.bInts (unitOf y).fst.toArray)))
    (h : ∀ D (ws : List Value) h', Fr h₀ L h' m → News h₀ L h' ((D, W.listOf ws.toArray 0) :: news) → (∀ p ∈ news, p.1 < D) → IntsAre ws (repU (letU y) (reps x)) → Q (.ref D) { s with heap := h' }) :
    wpAny (model prog w) A (binaryOp .Mult (.ref l) (.int (1 + x.fmod 4) u)) Q E s := by
  rw [letU_eq] at hi
  obtain ⟨r1, r2⟩ := reps_bd x
  have hb := fm_bd x (k := 4) (by decide)
  have hl : vs.length ≤ 3 := by rw [hi.length]; exact (unit_ok y).2.len
  refine KM.mul Fm N (N.isList (.head _)) hi (by omega) (by omega) ?_ fun D h' F' N' l1 i1 _ _ _ _ _ => h D _ h' F' (cb_drop N' fun p hp => by rcases List.mem_cons.1 hp with rfl | hp; exact .head _; exact .tail _ (.tail _ hp)) (fun p hp => l1 p (.tail _ hp)) i1
  exact Nat.le_trans (Nat.mul_le_mul hl (show (1 + x.fmod 4).toNat ≤ 4 from r2)) (by decide)
end
set_option maxHeartbeats 700000 in
theorem law_1b (w : World) (mean : ExcName → Option Value) (mg mb : Str → Option Value) (h₀ : Heap) (L : Addr) (s : Shared) (fa : Addr) (ccd : Value) (A : LawAt w mean mg mb h₀ L) (news : Led) (rd : Addr) (kd : Nat) (xa xb xc xy : Int) (ta tb tc ty : Tok) (m0 : Str → Option Value)
    (F : Fr h₀ L s.heap (kstB m0 [(Str.ofString "drawn", .ref rd)])) (ru : Addr) (t1 t2 : Tok) (o6 : Obj)
    (N : News h₀ L s.heap ((rd, W.listOf #[.int xa ta, .int xb tb, .int xc tc, .int xy ty] kd) :: (L + 1 + 1, o6) :: (ru, uObj (unitOf xy) t1 t2) :: news)) (d6 : o6.data = .cell (some (.ref ru)))
    (Q : Flow → Shared → Prop) (E : Value → Shared → Prop)
    (next : ∀ h' tk r4 ra rb rc k4 ka kb kc (wa wb wc : List Value) (m0 : Str → Option Value), Fr h₀ L h' (kstB m0 [(Str.ofString "due", .ref r4)]) →
      News h₀ L h' ((r4, W.listOf #[.ref ra, .ref rb, .ref rc] k4) :: (ra, W.listOf wa.toArray ka) :: (rb, W.listOf wb.toArray kb) :: (rc, W.listOf wc.toArray kc) :: (L + 1 + 1, o6) :: (ru, uObj (unitOf xy) t1 t2) :: news) →
      IntsAre wa (repU (letU xy) (reps xa)) → IntsAre wb (repU (letU xy) (reps xb)) → IntsAre wc (repU (letU xy) (reps xc)) →
      wpAny (model pw w) (lawA L fa ccd) (execs lawB4 (lawEnv L fa ccd)) Q E { s with heap := h', toks := tk }) :
    wpAny (model pw w) (lawA L fa ccd) (execs lawB3 (lawEnv L fa ccd)) Q E s := by
  obtain ⟨KT, X, T, B, hL⟩ := A
  unfold uObj at N
  dsimp only [kstB] at F
  k_with_none
  k_with "my CompEnd" => (k_dflt (refine' comp_end1 ?zF ?zN ?zl ?zm ?zn ?zo ?zs ?_; (case zF => k_asm); (case zN => k_asm); (case zl => (dsimp only; omega)); (case zm => (dsimp only; omega)); (case zn => (dsimp only; omega)); (case zo => assumption); (case zs => lcg_src)))
  k_with "my cutlen" => first | exact Nat.le_of_ble_eq_true rfl | omega | (simp only [List.length_append, List.length_drop, List.length_cons, List.length_nil]; omega)
  k_with "my subscriptTail" => (k_here; (with_reducible show wpAny _ _ (subscriptTail _ (PySem.Expr.Slice _ _ none _) (Value.ref _) (Value.ref _)) _ _ _); k_dflt (first | (refine' cut_from ?zF ?zN ?zm ?zi ?z0 ?zz ?_ ?zs ?zt; (case zF => k_asm); (case zN => k_asm); (case zm => k_mem); (case zi => l_ints); (case z0 => first | omega | exact Int.natCast_nonneg _); (case zz => walk_at "my cutlen"); (case zs => with_unfolding_all rfl); (case zt => kmk_pure)) | (refine' cut_upto ?zF ?zN ?zm ?zi ?z0 ?zz ?_ ?zs ?zt; (case zF => k_asm); (case zN => k_asm); (case zm => k_mem); (case zi => l_ints); (case z0 => first | omega | exact Int.natCast_nonneg _); (case zz => walk_at "my cutlen"); (case zs => with_unfolding_all rfl); (case zt => kmk_pure))); intro D' ws' h' F' N' l1 hI'; (try (obtain ⟨ta3, tb3, tc3, e3⟩ := ints_three hI'; subst e3; clear hI')); (try k_lt l1); (try k_sweep))
  k_with "my last subscriptTail" => (k_here; (with_reducible show wpAny _ _ (subscriptTail _ (PySem.Expr.Slice _ _ none _) (Value.ref _) (Value.ref _)) _ _ _); k_dflt (first | (refine' cut_from ?zF ?zN ?zm ?zi ?z0 ?zz ?_ ?zs ?zt; (case zF => k_asm); (case zN => k_asm); (case zm => k_mem); (case zi => l_ints); (case z0 => first | omega | exact Int.natCast_nonneg _); (case zz => walk_at "my cutlen"); (case zs => with_unfolding_all rfl); (case zt => kmk_pure)) | (refine' cut_upto ?zF ?zN ?zm ?zi ?z0 ?zz ?_ ?zs ?zt; (case zF => k_asm); (case zN => k_asm); (case zm => k_mem); (case zi => l_ints); (case z0 => first | omega | exact Int.natCast_nonneg _); (case zz => walk_at "my cutlen"); (case zs => with_unfolding_all rfl); (case zt => kmk_pure))); intro D' ws' h' F' N' l1 hI'; (try (obtain ⟨ta3, tb3, tc3, e3⟩ := ints_three hI'; subst e3; clear hI')); (try k_lt l1); (try k_sweep))
  k_with "my subscriptTail Name Slice ref ref" => (k_here; (with_reducible show wpAny _ _ (subscriptTail _ (PySem.Expr.Slice _ _ none _) (Value.ref _) (Value.ref _)) _ _ _); k_dflt (first | (refine' cut_from ?zF ?zN ?zm ?zi ?z0 ?zz ?_ ?zs ?zt; (case zF => k_asm); (case zN => k_asm); (case zm => k_mem); (case zi => l_ints); (case z0 => first | omega | exact Int.natCast_nonneg _); (case zz => walk_at "my cutlen"); (case zs => with_unfolding_all rfl); (case zt => kmk_pure)) | (refine' cut_upto ?zF ?zN ?zm ?zi ?z0 ?zz ?_ ?zs ?zt; (case zF => k_asm); (case zN => k_asm); (case zm => k_mem); (case zi => l_ints); (case z0 => first | omega | exact Int.natCast_nonneg _); (case zz => walk_at "my cutlen"); (case zs => with_unfolding_all rfl); (case zt => kmk_pure))); intro D' ws' h' F' N' l1 hI'; (try (obtain ⟨ta3, tb3, tc3, e3⟩ := ints_three hI'; subst e3; clear hI')); (try k_lt l1); (try k_sweep))
  k_with "my call ref" => (k_here; (with_reducible show wpAny _ _ (call (Value.ref 165) [Value.int _ _]) _ _ _); k_dflt (refine' Spec.use ?B ?T ?F ?X ?N ?P ?k (spec_unit _ _ _ _ _ _ _) ?d ?u ?_; (case F => k_asm); (case B => k_asm); (case T => k_asm); (case X => k_asm); (case N => k_asm); (case P => k_asm); (case k => first | exact rfl | assumption); (case d => decide); (case u => decide); k_whole); intro v9 new9 h9 tk9 F9 N9 R9; obtain ⟨r9, t91, t92, e91, e92⟩ := R9; subst e91; subst e92; ((try simp only [List.nil_append, List.cons_append] at N9); (try dsimp only); (try k_fold)))
  k_with "my pyIter bytes" => (k_here; (with_reducible show wpAny _ _ (pyIter (Value.bytes _ _)) (CompPost _ _ _ _ _ _ _ _ _) _ _); (rename Fr _ _ _ _ => F'); (rename News _ _ _ _ => N'); (with_reducible apply comp_bytes (fun k : Int => k - 65)); (case hh => with_unfolding_all rfl); (case F => with_unfolding_all exact F'); (case N => with_unfolding_all exact N'); (case hsz => walk_at "my bsize"); (case' g3 => (intro D9 y9 h9 k9 F9 N9 n9 l9 p9 i9; k_made; clear N9 l9; (rename News _ _ _ _ => nQ9); (have nR9 : News _ _ _ ((_, W.listOf (List.toArray _) _) :: _) := nQ9); clear nQ9)); (case' g2 => (intro C9 c9 u9 s9 m9 E9 C9N hx9 F9 N9)))
  k_with "my CompSrc" => (k_here; k_dflt (refine LCg.CompSrc.ledger (by rfl) (by k_asm) (by k_asm) (by exact List.Mem.head _) (by exact Nat.le_of_ble_eq_true rfl) ?_); intro g')
  k_with "my bsize" => (rw [List.size_toArray, sizeLine_eq]; exact Nat.le_trans (unit_ok _).1.1 (by decide))
  k_with "my Keeps" => first | exact ⟨_, _, rfl, by assumption⟩ | exact ⟨_, _, rfl, fun _ _ e => e⟩
  k_with "my IsIntV" => exact ⟨_, rfl⟩
  k_with "my k_updF" => (refine' UpdF.tail ?a ?b; (case a => (dsimp only; exact News.ne_cell (by assumption) (by k_mem) (by k_mem) (by assumption) (by intro v h; cases h))); (case b => k_updF))
  k_with "my binaryOp Mult ref int" => (k_here; (with_reducible show wpAny _ _ (binaryOp Operator.Mult (Value.ref _) (Value.int _ _)) _ _ _); k_dflt (refine' mul_unit ?zF ?zN ?zi ?_; (case zF => k_asm); (case zN => k_asm); (case zi => assumption); k_whole); intro D9 w9 h9 F9 N9 l1 i9; (try k_lt l1); (try k_sweep))
  (repeat' ((fail_if_success (with_reducible show wpAny _ _ (execs (Stmt.Assign [Expr.Name (PySem.Str.ofString "numbers") _] _ _ :: _) _) _ _ _)); (first | (k_unfold; (try dsimp only)) | (walk1 <;> (try dsimp only)) | (dsimp only; walk1))))
  rename Fr _ _ _ _ => fE
  exact next _ _ _ _ _ _ _ _ _ _ _ _ _ _ (seg_fr fE (by kst_all)) (cb_drop (by assumption) (by kcj_all)) (by assumption) (by assumption) (by assumption)
end Mine
end

section
open PySem PySem.W PyProof.Rows PySem.Calls PyProof.V PySem.Spec
set_option maxRecDepth 100000
set_option linter.unusedVariables false
namespace Mine
theorem part31 : True := by
  k_with_none
  w_top off
  exact True.intro



theorem comp_end0 {h₀ : Heap} {L I C D : Addr} {m : Str → Option Value} {s₁ : Shared} {oI oC oD : Obj} {S : Led → Prop} {rest : Value → Led → Prop} {y : Value} {h' : Heap} {tk : Nat} {old : Led}
    (F : Fr h₀ L h' m) (N : News h₀ L h' ((I, oI) :: (C, oC) :: (D, oD) :: old)) (off : LCg.Off3 I C D old) (hS : S old) (r : rest y old) :
    LCg.CompEnd h₀ L m s₁ I oI C oC D oD S rest y { s₁ with heap := h', toks := tk } := LCg.CompEnd.intro F N old (fun p hp => hp) off hS r
noncomputable def lawB5 : List Stmt := by
  have h : q17B.drop 5 = ?x := by
    conv => lhs; whnf
  exact ?x
noncomputable def lawB7 : List Stmt := by
  have h : q17B.drop 7 = ?x := by
    conv => lhs; whnf
  exact ?x

set_option maxHeartbeats 2000000 in
theorem law_2a (w : World) (mean : ExcName → Option Value) (mg mb : Str → Option Value) (h₀ : Heap) (L : Addr) (s : Shared) (fa : Addr) (ccd : Value) (A : LawAt w mean mg mb h₀ L) (news : Led) (U : List Int) (i0 i1 i2 : Nat) (m0 : Str → Option Value)
    (l0 : (repU U i0).length ≤ 64) (l1 : (repU U i1).length ≤ 64) (l2 : (repU U i2).length ≤ 64)
    (r4 ra rb rc : Addr) (k4 ka kb kc : Nat) (wa wb wc : List Value) (o5 o6 : Obj)
    (F : Fr h₀ L s.heap (kstB m0 [(Str.ofString "due", .ref r4)]))
    (N : News h₀ L s.heap ((r4, W.listOf #[.ref ra, .ref rb, .ref rc] k4) :: (ra, W.listOf wa.toArray ka) :: (rb, W.listOf wb.toArray kb) :: (rc, W.listOf wc.toArray kc) :: (L + 1 + 1 + 1, o5) :: (L + 1 + 1, o6) :: news))
    (d5 : o5.data = .cell none) (hoff : ∀ p ∈ news, p.1 ≠ L + 1 + 1 + 1)
    (ia : IntsAre wa (repU U i0)) (ib : IntsAre wb (repU U i1)) (ic : IntsAre wc (repU U i2))
    (Q : Flow → Shared → Prop) (E : Value → Shared → Prop)
    (next : ∀ h' tk rn kn ta tb tc (o5 : Obj) (m0 : Str → Option Value), Fr h₀ L h' (kstB m0 [(Str.ofString "due", .ref r4)]) →
      News h₀ L h' ((rn, W.listOf #[.int (numOf (repU U i0)) ta, .int (numOf (repU U i1)) tb, .int (numOf (repU U i2)) tc] kn) :: (L + 1 + 1 + 1, o5) :: (r4, W.listOf #[.ref ra, .ref rb, .ref rc] k4) :: (ra, W.listOf wa.toArray ka) :: (rb, W.listOf wb.toArray kb) :: (rc, W.listOf wc.toArray kc) :: (L + 1 + 1, o6) :: news) →
      o5.data = .cell (some (.ref rn)) →
      wpAny (model pw w) (lawA L fa ccd) (execs lawB5 (lawEnv L fa ccd)) Q E { s with heap := h', toks := tk }) :
    wpAny (model pw w) (lawA L fa ccd) (execs lawB4 (lawEnv L fa ccd)) Q E s := by
  obtain ⟨KT, X, T, B, hL⟩ := A
  dsimp only [kstB] at F
  k_with_none
  k_with "my CompEnd" => (k_dflt (refine' comp_end0 ?zF ?zN ?zo ?zs ?_; (case zF => k_asm); (case zN => k_asm); (case zo => assumption); (case zs => lcg_src)))
  k_with "my k_updF" => (refine' UpdF.tail ?a ?b; (case a => (dsimp only; exact News.ne_cell (by assumption) (by k_mem) (by k_mem) (by assumption) (by intro v h; cases h))); (case b => k_updF))
  k_with "my k_all" => first | (with_reducible assumption) | (refine' List.forall_mem_cons.mpr ⟨?a, ?b⟩; (case a => first | k_ne | (dsimp only; exact News.ne_cell (by assumption) (by k_mem) (by k_mem) (by assumption) (by intro v h; cases h))); (case b => k_all))
  k_with "my call ref" => (k_here; (with_reducible show wpAny _ _ (call (Value.ref 191) [Value.ref _]) _ _ _); k_dflt (refine' Spec.use ?B ?T ?F ?X ?N ?P ?k (spec_number _ _ _ _ _ _ _ _ _ ?zm ?zi ?zz) ?d ?u ?_; (case F => k_asm); (case B => k_asm); (case T => k_asm); (case X => k_asm); (case N => k_asm); (case P => k_asm); (case k => first | exact rfl | assumption); (case zm => k_mem); (case zi => assumption); (case zz => assumption); (case d => decide); (case u => decide); k_whole); intro v9 new9 h9 tk9 F9 N9 R9; obtain ⟨t9, e91, e92⟩ := R9; subst e91; subst e92; ((try simp only [List.nil_append, List.cons_append] at N9); (try dsimp only); (try k_fold)))
  (repeat' ((fail_if_success (with_reducible show wpAny _ _ (execs (Stmt.Assign [Expr.Name (PySem.Str.ofString "words") _] _ _ :: _) _) _ _ _)); (first | (k_unfold; (try dsimp only)) | walk1 | (dsimp only; walk1))))
  rename Fr _ _ _ _ => fE
  rename News _ _ _ _ => nE
  exact next _ _ _ _ _ _ _ _ _ (seg_fr fE (by kst_all)) (cb_drop nE (by kcj_all)) (by assumption)
end Mine
end

section
open PySem PySem.W PyProof.Rows PySem.Calls PyProof.V PySem.Spec
set_option maxRecDepth 100000
set_option linter.unusedVariables false
namespace Mine
theorem part32 : True := by
  k_with_none
  w_top off
  exact True.intro





set_option maxHeartbeats 2000000 in
theorem law_2b (w : World) (mean : ExcName → Option Value) (mg mb : Str → Option Value) (h₀ : Heap) (L : Addr) (s : Shared) (fa : Addr) (ccd : Value) (A : LawAt w mean mg mb h₀ L) (news : Led) (n0 n1 n2 T : Int) (m0 : Str → Option Value) (u : List UInt8 × Int) (hu : UOk u)
    (g0 : 0 ≤ n0) (g1 : 0 ≤ n1) (g2 : 0 ≤ n2) (b0 : n0 < 2 ^ 60) (b1 : n1 < 2 ^ 60) (b2 : n2 < 2 ^ 60)
    (rd rn ru : Addr) (kn : Nat) (ta tb tc t1 t2 tt : Tok) (o4 o5 o6 o7 : Obj)
    (F : Fr h₀ L s.heap (kstB m0 [(Str.ofString "due", .ref rd)]))
    (N : News h₀ L s.heap ((rn, W.listOf #[.int n0 ta, .int n1 tb, .int n2 tc] kn) :: (L + 1 + 1 + 1, o5) :: (L + 1 + 1, o6) :: (ru, uObj u t1 t2) :: (L + 1, o7) :: (L + 1 + 1 + 1 + 1, o4) :: news))
    (d4 : o4.data = .cell none) (d5 : o5.data = .cell (some (.ref rn))) (d6 : o6.data = .cell (some (.ref ru))) (d7 : o7.data = .cell (some (.int T tt))) (hoff : ∀ p ∈ news, p.1 ≠ L + 1 + 1 + 1 + 1)
    (Q : Flow → Shared → Prop) (E : Value → Shared → Prop)
    (next : ∀ h' tk rw kw ra rb rc ka kb kc va vb vc (o4 : Obj) (m0 : Str → Option Value), Fr h₀ L h' (kstB m0 [(Str.ofString "due", .ref rd)]) →
      News h₀ L h' ((rw, W.listOf #[.ref ra, .ref rb, .ref rc] kw) :: (ra, W.listOf (List.toArray va) ka) :: (rb, W.listOf (List.toArray vb) kb) :: (rc, W.listOf (List.toArray vc) kc) :: (L + 1 + 1 + 1 + 1, o4) ::
        (rn, W.listOf #[.int n0 ta, .int n1 tb, .int n2 tc] kn) :: (L + 1 + 1 + 1, o5) :: (L + 1 + 1, o6) :: (ru, uObj u t1 t2) :: (L + 1, o7) :: news) →
      o4.data = .cell (some (.ref rw)) → IntsAre va (ltr n0) → IntsAre vb (ltr n1) → IntsAre vc (ltr n2) →
      wpAny (model pw w) (lawA L fa ccd) (execs lawB6 (lawEnv L fa ccd)) Q E { s with heap := h', toks := tk }) :
    wpAny (model pw w) (lawA L fa ccd) (execs lawB5 (lawEnv L fa ccd)) Q E s := by
  obtain ⟨KT, X, T, B, hL⟩ := A
  dsimp only [kstB] at F
  k_with_none
  k_with "my CompEnd" => (k_dflt (refine' comp_end0 ?zF ?zN ?zo ?zs ?_; (case zF => k_asm); (case zN => k_asm); (case zo => assumption); (case zs => lcg_src)))
  k_with "my k_updF" => (refine' UpdF.tail ?a ?b; (case a => (dsimp only; exact News.ne_cell (by assumption) (by k_mem) (by k_mem) (by assumption) (by intro v h; cases h))); (case b => k_updF))
  k_with "my k_all" => first | (with_reducible assumption) | (refine' List.forall_mem_cons.mpr ⟨?a, ?b⟩; (case a => first | k_ne | (dsimp only; exact News.ne_cell (by assumption) (by k_mem) (by k_mem) (by assumption) (by intro v h; cases h))); (case b => k_all))
  k_with "my call ref" => (k_here; (with_reducible show wpAny _ _ (call (Value.ref 184) [Value.int _ _, Value.ref _, Value.int _ _]) _ _ _); k_dflt (refine' Spec.use ?B ?T ?F ?X ?N ?P ?k (spec_read _ _ _ _ _ _ _ _ _ _ _ _ _ ?zm (by assumption) (by assumption) (by assumption)) ?d ?u ?_; (case F => k_asm); (case B => k_asm); (case T => k_asm); (case X => k_asm); (case N => k_asm); (case P => k_asm); (case k => first | exact rfl | assumption); (case zm => k_mem); (case d => decide); (case u => decide); k_whole); intro v9 new9 h9 tk9 F9 N9 R9; obtain ⟨r9, vs9, n9, e91, e92, i9, o9⟩ := R9; subst e91; subst e92; have o8 := allLt_of o9; clear o9; simp only [AllLt] at o8; ((try simp only [List.nil_append, List.cons_append] at N9); (try dsimp only); (try k_fold)))
  k_with "my CompEnd" => (k_dflt (refine' comp_end1 ?zF ?zN ?zl ?zm ?zn ?zo ?zs ?_; (case zF => k_asm); (case zN => k_asm); (case zl => (dsimp only; omega)); (case zm => (dsimp only; omega)); (case zn => (dsimp only; omega)); (case zo => assumption); (case zs => lcg_src)))
  k_with "my CompSrc" => (k_here; k_dflt (refine LCg.CompSrc.range (by rfl) (by k_asm) (by k_asm) (by assumption) (by first | decide | rfl) (by first | rfl | decide) (by first | size_fits | exact Nat.le_of_ble_eq_true rfl) ?_; intro g'; lcg_lit))
  (repeat' ((fail_if_success (with_reducible show wpAny _ _ (execs (Stmt.If _ _ _ _ :: _) _) _ _ _)); (first | (k_unfold; (try dsimp only)) | (walk1 <;> (try dsimp only)) | (dsimp only; walk1))))
  rename Fr _ _ _ _ => fE
  rename News _ _ _ _ => nE
  exact next _ _ _ _ _ _ _ _ _ _ _ _ _ _ _ (seg_fr fE (by kst_all)) (cb_drop nE (by kcj_all)) (by assumption) (by assumption) (by assumption) (by assumption)
end Mine
end

section
open PySem PySem.W PyProof.Rows PySem.Calls PyProof.V PySem.Spec
set_option maxRecDepth 100000
set_option linter.unusedVariables false
namespace Mine
theorem part33 : True := by
  k_with_none
  w_top off
  exact True.intro




section
variable {prog : Program} {w : World} {A : Around} {E : Value → Shared → Prop} {s : Shared} {h₀ : Heap} {L : Addr} {news : Led} {Q : Value → Shared → Prop}
open Classical in
theorem ne_same {a b : Addr} {xs ys : List Value} {ka kb : Nat} {ds : List Dat} (N : News h₀ L s.heap news) (ma : (a, W.listOf xs.toArray ka) ∈ news) (mb : (b, W.listOf ys.toArray kb) ∈ news) (Da : DatAll news xs ds) (Db : DatAll news ys ds)
    (hk : ∀ d ∈ ds, kqdOk 8 d = true) (hu : A.units + 64 < cLine) (h : Q (.bool false) s) : wpAny (model prog w) A (compareOp .NotEq (.ref a) (.ref b)) Q E s :=
  kqd_ne N ma rfl rfl Da (fun _ h => h) mb rfl rfl Db (fun _ h => h) hk hk hu (by rw [decide_eq_true rfl]; exact h)
theorem ne_words {a b p0 p1 p2 q0 q1 q2 : Addr} {ka kb k0 k1 k2 j0 j1 j2 : Nat} {u0 u1 u2 v0 v1 v2 : List Value} {x0 x1 x2 : List Int} (N : News h₀ L s.heap news) (ma : (a, W.listOf #[.ref p0, .ref p1, .ref p2] ka) ∈ news) (mb : (b, W.listOf #[.ref q0, .ref q1, .ref q2] kb) ∈ news)
    (m0 : (p0, W.listOf u0.toArray k0) ∈ news) (m1 : (p1, W.listOf u1.toArray k1) ∈ news) (m2 : (p2, W.listOf u2.toArray k2) ∈ news) (n0 : (q0, W.listOf v0.toArray j0) ∈ news) (n1 : (q1, W.listOf v1.toArray j1) ∈ news) (n2 : (q2, W.listOf v2.toArray j2) ∈ news)
    (i0 : IntsAre u0 x0) (i1 : IntsAre u1 x1) (i2 : IntsAre u2 x2) (g0 : IntsAre v0 x0) (g1 : IntsAre v1 x1) (g2 : IntsAre v2 x2) (hu : A.units + 64 < cLine) (h : Q (.bool false) s) : wpAny (model prog w) A (compareOp .NotEq (.ref a) (.ref b)) Q E s := by
  refine ne_same (xs := [.ref p0, .ref p1, .ref p2]) (ys := [.ref q0, .ref q1, .ref q2]) (ds := [.list (x0.map Dat.int), .list (x1.map Dat.int), .list (x2.map Dat.int)]) N ma mb (.cons (.list m0 (datInts _ i0)) (.cons (.list m1 (datInts _ i1)) (.cons (.list m2 (datInts _ i2)) .nil))) (.cons (.list n0 (datInts _ g0)) (.cons (.list n1 (datInts _ g1)) (.cons (.list n2 (datInts _ g2)) .nil))) ?_ hu h
  intro d hd
  simp only [List.mem_cons, List.not_mem_nil, or_false] at hd
  rcases hd with rfl | rfl | rfl <;> exact okInts 7 _
end

set_option maxHeartbeats 1000000 in
theorem law_3 (w : World) (mean : ExcName → Option Value) (mg mb : Str → Option Value) (h₀ : Heap) (L : Addr) (s : Shared) (fa : Addr) (ccd : Value) (A : LawAt w mean mg mb h₀ L) (news : Led) (U : List Int) (hU : Unit3 U) (i0 i1 i2 : Nat) (hi0 : 1 ≤ i0 ∧ i0 ≤ 4) (hi1 : i1 ≤ 4) (hi2 : i2 ≤ 4) (T : Int) (m0 : Str → Option Value) (u : List UInt8 × Int) (hu : UOk u)
    (rd rn ru rw ra rb rc pa pb pc : Addr) (kn kw ka kb kc kd ja jb jc : Nat) (va vb vc wa wb wc : List Value) (ta tb tc t1 t2 tt : Tok) (o3 o4 o5 o6 o7 : Obj)
    (F : Fr h₀ L s.heap (kstB m0 [(Str.ofString "due", .ref rd)]))
    (N : News h₀ L s.heap ((rw, W.listOf #[.ref ra, .ref rb, .ref rc] kw) :: (ra, W.listOf (List.toArray va) ka) :: (rb, W.listOf (List.toArray vb) kb) :: (rc, W.listOf (List.toArray vc) kc) :: (L + 1 + 1 + 1 + 1, o4) ::
        (rn, W.listOf #[.int (numR U i0) ta, .int (numR U i1) tb, .int (numR U i2) tc] kn) :: (L + 1 + 1 + 1, o5) :: (L + 1 + 1, o6) :: (ru, uObj u t1 t2) :: (L + 1, o7) :: (L + 1 + 1 + 1 + 1 + 1, o3) ::
        (rd, W.listOf #[.ref pa, .ref pb, .ref pc] kd) :: (pa, W.listOf wa.toArray ja) :: (pb, W.listOf wb.toArray jb) :: (pc, W.listOf wc.toArray jc) :: news))
    (d3 : o3.data = .cell none) (d4 : o4.data = .cell (some (.ref rw))) (d5 : o5.data = .cell (some (.ref rn))) (d6 : o6.data = .cell (some (.ref ru))) (d7 : o7.data = .cell (some (.int T tt))) (hoff : ∀ p ∈ news, p.1 ≠ L + 1 + 1 + 1 + 1 + 1)
    (ia : IntsAre va (repU U i0)) (ib : IntsAre vb (repU U i1)) (ic : IntsAre vc (repU U i2)) (ga : IntsAre wa (repU U i0)) (gb : IntsAre wb (repU U i1)) (gc : IntsAre wc (repU U i2))
    (Q : Flow → Shared → Prop) (E : Value → Shared → Prop)
    (next : ∀ h' tk rl kl vl (o3 : Obj) (m0 : Str → Option Value), Fr h₀ L h' m0 →
      News h₀ L h' ((rl, W.listOf (List.toArray vl) kl) :: (L + 1 + 1 + 1 + 1 + 1, o3) :: (rw, W.listOf #[.ref ra, .ref rb, .ref rc] kw) :: (ra, W.listOf (List.toArray va) ka) :: (rb, W.listOf (List.toArray vb) kb) :: (rc, W.listOf (List.toArray vc) kc) :: (L + 1 + 1 + 1 + 1, o4) :: (L + 1, o7) :: news) →
      o3.data = .cell (some (.ref rl)) → IntsAre vl (repU U (Nat.gcd (Nat.gcd i0 i1) i2)) →
      wpAny (model pw w) (lawA L fa ccd) (execs lawB9 (lawEnv L fa ccd)) Q E { s with heap := h', toks := tk }) :
    wpAny (model pw w) (lawA L fa ccd) (execs lawB6 (lawEnv L fa ccd)) Q E s := by
  obtain ⟨KT, X, T, B, hL⟩ := A
  dsimp only [kstB] at F
  k_with_none
  k_with "my CompEnd" => (k_dflt (refine' comp_end0 ?zF ?zN ?zo ?zs ?_; (case zF => k_asm); (case zN => k_asm); (case zo => assumption); (case zs => lcg_src)))
  k_with "my k_updF" => (refine' UpdF.tail ?a ?b; (case a => (dsimp only; exact News.ne_cell (by assumption) (by k_mem) (by k_mem) (by assumption) (by intro v h; cases h))); (case b => k_updF))
  k_with "my k_all" => first | (with_reducible assumption) | (refine' List.forall_mem_cons.mpr ⟨?a, ?b⟩; (case a => first | k_ne | (dsimp only; exact News.ne_cell (by assumption) (by k_mem) (by k_mem) (by assumption) (by intro v h; cases h))); (case b => k_all))
  k_with "my compareOp NotEq ref ref" => (k_here; (with_reducible show wpAny _ _ (compareOp CmpOp.NotEq (Value.ref _) (Value.ref _)) _ _ _); k_dflt (refine' ne_words ?zN ?ma ?mb ?m0 ?m1 ?m2 ?n0 ?n1 ?n2 ?i0 ?i1 ?i2 ?g0 ?g1 ?g2 ?hu ?_; (case zN => k_asm); (case ma => k_mem); (case mb => k_mem); (case m0 => k_mem); (case m1 => k_mem); (case m2 => k_mem); (case n0 => k_mem); (case n1 => k_mem); (case n2 => k_mem); (case i0 => assumption); (case i1 => assumption); (case i2 => assumption); (case g0 => assumption); (case g1 => assumption); (case g2 => assumption); (case hu => ke_room); k_whole))
  k_with "my call ref" => (k_here; (with_reducible show wpAny _ _ (call (Value.ref 198) [Value.ref _, Value.ref _, Value.ref _, Value.int _ _]) _ _ _); k_dflt (refine' Spec.use ?B ?T ?F ?X ?N ?P ?k (spec_last _ _ _ _ _ _ ?zU _ _ _ ?y0 ?y1 ?y2 _ _ _ _ _ _ _ _ _ _ _ _ _ _ _ _ _ _ _ _ _ _ ?zn ?zw ?z0 ?z1 ?z2 ?j0 ?j1 ?j2 ?zm ?zu) ?d ?u ?_; (case F => k_asm); (case B => k_asm); (case T => k_asm); (case X => k_asm); (case N => k_asm); (case P => k_asm); (case k => first | exact rfl | assumption); (case zn => k_mem); (case zw => k_mem); (case z0 => k_mem); (case z1 => k_mem); (case z2 => k_mem); (case zm => k_mem); (case j0 => assumption); (case j1 => assumption); (case j2 => assumption); (case zu => assumption); (case zU => assumption); (case y0 => assumption); (case y1 => assumption); (case y2 => assumption); (case d => decide); (case u => decide); k_whole); intro v9 new9 h9 tk9 F9 N9 R9; obtain ⟨r9, vs9, n9, e91, e92, i9⟩ := R9; subst e91; subst e92; ((try simp only [List.nil_append, List.cons_append] at N9); (try dsimp only); (try k_fold)))
  k_with "UnrEnd" => fail
  (repeat' ((fail_if_success (with_reducible show wpAny _ _ (execs (Stmt.Assign [Expr.Name (PySem.Str.ofString "blanks") _] _ _ :: _) _) _ _ _)); (first | (k_unfold; (try dsimp only)) | walk1 | (dsimp only; walk1))))
  rename Fr _ _ _ _ => fE
  rename News _ _ _ _ => nE
  exact next _ _ _ _ _ _ _ fE (cb_drop nE (by kcj_all)) (by assumption) (by assumption)
end Mine
end

section
open PySem PySem.W PyProof.Rows PySem.Calls PyProof.V PySem.Spec
set_option maxRecDepth 100000
set_option linter.unusedVariables false
namespace Mine
theorem part34 : True := by
  k_with_none
  w_top off
  exact True.intro



noncomputable def lawB10 : List Stmt := by
  have h : q17B.drop 10 = ?x := by
    conv => lhs; whnf
  exact ?x
noncomputable def lawB11 : List Stmt := by
  have h : q17B.drop 11 = ?x := by
    conv => lhs; whnf
  exact ?x

theorem codes_mul (n : Int) : KStt.codes (Txt.mul (Str.ofString " ") n) = List.replicate n.toNat 32 := by
  have e : Str.ofString " " = ⟨#[32]⟩ := sp_is
  rw [e, KStt.codes, mul_one_list]
  simp
noncomputable def apartCd (l0 l1 l2 t : Nat) : List Int := (List.replicate (l0 - 1) 32 ++ [9]) ++ (List.replicate (l1 - 1) 32 ++ [9]) ++ (List.replicate (l2 - 1) 32 ++ [9]) ++ List.replicate t 32 ++ [120, 32, 9]
noncomputable def wholeCd (l0 l1 l2 t : Nat) : List Int := List.replicate l0 32 ++ List.replicate l1 32 ++ List.replicate l2 32 ++ List.replicate t 32 ++ [120, 32, 9]
theorem codes_tab : KStt.codes (Str.ofString "\t") = [9] := by decide
theorem codes_x : KStt.codes (Str.ofString "x \t") = [120, 32, 9] := by decide
theorem codes_nil : KStt.codes (Str.ofString "") = [] := by decide
section
variable {prog : Program} {w : World} {A : Around} {E : Value → Shared → Prop} {s : Shared} {h₀ : Heap} {L : Addr} {news : Led} {Q : Value → Shared → Prop}
theorem join_3 {D : Addr} {a b c : Str} {t0 t1 t2 t : Tok} (N : News h₀ L s.heap news) (hm : (D, LCg.lst [.str a t0, .str b t1, .str c t2]) ∈ news) (ha : a.length ≤ 13) (hb : b.length ≤ 13) (hc : c.length ≤ 13)
    (h : ∀ x t' k, KStt.codes x = KStt.codes a ++ KStt.codes b ++ KStt.codes c → x.length ≤ 39 → Q (.str x t') { s with toks := k }) : wpAny (model prog w) A (call (.builtin "str.join") [.str (Str.ofString "") t, .ref D]) Q E s := by
  have hl : s.heap.IsList D #[.str a t0, .str b t1, .str c t2] := ⟨_, (N _ hm).1, rfl, _, rfl⟩
  refine join_madeW (l := [a, b, c]) (g := fun x => x) 13 hl (.cons (.str _ _) (.cons (.str _ _) (.cons (.str _ _) .nil))) (fun x hx => ?_) (Nat.le_of_ble_eq_true rfl) (by decide) fun t' k => ?_
  · simp only [List.mem_cons, List.not_mem_nil, or_false] at hx
    rcases hx with rfl | rfl | rfl <;> assumption
  · have e : KStt.codes (Txt.join (Str.ofString "") ([a, b, c].map fun x => x)) = KStt.codes a ++ KStt.codes b ++ KStt.codes c := by
      show KStt.codes (Builtin.Str.glued _ _) = _
      rw [StrLaws.glued_eq_join]
      simp only [List.map_cons, List.map_nil, Str.join, codes_app, codes_nil, List.nil_append, List.append_nil, List.append_assoc]
    refine h _ t' k e ?_
    have := congrArg List.length e
    simp only [List.length_append, KStt.codes_length] at this
    omega
end
theorem el_a {l : Nat} (h : l ≤ 12) : (Txt.mul (Str.ofString " ") ((l : Int) - 1) ++ Str.ofString "\t").length ≤ 13 := by
  rw [← KStt.codes_length, codes_app, codes_mul, codes_tab, List.length_append, List.length_replicate]
  show _ + 1 ≤ 13
  omega
theorem el_w {l : Nat} (h : l ≤ 12) : (Txt.mul (Str.ofString " ") (l : Int)).length ≤ 13 := by
  rw [← KStt.codes_length, codes_mul, List.length_replicate]
  omega
theorem use_ws {w : World} {mean : ExcName → Option Value} {mg mb : Str → Option Value} {news : Led} {x : Str} {t : Tok} {cd : List Int} (hcd : KStt.codes x = cd) (hsz : cd.length ≤ 64) :
    Spec w mean mg mb 147 2 news [.str x t] (fun v new => ∃ a cs, v = .ref a.r ∧ new = wsLed w a ∧ WsOf cd a cs) := by
  subst hcd
  exact spec_ws w mean mg mb news x t (by show x.length ≤ 64; rw [← KStt.codes_length]; exact hsz)

theorem apart_len {l0 l1 l2 t : Nat} (h0 : l0 ≤ 12) (h1 : l1 ≤ 12) (h2 : l2 ≤ 12) (ht : t ≤ 2) : (apartCd l0 l1 l2 t).length ≤ 64 := by
  simp only [apartCd, List.length_append, List.length_replicate, List.length_cons, List.length_nil]; omega
theorem whole_len {l0 l1 l2 t : Nat} (h0 : l0 ≤ 12) (h1 : l1 ≤ 12) (h2 : l2 ≤ 12) (ht : t ≤ 2) : (wholeCd l0 l1 l2 t).length ≤ 64 := by
  simp only [wholeCd, List.length_append, List.length_replicate, List.length_cons, List.length_nil]; omega
set_option maxHeartbeats 1000000 in
theorem law_4a (w : World) (mean : ExcName → Option Value) (mg mb : Str → Option Value) (h₀ : Heap) (L : Addr) (s : Shared) (fa : Addr) (ccd : Value) (A : LawAt w mean mg mb h₀ L) (news : Led) (x0 x1 x2 : List Int) (TT : Int) (m0 : Str → Option Value)
    (g0 : 1 ≤ x0.length ∧ x0.length ≤ 12) (g1 : 1 ≤ x1.length ∧ x1.length ≤ 12) (g2 : 1 ≤ x2.length ∧ x2.length ≤ 12)
    (rw ra rb rc : Addr) (kw ka kb kc : Nat) (va vb vc : List Value) (tt : Tok) (o4 o7 : Obj)
    (F : Fr h₀ L s.heap m0)
    (N : News h₀ L s.heap ((rw, W.listOf #[.ref ra, .ref rb, .ref rc] kw) :: (ra, W.listOf (List.toArray va) ka) :: (rb, W.listOf (List.toArray vb) kb) :: (rc, W.listOf (List.toArray vc) kc) :: (L + 1 + 1 + 1 + 1, o4) :: (L + 1, o7) :: news))
    (d4 : o4.data = .cell (some (.ref rw))) (d7 : o7.data = .cell (some (.int TT tt)))
    (ia : IntsAre va x0) (ib : IntsAre vb x1) (ic : IntsAre vc x2)
    (Q : Flow → Shared → Prop) (E : Value → Shared → Prop)
    (next : ∀ h' tk a cs tb (m0 : Str → Option Value), Fr h₀ L h' (kstB m0 [(Str.ofString "blanks", .str (Txt.mul (Str.ofString " ") (TT.fmod 3)) tb), (Str.ofString "apart", .ref (WsA.r a))]) →
      News h₀ L h' ((rw, W.listOf #[.ref ra, .ref rb, .ref rc] kw) :: (ra, W.listOf (List.toArray va) ka) :: (rb, W.listOf (List.toArray vb) kb) :: (rc, W.listOf (List.toArray vc) kc) :: (L + 1 + 1 + 1 + 1, o4) :: (L + 1, o7) :: (wsLed w a ++ news)) →
      WsOf (apartCd x0.length x1.length x2.length (TT.fmod 3).toNat) a cs →
      wpAny (model pw w) (lawA L fa ccd) (execs lawB11 (lawEnv L fa ccd)) Q E { s with heap := h', toks := tk }) :
    wpAny (model pw w) (lawA L fa ccd) (execs lawB9 (lawEnv L fa ccd)) Q E s := by
  obtain ⟨KT, X, T, B, hL⟩ := A
  obtain ⟨g00, g01⟩ := g0
  obtain ⟨g10, g11⟩ := g1
  obtain ⟨g20, g21⟩ := g2
  have hT := fm_bd TT (k := 3) (by decide)
  obtain ⟨hT0, hT1⟩ := hT
  have lb : (Txt.mul (Str.ofString " ") (TT.fmod 3)).length ≤ 2 := by
    rw [← KStt.codes_length, codes_mul, List.length_replicate]
    omega
  have ltab : (Str.ofString "\t").length = 1 := by decide
  have lx : (Str.ofString "x \t").length = 3 := by decide
  k_with_none
  k_with "my CompEnd" => (k_dflt (refine' comp_end0 ?zF ?zN ?zo ?zs ?_; (case zF => k_asm); (case zN => k_asm); (case zo => assumption); (case zs => lcg_src)))
  k_with "my k_updF" => (refine' UpdF.tail ?a ?b; (case a => (dsimp only; exact News.ne_cell (by assumption) (by k_mem) (by k_mem) (by assumption) (by intro v h; cases h))); (case b => k_updF))
  k_with "my k_all" => first | (with_reducible assumption) | (refine' List.forall_mem_cons.mpr ⟨?a, ?b⟩; (case a => first | k_ne | (dsimp only; exact News.ne_cell (by assumption) (by k_mem) (by k_mem) (by assumption) (by intro v h; cases h))); (case b => k_all))
  k_with "my call builtin:str.join" => (k_here; (with_reducible show wpAny _ _ (call (Value.builtin "str.join") [Value.str (Str.ofString "") _, Value.ref _]) _ _ _); k_dflt (refine' join_3 ?zN ?zm ?za ?zb ?zc ?_; (case zN => k_asm); (case zm => exact List.Mem.head _); (case za => first | exact el_a (by assumption) | exact el_w (by assumption)); (case zb => first | exact el_a (by assumption) | exact el_w (by assumption)); (case zc => first | exact el_a (by assumption) | exact el_w (by assumption)); k_whole); intro x9 t9 k9 hx9 hl9; (repeat ((with_reducible rename (_ < (0 : Int) → _ = (0 : Nat)) => z9); clear z9)); (repeat ((with_reducible rename ((0 : Int) ≤ _ → _ = _ * _) => z9); clear z9)))
  (repeat' ((fail_if_success (with_reducible show wpAny _ _ (call (Value.ref 147) _) _ _ _)); (first | (k_unfold; (try dsimp only)) | (walk1 <;> (try dsimp only)) | (dsimp only; walk1))))
  rename (KStt.codes _ = _) => hx9
  k_dflt (refine' Spec.use ?B ?T ?F ?X ?N ?P ?k (use_ws (cd := apartCd x0.length x1.length x2.length (TT.fmod 3).toNat) ?hcd (apart_len g01 g11 g21 (by omega))) ?d ?u ?_; (case F => k_asm); (case B => k_asm); (case T => k_asm); (case X => k_asm); (case N => k_asm); (case P => k_asm); (case k => first | exact rfl | assumption); (case d => decide); (case u => decide))
  case hcd =>
    simp only [codes_app, codes_mul, codes_tab, codes_x, hx9, apartCd]
    rw [show ((x0.length : Int) - 1).toNat = x0.length - 1 by omega, show ((x1.length : Int) - 1).toNat = x1.length - 1 by omega, show ((x2.length : Int) - 1).toNat = x2.length - 1 by omega]
  intro v9 new9 h9 tk9 F9 N9 R9
  obtain ⟨a9, cs9, e91, e92, hws⟩ := R9
  subst e91; subst e92
  (repeat' ((fail_if_success (with_reducible show wpAny _ _ (execs (Stmt.Assign [Expr.Name (PySem.Str.ofString "whole") _] _ _ :: _) _) _ _ _)); (first | (k_unfold; (try dsimp only)) | (walk1 <;> (try dsimp only)) | (dsimp only; walk1))))
  rename Fr _ _ _ _ => fE
  rename News _ _ _ _ => nE
  refine next _ _ _ _ _ _ (seg_fr fE (by kst_all)) (cb_drop nE ?_) hws
  intro p hp
  simp only [List.mem_cons, List.mem_append] at hp ⊢
  rcases hp with h | h | h | h | h | h | h | h <;> simp only [h, true_or, or_true]

set_option maxHeartbeats 1000000 in
theorem law_4b (w : World) (mean : ExcName → Option Value) (mg mb : Str → Option Value) (h₀ : Heap) (L : Addr) (s : Shared) (fa : Addr) (ccd : Value) (A : LawAt w mean mg mb h₀ L) (news : Led) (x0 x1 x2 : List Int) (TT : Int) (m0 : Str → Option Value)
    (g0 : 1 ≤ x0.length ∧ x0.length ≤ 12) (g1 : 1 ≤ x1.length ∧ x1.length ≤ 12) (g2 : 1 ≤ x2.length ∧ x2.length ≤ 12)
    (rw ra rb rc rA : Addr) (kw ka kb kc : Nat) (va vb vc : List Value) (tb : Tok) (o4 : Obj)
    (F : Fr h₀ L s.heap (kstB m0 [(Str.ofString "blanks", .str (Txt.mul (Str.ofString " ") (TT.fmod 3)) tb), (Str.ofString "apart", .ref rA)]))
    (N : News h₀ L s.heap ((rw, W.listOf #[.ref ra, .ref rb, .ref rc] kw) :: (ra, W.listOf (List.toArray va) ka) :: (rb, W.listOf (List.toArray vb) kb) :: (rc, W.listOf (List.toArray vc) kc) :: (L + 1 + 1 + 1 + 1, o4) :: news))
    (d4 : o4.data = .cell (some (.ref rw)))
    (ia : IntsAre va x0) (ib : IntsAre vb x1) (ic : IntsAre vc x2)
    (Q : Flow → Shared → Prop) (E : Value → Shared → Prop)
    (next : ∀ h' tk a cs (m0 : Str → Option Value), Fr h₀ L h' (kstB m0 [(Str.ofString "apart", .ref rA), (Str.ofString "whole", .ref (WsA.r a))]) →
      News h₀ L h' ((rw, W.listOf #[.ref ra, .ref rb, .ref rc] kw) :: (ra, W.listOf (List.toArray va) ka) :: (rb, W.listOf (List.toArray vb) kb) :: (rc, W.listOf (List.toArray vc) kc) :: (L + 1 + 1 + 1 + 1, o4) :: (wsLed w a ++ news)) →
      WsOf (wholeCd x0.length x1.length x2.length (TT.fmod 3).toNat) a cs →
      wpAny (model pw w) (lawA L fa ccd) (execs lawB12 (lawEnv L fa ccd)) Q E { s with heap := h', toks := tk }) :
    wpAny (model pw w) (lawA L fa ccd) (execs lawB11 (lawEnv L fa ccd)) Q E s := by
  obtain ⟨KT, X, T, B, hL⟩ := A
  obtain ⟨g00, g01⟩ := g0
  obtain ⟨g10, g11⟩ := g1
  obtain ⟨g20, g21⟩ := g2
  have hT := fm_bd TT (k := 3) (by decide)
  obtain ⟨hT0, hT1⟩ := hT
  have lb : (Txt.mul (Str.ofString " ") (TT.fmod 3)).length ≤ 2 := by
    rw [← KStt.codes_length, codes_mul, List.length_replicate]
    omega
  have lx : (Str.ofString "x \t").length = 3 := by decide
  dsimp only [kstB] at F
  k_with_none
  k_with "my CompEnd" => (k_dflt (refine' comp_end0 ?zF ?zN ?zo ?zs ?_; (case zF => k_asm); (case zN => k_asm); (case zo => assumption); (case zs => lcg_src)))
  k_with "my k_updF" => (refine' UpdF.tail ?a ?b; (case a => (dsimp only; exact News.ne_cell (by assumption) (by k_mem) (by k_mem) (by assumption) (by intro v h; cases h))); (case b => k_updF))
  k_with "my k_all" => first | (with_reducible assumption) | (refine' List.forall_mem_cons.mpr ⟨?a, ?b⟩; (case a => first | k_ne | (dsimp only; exact News.ne_cell (by assumption) (by k_mem) (by k_mem) (by assumption) (by intro v h; cases h))); (case b => k_all))
  k_with "my call builtin:str.join" => (k_here; (with_reducible show wpAny _ _ (call (Value.builtin "str.join") [Value.str (Str.ofString "") _, Value.ref _]) _ _ _); k_dflt (refine' join_3 ?zN ?zm ?za ?zb ?zc ?_; (case zN => k_asm); (case zm => exact List.Mem.head _); (case za => first | exact el_a (by assumption) | exact el_w (by assumption)); (case zb => first | exact el_a (by assumption) | exact el_w (by assumption)); (case zc => first | exact el_a (by assumption) | exact el_w (by assumption)); k_whole); intro x9 t9 k9 hx9 hl9; (repeat ((with_reducible rename (_ < (0 : Int) → _ = (0 : Nat)) => z9); clear z9)); (repeat ((with_reducible rename ((0 : Int) ≤ _ → _ = _ * _) => z9); clear z9)))
  (repeat' ((fail_if_success (with_reducible show wpAny _ _ (call (Value.ref 147) _) _ _ _)); (first | (k_unfold; (try dsimp only)) | (walk1 <;> (try dsimp only)) | (dsimp only; walk1))))
  rename (KStt.codes _ = _) => hx9
  k_dflt (refine' Spec.use ?B ?T ?F ?X ?N ?P ?k (use_ws (cd := wholeCd x0.length x1.length x2.length (TT.fmod 3).toNat) ?hcd (whole_len g01 g11 g21 (by omega))) ?d ?u ?_; (case F => k_asm); (case B => k_asm); (case T => k_asm); (case X => k_asm); (case N => k_asm); (case P => k_asm); (case k => first | exact rfl | assumption); (case d => decide); (case u => decide))
  case hcd => simp only [codes_app, codes_mul, codes_tab, codes_x, hx9, wholeCd, Int.toNat_natCast]
  intro v9 new9 h9 tk9 F9 N9 R9
  obtain ⟨a9, cs9, e91, e92, hws⟩ := R9
  subst e91; subst e92
  (repeat' ((fail_if_success (with_reducible show wpAny _ _ (execs (Stmt.Assign [Expr.Name (PySem.Str.ofString "end") _] _ _ :: _) _) _ _ _)); (first | (k_unfold; (try dsimp only)) | (walk1 <;> (try dsimp only)) | (dsimp only; walk1))))
  rename Fr _ _ _ _ => fE
  rename News _ _ _ _ => nE
  refine next _ _ _ _ _ (seg_fr fE (by kst_all)) (cb_drop nE ?_) hws
  intro p hp
  simp only [List.mem_cons, List.mem_append] at hp ⊢
  rcases hp with h | h | h | h | h | h | h <;> simp only [h, true_or, or_true]
end Mine
end

section
open PySem PySem.W PyProof.Rows PySem.Calls PyProof.V PySem.Spec
set_option maxRecDepth 100000
set_option linter.unusedVariables false
namespace Mine
theorem part35 : True := by
  k_with_none
  w_top off
  exact True.intro


section
variable {prog : Program} {w : World} {A : Around} {E : Value → Shared → Prop} {s : Shared} {h₀ : Heap} {L : Addr} {m : Str → Option Value} {env : Env}
/-- four addresses that a ledger does not hold -/
noncomputable def Off4 (I C K D : Addr) (l : Led) : Prop := ∀ p ∈ l, @Ne Nat p.1 I ∧ @Ne Nat p.1 C ∧ @Ne Nat p.1 K ∧ @Ne Nat p.1 D
noncomputable def CellEnd (h₀ : Heap) (L : Addr) (m : Str → Option Value) (s₁ : Shared) (I : Addr) (oI : Obj) (C : Addr) (oC : Obj) (K : Addr) (oK : Obj) (D : Addr) (oD : Obj) (rest : Value → Led → Prop) (y : Value) (s₂ : Shared) : Prop :=
  ∃ h' tk news', s₂ = { s₁ with heap := h', toks := tk } ∧ Fr h₀ L h' m ∧ News h₀ L h' ((I, oI) :: (C, oC) :: (K, oK) :: (D, oD) :: news') ∧ Off4 I C K D news' ∧ rest y news'
theorem newEnv_cell {scope : Scope} {cl : List (Str × Addr)} {x : Str} {Q : Env → Shared → Prop} (hcf : ∀ n, cellsFrom n scope.names cl = (x, n) :: cl) (hpc : ∀ h, pushCells h scope.names = h.push { cls := .type "cell", data := .cell none })
    (h : Q { scope, locals := s.heap.objs.size, globals := env.globals, cells := (x, s.heap.objs.size + 1) :: cl, qual := env.qual, func := none, code := env.code, frame := env.frame, builtins := env.builtins }
      { s with heap := (s.heap.push { cls := .type "dict", data := .dict #[] }).push { cls := .type "cell", data := .cell none } }) :
    wpAny (model prog w) A (newFunctionEnv scope env.globals cl [] env.qual none .none (some env)) Q E s := by
  simp only [newFunctionEnv, Option.isSome_some, if_true]
  refine wpAny_bind (wpAny_alloc ?_)
  refine wpAny_bind (wpAny_layCells _ (fun name kind cells => by cases hkc : kind == NameKind.cell <;> simp [hkc]) _ _ _ _ ?_)
  rw [hcf, hpc]
  rw [show ({ s with heap := s.heap.push { cls := .type "dict", data := .dict #[] } } : Shared).heap.objs.size = s.heap.objs.size + 1 from Heap.size_push ..]
  rw [List.forIn_nil]
  exact wpAny_bind (wpAny_pure (wpAny_pure h))
theorem nw_cons {h₀ h : Heap} {L a : Addr} {o : Obj} {l : List (Addr × Obj)} (e : h.get? a = some o) (n : a ≠ L) (z : h₀.get? a = none) (N : News h₀ L h l) : News h₀ L h ((a, o) :: l) := fun p hp => by
  rcases List.mem_cons.1 hp with rfl | hp
  · exact ⟨e, n, z⟩
  · exact N p hp
theorem Assign_comp_cell {elt iter : PySem.Expr} {x y : Str} {px py : Pos} {scope : Scope} {cl : List (Str × Addr)} {pos spos : Pos} {Q : Flow → Shared → Prop} (Inv : Nat → List Value → Led → Prop) (F₀ : Fr h₀ L s.heap m) (hLe : env.locals = L)
    (hsw : swapsWith (.ListComp elt [⟨.Name x px, iter, [], 0⟩] scope pos) (some (.Name y py)) spos.line env = pure true)
    (hclos : closureFor scope env = pure cl) (hkind : scope.kind = .function)
    (hnames : ∀ z ∈ scope.names, z.2 = .local → scope.names.lookup z.1 = some .local) (hxc : (relabel scope env).names.lookup x = some .cell)
    (hcf : ∀ n, cellsFrom n scope.names cl = (x, n) :: cl) (hpc : ∀ h, pushCells h scope.names = h.push { cls := .type "cell", data := .cell none })
    (hy : env.kindOf y = some .local) (hp : (env.scope.kind == .class || (env.scope.kind == .module && env.locals != env.globals)) = false)
    (h : wpAny (model prog w) A (eval iter env) (fun xv s₁ => ∃ r a b t u v n news, xv = .ref r ∧ A.handled = none ∧ Fr h₀ L s₁.heap m ∧ News h₀ L s₁.heap news ∧ IsRange s₁.heap r a b 1 t u v ∧ Builtin.Range.small a b 1 = true ∧ Builtin.Range.rangeSize a b 1 = ((n : Nat) : Int) ∧ n ≤ sizeLine ∧ Inv 0 [] news ∧
      (∀ (g : Heap) i ys news (v : Value) t C oC K oK D I oI h tk (E' : Value → Shared → Prop), i < n → Inv i ys news → v = .int (a + (i : Int)) t → oK.data = .cell (some v) → Fr h₀ L h m → News h₀ L h ((I, oI) :: (C, oC) :: (K, oK) :: (D, LCg.lst ys) :: news) → Off4 I C K D news →
        wpAny (model prog w) A (eval elt (compEnvC scope ((x, K) :: cl) C env)) (CellEnd h₀ L m { s₁ with heap := h, toks := tk } I oI C oC K oK D (LCg.lst ys) (fun y news' => Inv (i + 1) (ys ++ [y]) news')) E' { s₁ with heap := h, toks := tk }) ∧
      (∀ ys news D h tk, Inv n ys news → Fr h₀ L h (fun z => if z = y then some (.ref D) else m z) → News h₀ L h ((D, LCg.lst ys) :: news) → Q .next { s₁ with heap := h, toks := tk })) E s)
    (hs : ∀ x, foldedSetIterable iter env x = pure x := by intro _; rfl) :
    wpAny (model prog w) A (exec (.Assign [.Name y py] (.ListComp elt [⟨.Name x px, iter, [], 0⟩] scope pos) spos) env) Q E s := by
  subst hLe
  rw [exec_Assign_Name_used _ _ _ _ hsw]
  refine wpAny_bind (wpAny_standAt (wpAny_bind ?_))
  show wpAny _ A (do let _ ← comprehension (.ListComp elt [⟨.Name x px, iter, [], 0⟩] scope pos) scope env _ (newList []) false (eval iter env) (some (assign (.Name y py) env))) _ _ s
  refine wpAny_bind (wpAny_mono (wpAny_comprehension_free (use := some (assign (.Name y py) env)) (Q := fun _ s' => Q .next s') rfl hs hclos hkind hnames
    (wpAny_mono h (fun xv s₁ h₁ => ?_) fun _ _ e => e)) (fun _ s' hq => wpAny_pure (wpAny_pure hq)) fun _ _ e => e)
  obtain ⟨r, a, b, t, u, v, n, news, rfl, hh, F, N, hr, hsm, hn, hsz, I0, turn, done⟩ := h₁
  refine wpAny_pyIter_range hr hsm ?_
  refine wpAny_newObj_type (newEnv_cell hcf hpc ?_)
  dsimp only
  have hlI : (s₁.heap.push { cls := .type "range_iterator", data := .fields #[rawInt a, rawInt (Builtin.Range.rangeSize a b 1), rawInt 1] }).get? s₁.heap.objs.size = some { cls := .type "range_iterator", data := .fields #[rawInt a, rawInt (Builtin.Range.rangeSize a b 1), rawInt 1] } := Heap.get?_push_size _ rfl
  have up1 : ∀ b' o, s₁.heap.get? b' = some o → (s₁.heap.push { cls := .type "range_iterator", data := .fields #[rawInt a, rawInt (Builtin.Range.rangeSize a b 1), rawInt 1] }).get? b' = some o := fun b' o e => Heap.get?_push_of_some _ e
  have z1 : (s₁.heap.push { cls := .type "range_iterator", data := .fields #[rawInt a, rawInt (Builtin.Range.rangeSize a b 1), rawInt 1] }).objs.size = s₁.heap.objs.size + 1 := Heap.size_push ..
  generalize s₁.heap.push { cls := .type "range_iterator", data := .fields #[rawInt a, rawInt (Builtin.Range.rangeSize a b 1), rawInt 1] } = H1 at *
  have hlD : (H1.push { cls := .type "list", data := .seq (#[] : Array Value) }).get? H1.objs.size = some (LCg.lst []) := Heap.get?_push_size _ rfl
  have up2 : ∀ b' o, H1.get? b' = some o → (H1.push { cls := .type "list", data := .seq (#[] : Array Value) }).get? b' = some o := fun b' o e => Heap.get?_push_of_some _ e
  have z2 : (H1.push { cls := .type "list", data := .seq (#[] : Array Value) }).objs.size = H1.objs.size + 1 := Heap.size_push ..
  generalize H1.push { cls := .type "list", data := .seq (#[] : Array Value) } = H2 at *
  have nsC : (H2.push { cls := .type "dict", data := .dict #[] }).Ns H2.objs.size (fun _ => none) := Heap.Ns.new H2 (.type "dict")
  have up3 : ∀ b' o, H2.get? b' = some o → (H2.push { cls := .type "dict", data := .dict #[] }).get? b' = some o := fun b' o e => Heap.get?_push_of_some _ e
  have z3 : (H2.push { cls := .type "dict", data := .dict #[] }).objs.size = H2.objs.size + 1 := Heap.size_push ..
  generalize H2.push { cls := .type "dict", data := .dict #[] } = H3 at *
  have hlK : (H3.push { cls := .type "cell", data := .cell none }).get? H3.objs.size = some { cls := .type "cell", data := .cell none } := Heap.get?_push_size _ rfl
  have up4 : ∀ b' o, H3.get? b' = some o → (H3.push { cls := .type "cell", data := .cell none }).get? b' = some o := fun b' o e => Heap.get?_push_of_some _ e
  generalize H3.push { cls := .type "cell", data := .cell none } = H4 at *
  have up : ∀ b' o, s₁.heap.get? b' = some o → H4.get? b' = some o := fun b' o e => up4 _ _ (up3 _ _ (up2 _ _ (up1 _ _ e)))
  have hlI := up4 _ _ (up3 _ _ (up2 _ _ hlI))
  have hlD := up4 _ _ (up3 _ _ hlD)
  have nsC := nsC.keeps up4
  obtain ⟨oC0, heC0, hoC0⟩ := LCg.ns_obj nsC
  have hLz : @LT.lt Nat _ env.locals s₁.heap.objs.size := F.ns.lt
  have hL0 : @LE.le Nat _ h₀.objs.size env.locals := F.above
  have none₀ : ∀ a', @LE.le Nat _ s₁.heap.objs.size a' → h₀.get? a' = none := fun a' ha => Heap.get?_none_of_le (Nat.le_trans (Nat.le_trans hL0 (Nat.le_of_lt hLz)) ha)
  rw [← z3]
  have zI₀ : h₀.get? s₁.heap.objs.size = none := none₀ _ (Nat.le_refl _)
  have k1 : @LT.lt Nat _ s₁.heap.objs.size H1.objs.size := by rw [z1]; exact Nat.lt_succ_self _
  have k2 : @LT.lt Nat _ H1.objs.size H2.objs.size := by rw [z2]; exact Nat.lt_succ_self _
  have k3 : @LT.lt Nat _ H2.objs.size H3.objs.size := by rw [z3]; exact Nat.lt_succ_self _
  have k12 := Nat.lt_trans k1 k2
  have k23 := Nat.lt_trans k2 k3
  have k13 := Nat.lt_trans k12 k3
  have zD₀ : h₀.get? H1.objs.size = none := none₀ _ (Nat.le_of_lt k1)
  have zC₀ : h₀.get? H2.objs.size = none := none₀ _ (Nat.le_of_lt k12)
  have zK₀ : h₀.get? H3.objs.size = none := none₀ _ (Nat.le_of_lt k13)
  have nI : @Ne Nat env.locals s₁.heap.objs.size := Nat.ne_of_lt hLz
  have nD : @Ne Nat H1.objs.size env.locals := Nat.ne_of_gt (Nat.lt_trans hLz k1)
  have nC : @Ne Nat H2.objs.size env.locals := Nat.ne_of_gt (Nat.lt_trans hLz k12)
  have nK : @Ne Nat H3.objs.size env.locals := Nat.ne_of_gt (Nat.lt_trans hLz k13)
  have nID : @Ne Nat s₁.heap.objs.size H1.objs.size := Nat.ne_of_lt k1
  have nIC : @Ne Nat s₁.heap.objs.size H2.objs.size := Nat.ne_of_lt k12
  have nIK : @Ne Nat s₁.heap.objs.size H3.objs.size := Nat.ne_of_lt k13
  have nDC : @Ne Nat H1.objs.size H2.objs.size := Nat.ne_of_lt k2
  have nDK : @Ne Nat H1.objs.size H3.objs.size := Nat.ne_of_lt k23
  have nCK : @Ne Nat H2.objs.size H3.objs.size := Nat.ne_of_lt k3
  have off0 : Off4 s₁.heap.objs.size H2.objs.size H3.objs.size H1.objs.size news := fun p hp =>
    have l := ltN (Heap.lt_size (N p hp).1)
    ⟨Nat.ne_of_lt l, Nat.ne_of_lt (Nat.lt_trans l k12), Nat.ne_of_lt (Nat.lt_trans l k13), Nat.ne_of_lt (Nat.lt_trans l k1)⟩
  clear k1 k2 k3 k12 k23 k13
  have N4 : News h₀ env.locals H4 news := N.grown up
  have F4 : Fr h₀ env.locals H4 m := F.keeps up
  have heC4 := heC0
  clear up1 up2 up3 up4 up none₀ z1 z2 z3 hLz hL0
  generalize s₁.heap.objs.size = I at *
  generalize H1.objs.size = D at *
  generalize H2.objs.size = C at *
  generalize H3.objs.size = K at *
  have W := LCg.range_walks (prog := prog) (w := w) (A := A) (I := I) hh a n
  have hst0 : IsRangeIter H4 I (a + ((0 : Nat) : Int) * 1) ((n : Int) - ((0 : Nat) : Int)) 1 := by
    show H4.get? I = _
    rw [hlI, hn]
    simp
  have loop : ∀ s₃ : Shared, s₃ = { s₁ with heap := H4 } →
      codeAny (model prog w) A (.compLoop (.ListComp elt [⟨.Name x px, iter, [], 0⟩] scope pos) 0 (.ref I) (.ref D) (compEnvC scope ((x, K) :: cl) C env))
        (compPost (model prog w) A E (some (assign (Expr.Name y py) env)) (fun x s' => Q Flow.next s') (Value.ref D) C) s₃ := by
    rintro s₃ rfl
    refine codeAny_compLoop_tests
      (fun k s' => ∃ h' tk i ys news' oK oC vK mC, s' = { s₁ with heap := h', toks := tk } ∧ i ≤ n ∧ k = n + 1 - i ∧ ys.length = i ∧ IsRangeIter h' I (a + (i : Nat) * 1) ((n : Int) - (i : Nat)) 1 ∧ Fr h₀ env.locals h' m ∧
        News h₀ env.locals h' ((C, oC) :: (K, oK) :: (D, LCg.lst ys) :: news') ∧ LCg.NsObj oC mC ∧ oK.data = .cell vK ∧ Off4 I C K D news' ∧ Inv i ys news') ?_ (n + 1)
      ⟨H4, s₁.toks, 0, [], news, { cls := .type "cell", data := .cell none }, oC0, none, _, rfl, Nat.zero_le _, rfl, rfl, hst0, F4, ?_, hoC0, rfl, off0, I0⟩
    · rintro k s' ⟨h', tk, i, ys, news', oK, oC, vK, mC, rfl, hi, rfl, hyl, hit, F', N', hoC, hoK, off', I'⟩
      by_cases hlt : i < n
      · refine W.item i _ _ _ hlt hit fun v h₂ tk₂ hPv hst₂ hk₂ => ?_
        obtain ⟨t, rfl⟩ := hPv
        have kk : ∀ b o, b ≠ I → h'.get? b = some o → h₂.get? b = some o := fun b o hb e => hk₂ b o (by simpa using hb) e
        have N₂ : News h₀ env.locals h₂ ((C, oC) :: (K, oK) :: (D, LCg.lst ys) :: news') := LCg.news_but N' hk₂ (List.forall_mem_cons.2 ⟨Ne.symm nIC, List.forall_mem_cons.2 ⟨Ne.symm nIK, List.forall_mem_cons.2 ⟨Ne.symm nID, fun p hp => (off' p hp).1⟩⟩⟩)
        have F₂ : Fr h₀ env.locals h₂ m := LCg.fr_but F' hk₂ nI zI₀
        refine wpAny_assign_Name (wpAny_storeName_cell (by simp [compEnvC, relabel, hkind]) hxc (by simp [compEnvC]) ⟨oK, (N₂ _ (.tail _ (.head _))).1, hoK⟩ (fun h₃ hcell₃ hs₃ => ?_))
        refine wpAny_tests_nil ?_
        rw [if_pos rfl]
        obtain ⟨oK₃, heK₃, hoK₃⟩ := hcell₃
        have F₃ : Fr h₀ env.locals h₃ m := F₂.change hs₃ nK zK₀
        have hst₃ : IsRangeIter h₃ I (a + ((i + 1 : Nat) : Int) * 1) ((n : Int) - ((i + 1 : Nat) : Int)) 1 := hs₃.extBut _ _ nIK hst₂
        have N₃ : News h₀ env.locals h₃ ((I, _) :: (C, oC) :: (K, oK₃) :: (D, LCg.lst ys) :: news') :=
          nw_cons hst₃ (Ne.symm nI) zI₀ (nw_cons (hs₃.extBut _ _ nCK (N₂ _ (.head _)).1) nC zC₀ (nw_cons heK₃ nK zK₀ (nw_cons (hs₃.extBut _ _ nDK (N₂ _ (.tail _ (.tail _ (.head _)))).1) nD zD₀ fun p hp =>
            have z := N₂ p (.tail _ (.tail _ (.tail _ hp)))
            ⟨hs₃.extBut _ _ (off' p hp).2.2.1 z.1, z.2⟩)))
        refine wpAny_mono (turn h₃ i ys news' _ t C oC K oK₃ D I _ h₃ tk₂ _ hlt I' rfl hoK₃ F₃ N₃ off') (fun y' s₄ h₄ => ?_) fun _ _ e => e
        obtain ⟨h₄, tk₄, news₄, rfl, F₄, N₄, off₄, I₄⟩ := h₄
        refine append_at (hsz := by show ys.toArray.size ≤ sizeLine; rw [List.size_toArray, hyl]; exact Nat.le_trans hi hsz) (N₄ _ (.tail _ (.tail _ (.tail _ (.head _))))).1 fun h₅ hs₅ hD₅ => ?_
        refine ⟨n + 1 - (i + 1), by omega, h₅, tk₄, i + 1, ys ++ [y'], news₄, oK₃, oC, some _, mC, rfl, hlt, rfl, by rw [List.length_append, List.length_singleton, hyl], hs₅.extBut _ _ nID (N₄ _ (.head _)).1, F₄.change hs₅ nD zD₀, nw_cons (hs₅.extBut _ _ (Ne.symm nDC) (N₄ _ (.tail _ (.head _))).1) nC zC₀ (nw_cons (hs₅.extBut _ _ (Ne.symm nDK) (N₄ _ (.tail _ (.tail _ (.head _)))).1) nK zK₀ (nw_cons (hD₅.trans (congrArg some (LCg.lst_snoc ys y'))) nD zD₀ fun p hp =>
            have z := N₄ p (.tail _ (.tail _ (.tail _ (.tail _ hp))))
            ⟨hs₅.extBut _ _ (off₄ p hp).2.2.2 z.1, z.2⟩)), hoC, hoK₃, off₄, I₄⟩
      · obtain rfl : i = n := Nat.le_antisymm hi (Nat.not_lt.mp hlt)
        refine W.done _ _ _ hit fun h₂ tk₂ hk₂ => ?_
        have N₂ : News h₀ env.locals h₂ ((C, oC) :: (K, oK) :: (D, LCg.lst ys) :: news') := LCg.news_but N' hk₂ (List.forall_mem_cons.2 ⟨Ne.symm nIC, List.forall_mem_cons.2 ⟨Ne.symm nIK, List.forall_mem_cons.2 ⟨Ne.symm nID, fun p hp => (off' p hp).1⟩⟩⟩)
        have F₂ : Fr h₀ env.locals h₂ m := LCg.fr_but F' hk₂ nI zI₀
        show wpAny _ A (assign (.Name y py) env (.ref D)) _ _ _
        refine wpAny_assign_Name (wpAny_storeName_local hy F₂.ns (fun h₃ hn₃ hs₃ => ?_) hp)
        have hL₀ : h₀.get? env.locals = none := Heap.get?_none_of_le F₂.above
        have F₃ : Fr h₀ env.locals h₃ (fun z => if z = y then some (.ref D) else m z) := ⟨hn₃, fun b o e => hs₃.extBut b o (fun q => by rw [q, hL₀] at e; cases e) (F₂.keep b o e), F₂.above⟩
        refine ⟨mC, hoC.ns (hs₃.extBut _ _ nC (N₂ _ (.head _)).1), fun h'' hs'' => done ys news' D h'' _ I' (F₃.change hs'' nC zC₀) fun p hp => ?_⟩
        have z := N₂ p (.tail _ (.tail _ hp))
        have z3 : h₃.get? p.1 = some p.2 := hs₃.extBut _ _ z.2.1 z.1
        refine ⟨hs''.extBut _ _ ?_ z3, z.2⟩
        rcases List.mem_cons.mp hp with rfl | hp
        · exact nDC
        · exact (off' p hp).2.1
    · exact nw_cons heC4 nC zC₀ (nw_cons hlK nK zK₀ (nw_cons hlD nD zD₀ N4))
  exact codeAny_compStart_list (loop _ rfl) (W.self 0 _ _ _ hst0 (loop _ rfl))
end
end Mine
end

section
open PySem PySem.W PyProof.Rows PySem.Calls PyProof.V PySem.Spec
set_option maxRecDepth 100000
set_option linter.unusedVariables false
namespace Mine
theorem part36 : True := by
  k_with_none
  w_top off
  exact True.intro



noncomputable def lawB13 : List Stmt := by
  have h : q17B.drop 13 = ?x := by
    conv => lhs; whnf
  exact ?x

set_option maxHeartbeats 1000000 in
theorem law_5 (w : World) (mean : ExcName → Option Value) (mg mb : Str → Option Value) (h₀ : Heap) (L : Addr) (s : Shared) (fa : Addr) (ccd : Value) (A : LawAt w mean mg mb h₀ L) (news : Led) (x0 x1 x2 : List Int) (TT : Int) (m0 : Str → Option Value) (rA rW : Addr)
    (g0 : 1 ≤ x0.length ∧ x0.length ≤ 12) (g1 : 1 ≤ x1.length ∧ x1.length ≤ 12) (g2 : 1 ≤ x2.length ∧ x2.length ≤ 12)
    (rw ra rb rc : Addr) (kw ka kb kc : Nat) (va vb vc : List Value) (tt : Tok) (o2 o4 o7 : Obj)
    (F : Fr h₀ L s.heap (kstB m0 [(Str.ofString "apart", .ref rA), (Str.ofString "whole", .ref rW)]))
    (N : News h₀ L s.heap ((rw, W.listOf #[.ref ra, .ref rb, .ref rc] kw) :: (ra, W.listOf (List.toArray va) ka) :: (rb, W.listOf (List.toArray vb) kb) :: (rc, W.listOf (List.toArray vc) kc) :: (L + 1 + 1 + 1 + 1, o4) :: (L + 1, o7) :: (L + 1 + 1 + 1 + 1 + 1 + 1, o2) :: news))
    (d2 : o2.data = .cell none) (d4 : o4.data = .cell (some (.ref rw))) (d7 : o7.data = .cell (some (.int TT tt))) (hoff : ∀ p ∈ news, p.1 ≠ L + 1 + 1 + 1 + 1 + 1 + 1)
    (ia : IntsAre va x0) (ib : IntsAre vb x1) (ic : IntsAre vc x2)
    (Q : Flow → Shared → Prop) (E : Value → Shared → Prop)
    (next : ∀ h' tk te (o2 : Obj) (m0 : Str → Option Value), Fr h₀ L h' (kstB m0 [(Str.ofString "apart", .ref rA), (Str.ofString "whole", .ref rW)]) →
      News h₀ L h' ((L + 1 + 1 + 1 + 1 + 1 + 1, o2) :: (rw, W.listOf #[.ref ra, .ref rb, .ref rc] kw) :: (ra, W.listOf (List.toArray va) ka) :: (rb, W.listOf (List.toArray vb) kb) :: (rc, W.listOf (List.toArray vc) kc) :: (L + 1 + 1 + 1 + 1, o4) :: (L + 1, o7) :: news) →
      o2.data = .cell (some (.int ((x0.length + x1.length + x2.length + (TT.fmod 3).toNat : Nat) : Int) te)) →
      wpAny (model pw w) (lawA L fa ccd) (execs lawB13 (lawEnv L fa ccd)) Q E { s with heap := h', toks := tk }) :
    wpAny (model pw w) (lawA L fa ccd) (execs lawB12 (lawEnv L fa ccd)) Q E s := by
  obtain ⟨KT, X, T, B, hL⟩ := A
  dsimp only [kstB] at F
  k_with_none
  k_with "my CompEnd" => (k_dflt (refine' comp_end0 ?zF ?zN ?zo ?zs ?_; (case zF => k_asm); (case zN => k_asm); (case zo => assumption); (case zs => lcg_src)))
  k_with "my k_updF" => (refine' UpdF.tail ?a ?b; (case a => (dsimp only; exact News.ne_cell (by assumption) (by k_mem) (by k_mem) (by assumption) (by intro v h; cases h))); (case b => k_updF))
  k_with "my k_all" => first | (with_reducible assumption) | (refine' List.forall_mem_cons.mpr ⟨?a, ?b⟩; (case a => first | k_ne | (dsimp only; exact News.ne_cell (by assumption) (by k_mem) (by k_mem) (by assumption) (by intro v h; cases h))); (case b => k_all))
  (repeat' ((fail_if_success (with_reducible show wpAny _ _ (execs (Stmt.Assign [Expr.Name (PySem.Str.ofString "rows") _] _ _ :: _) _) _ _ _)); (first | (k_unfold; (try dsimp only)) | walk1 | (dsimp only; walk1))))
  rename Fr _ _ _ _ => fE
  rename News _ _ _ _ => nE
  have hT := fm_bd TT (k := 3) (by decide)
  have eE : ((x0.length : Int) + ((x1.length : Int) + ((x2.length : Int) + 0)) + TT.fmod 3) = ((x0.length + x1.length + x2.length + (TT.fmod 3).toNat : Nat) : Int) := by omega
  rename (Obj.data _ = Data.cell (some (Value.int (_ + _) _))) => dE
  rw [eE] at dE
  exact next _ _ _ _ _ (seg_fr fE (by kst_all)) (cb_drop nE (by kcj_all)) dE
end Mine
end

section
open PySem PySem.W PyProof.Rows PySem.Calls PyProof.V PySem.Spec
set_option maxRecDepth 100000
set_option linter.unusedVariables false
namespace Mine
theorem part37 : True := by
  k_with_none
  w_top off
  exact True.intro



noncomputable def lawB14 : List Stmt := by
  have h : q17B.drop 14 = ?x := by
    conv => lhs; whnf
  exact ?x

theorem datAll_snoc {l : Led} : ∀ {xs : List Value} {ds : List Dat} {y : Value} {d : Dat}, DatAll l xs ds → DatIn l y d → DatAll l (xs ++ [y]) (ds ++ [d])
  | _, _, _, _, .nil, h => .cons h .nil
  | _, _, _, _, .cons a r, h => .cons a (datAll_snoc r h)
theorem rangeKs_snoc (a : Int) (n : Nat) : rangeKs a (n + 1) = rangeKs a n ++ [a + (n : Int)] := by
  simp [rangeKs, List.range_succ]
theorem small_range : ∀ e < 41, Builtin.Range.small 1 (((e : Nat) : Int) + 2) 1 = true := by decide
theorem size_range (e : Nat) : Builtin.Range.rangeSize 1 ((e : Int) + 2) 1 = ((e + 1 : Nat) : Int) := by
  unfold Builtin.Range.rangeSize
  split <;> simp <;> omega
theorem off4_cons {I C K D : Addr} {p : Addr × Obj} {l : Led} (h : (@Ne Nat p.1 I ∧ @Ne Nat p.1 C ∧ @Ne Nat p.1 K ∧ @Ne Nat p.1 D)) (r : Off4 I C K D l) : Off4 I C K D (p :: l) := fun q hq => by
  rcases List.mem_cons.1 hq with rfl | hq
  · exact h
  · exact r q hq
noncomputable def NoCell (l : Led) : Prop := ∀ p ∈ l, ∀ v, p.2.data ≠ .cell v
theorem cellEnd_of {h₀ h' : Heap} {L I C K D : Addr} {m : Str → Option Value} {s₁ : Shared} {oI oC oK oD : Obj} {rest : Value → Led → Prop} {y : Value} {tk : Nat} {x z b1 b2 b3 b4 b5 b6 b7 b8 b9 b10 : Addr × Obj} {tl : Led} (F : Fr h₀ L h' m)
    (N : News h₀ L h' (x :: z :: (I, oI) :: (C, oC) :: (K, oK) :: (D, oD) :: b1 :: b2 :: b3 :: b4 :: b5 :: b6 :: b7 :: b8 :: b9 :: b10 :: tl)) (n1 : @LT.lt Nat _ I x.1) (n2 : @LT.lt Nat _ C x.1) (n3 : @LT.lt Nat _ K x.1) (n4 : @LT.lt Nat _ D x.1) (off : Off4 I C K D (b1 :: b2 :: b3 :: b4 :: b5 :: b6 :: b7 :: b8 :: b9 :: b10 :: tl))
    (r : rest y (b1 :: b2 :: b3 :: b4 :: b5 :: b6 :: b7 :: b8 :: b9 :: b10 :: x :: tl)) : CellEnd h₀ L m s₁ I oI C oC K oK D oD rest y { s₁ with heap := h', toks := tk } := by
  have sub : ∀ p ∈ b1 :: b2 :: b3 :: b4 :: b5 :: b6 :: b7 :: b8 :: b9 :: b10 :: x :: tl, p = x ∨ p ∈ b1 :: b2 :: b3 :: b4 :: b5 :: b6 :: b7 :: b8 :: b9 :: b10 :: tl := fun p hp => by
    simp only [List.mem_cons] at hp ⊢
    rcases hp with h | h | h | h | h | h | h | h | h | h | h | h <;> simp only [h, true_or, or_true]
  have sub2 : ∀ p ∈ b1 :: b2 :: b3 :: b4 :: b5 :: b6 :: b7 :: b8 :: b9 :: b10 :: tl, p ∈ x :: z :: (I, oI) :: (C, oC) :: (K, oK) :: (D, oD) :: b1 :: b2 :: b3 :: b4 :: b5 :: b6 :: b7 :: b8 :: b9 :: b10 :: tl := fun p hp => .tail _ (.tail _ (.tail _ (.tail _ (.tail _ (.tail _ hp)))))
  refine ⟨h', tk, b1 :: b2 :: b3 :: b4 :: b5 :: b6 :: b7 :: b8 :: b9 :: b10 :: x :: tl, rfl, F, fun p hp => ?_, fun p hp => ?_, r⟩
  · rcases List.mem_cons.1 hp with rfl | hp
    · exact N _ (.tail _ (.tail _ (.head _)))
    · rcases List.mem_cons.1 hp with rfl | hp
      · exact N _ (.tail _ (.tail _ (.tail _ (.head _))))
      · rcases List.mem_cons.1 hp with rfl | hp
        · exact N _ (.tail _ (.tail _ (.tail _ (.tail _ (.head _)))))
        · rcases List.mem_cons.1 hp with rfl | hp
          · exact N _ (.tail _ (.tail _ (.tail _ (.tail _ (.tail _ (.head _))))))
          · rcases sub p hp with rfl | hp
            · exact N _ (.head _)
            · exact N _ (sub2 p hp)
  · rcases sub p hp with rfl | hp
    · exact ⟨Nat.ne_of_gt n1, Nat.ne_of_gt n2, Nat.ne_of_gt n3, Nat.ne_of_gt n4⟩
    · exact off p hp
/-- a row of the law's own table -/
noncomputable def rowD (l0 l1 l2 t e : Int) (size : Int) : Dat := .tuple [.int size, .int (t + size * ((l0 + size - 1).fdiv size + ((l1 + size - 1).fdiv size + ((l2 + size - 1).fdiv size + 0)))), .int e]
set_option maxHeartbeats 1000000 in
theorem law_6 (w : World) (mean : ExcName → Option Value) (mg mb : Str → Option Value) (h₀ : Heap) (L : Addr) (s : Shared) (fa : Addr) (ccd : Value) (A : LawAt w mean mg mb h₀ L) (news : Led) (x0 x1 x2 : List Int) (TT : Int) (e : Nat) (he : 1 ≤ e ∧ e ≤ 40) (m0 : Str → Option Value) (rA rW : Addr)
    (g0 : 1 ≤ x0.length ∧ x0.length ≤ 12) (g1 : 1 ≤ x1.length ∧ x1.length ≤ 12) (g2 : 1 ≤ x2.length ∧ x2.length ≤ 12)
    (rw ra rb rc : Addr) (kw ka kb kc : Nat) (va vb vc : List Value) (rl : Addr) (vl : List Value) (kl : Nat) (tt te : Tok) (o1 o2 o3 o4 o7 : Obj)
    (F : Fr h₀ L s.heap (kstB m0 [(Str.ofString "apart", .ref rA), (Str.ofString "whole", .ref rW)]))
    (N : News h₀ L s.heap ((L + 1 + 1 + 1 + 1 + 1 + 1, o2) :: (rw, W.listOf #[.ref ra, .ref rb, .ref rc] kw) :: (ra, W.listOf (List.toArray va) ka) :: (rb, W.listOf (List.toArray vb) kb) :: (rc, W.listOf (List.toArray vc) kc) :: (L + 1 + 1 + 1 + 1, o4) :: (L + 1, o7) :: (L + 1 + 1 + 1 + 1 + 1 + 1 + 1, o1) :: (L + 1 + 1 + 1 + 1 + 1, o3) :: (rl, W.listOf (List.toArray vl) kl) :: news))
    (d2 : o2.data = .cell (some (.int (e : Int) te))) (d4 : o4.data = .cell (some (.ref rw))) (d7 : o7.data = .cell (some (.int TT tt)))
    (ia : IntsAre va x0) (ib : IntsAre vb x1) (ic : IntsAre vc x2) (hnc : NoCell news)
    (Q : Flow → Shared → Prop) (E : Value → Shared → Prop)
    (next : ∀ h' tk rR vR kR tl (m0 : Str → Option Value), Fr h₀ L h' (kstB m0 [(Str.ofString "rows", .ref rR), (Str.ofString "apart", .ref rA), (Str.ofString "whole", .ref rW)]) →
      News h₀ L h' ((rR, W.listOf (List.toArray vR) kR) :: (L + 1 + 1 + 1 + 1 + 1 + 1 + 1, o1) :: (L + 1 + 1 + 1 + 1 + 1, o3) :: (rl, W.listOf (List.toArray vl) kl) :: (L + 1 + 1 + 1 + 1 + 1 + 1, o2) :: tl) → (∀ p ∈ news, p ∈ tl) → NoCell tl →
      DatAll tl vR ((rangeKs 1 (e + 1)).map (rowD x0.length x1.length x2.length (TT.fmod 3) e)) →
      wpAny (model pw w) (lawA L fa ccd) (execs lawB14 (lawEnv L fa ccd)) Q E { s with heap := h', toks := tk }) :
    wpAny (model pw w) (lawA L fa ccd) (execs lawB13 (lawEnv L fa ccd)) Q E s := by
  obtain ⟨KT, X, T, B, hL⟩ := A
  dsimp only [kstB] at F
  k_with_none
  k_with "my CompEnd" => (k_dflt (refine' comp_end0 ?zF ?zN ?zo ?zs ?_; (case zF => k_asm); (case zN => k_asm); (case zo => assumption); (case zs => lcg_src)))
  k_with "my k_updF" => (refine' UpdF.tail ?a ?b; (case a => (dsimp only; exact News.ne_cell (by assumption) (by k_mem) (by k_mem) (by assumption) (by intro v h; cases h))); (case b => k_updF))
  k_with "my k_all" => first | (with_reducible assumption) | (refine' List.forall_mem_cons.mpr ⟨?a, ?b⟩; (case a => first | k_ne | (dsimp only; exact News.ne_cell (by assumption) (by k_mem) (by k_mem) (by assumption) (by intro v h; cases h))); (case b => k_all))
  (repeat' ((fail_if_success (with_reducible show wpAny _ _ (exec (Stmt.Assign [Expr.Name (PySem.Str.ofString "rows") _] _ _) _) _ _ _)); (first | (k_unfold; (try dsimp only)) | (walk1 <;> (try dsimp only)) | (dsimp only; walk1))))
  refine Assign_comp_cell (fun i ys led => ∃ tl, led = (L + 1 + 1 + 1 + 1 + 1 + 1, o2) :: (rw, W.listOf #[.ref ra, .ref rb, .ref rc] kw) :: (ra, W.listOf (List.toArray va) ka) :: (rb, W.listOf (List.toArray vb) kb) :: (rc, W.listOf (List.toArray vc) kc) :: (L + 1 + 1 + 1 + 1, o4) :: (L + 1, o7) :: (L + 1 + 1 + 1 + 1 + 1 + 1 + 1, o1) :: (L + 1 + 1 + 1 + 1 + 1, o3) :: (rl, W.listOf (List.toArray vl) kl) :: tl ∧ (∀ p ∈ news, p ∈ tl) ∧ NoCell tl ∧ DatAll tl ys ((rangeKs 1 i).map (rowD x0.length x1.length x2.length (TT.fmod 3) e))) F (by rfl) (by with_unfolding_all rfl) (by with_unfolding_all rfl) (by rfl) (by decide) (by with_unfolding_all rfl) (fun n => by with_unfolding_all rfl) (fun h => by with_unfolding_all rfl) (by rfl) (by rfl) ?_
  (repeat' ((fail_if_success (with_reducible show ∃ _, _)); (first | (k_unfold; (try dsimp only)) | (walk1 <;> (try dsimp only)) | (dsimp only; walk1))))
  rename IsRange _ _ _ _ _ _ _ _ => hR
  rename Fr _ _ _ _ => fR
  rename News _ _ _ _ => nR
  refine ⟨_, 1, (e : Int) + 2, _, _, _, e + 1, _, rfl, by rfl, fR, nR, hR, small_range e (by omega), size_range e, by rw [sizeLine_eq]; omega, ⟨news, rfl, fun _ h => h, hnc, .nil⟩, ?turn, ?done⟩
  case turn =>
    clear fR nR hR
    intro g i ys led v t C oC K oK D I oI h tk E' hi hI ev hoK F3 N3 off
    obtain ⟨tl, rfl, hsub, hnt, hD⟩ := hI
    subst ev
    (repeat' (first | (k_unfold; (try dsimp only)) | (k_end; wrow_close) | (walk1 <;> (try dsimp only)) | (dsimp only; walk1) | (leave1; (try dsimp only)) | fail "no step"))
    rename Fr _ _ _ _ => fE
    rename News _ _ _ _ => nE
    refine cellEnd_of fE nE (by dsimp only; omega) (by dsimp only; omega) (by dsimp only; omega) (by dsimp only; omega) off ⟨_, rfl, fun p hp => .tail _ (hsub p hp), ?nc, ?dat⟩
    case nc =>
      intro p hp
      rcases List.mem_cons.1 hp with rfl | hp
      · intro v h; cases h
      · exact hnt p hp
    case dat =>
      rw [rangeKs_snoc, List.map_append]
      exact datAll_snoc (hD.mono fun p hp => .tail _ hp) (.tuple (vs := [_, _, _]) (.head _) (.cons (.int _ _) (.cons (.int _ _) (.cons (.int _ _) .nil))))
  case done =>
    intro ys led D h tk hI fD nD
    obtain ⟨tl, rfl, hsub, hnt, hD⟩ := hI
    exact next _ _ _ _ _ _ _ (seg_fr fD (by kst_all)) (cb_drop nD (by kcj_all)) hsub hnt hD
end Mine
end

section
open PySem PySem.W PyProof.Rows PySem.Calls PyProof.V PySem.Spec
set_option maxRecDepth 100000
set_option linter.unusedVariables false
namespace Mine
theorem part38 : True := by
  k_with_none
  w_top off
  exact True.intro



noncomputable def lawB16 : List Stmt := by
  have h : q17B.drop 16 = ?x := by
    conv => lhs; whnf
  exact ?x

theorem fold_filter (p : Int → Prop) [DecidablePred p] (l : List Int) : ∀ acc : List Int, l.foldl (fun l' k' => if p k' then l' ++ [k'] else l') acc = acc ++ l.filter (fun k => decide (p k)) := by
  induction l with
  | nil => intro acc; simp
  | cons k l ih =>
    intro acc
    rw [List.foldl_cons, ih]
    by_cases h : p k
    · simp [h]
    · simp [h]
/-- the divisors of n -/
noncomputable def divs (n : Nat) : List Int := (rangeKs 1 n).filter fun k => decide ((n : Int).fmod k = 0)

set_option maxHeartbeats 1000000 in
theorem law_7 (w : World) (mean : ExcName → Option Value) (mg mb : Str → Option Value) (h₀ : Heap) (L : Addr) (s : Shared) (fa : Addr) (ccd : Value) (A : LawAt w mean mg mb h₀ L) (news : Led) (ls : List Int) (hls : 1 ≤ ls.length ∧ ls.length ≤ 12) (m0 : Str → Option Value) (rR rA rW rl : Addr) (vl : List Value) (kl : Nat) (o1 o2 o3 : Obj)
    (F : Fr h₀ L s.heap (kstB m0 [(Str.ofString "rows", .ref rR), (Str.ofString "apart", .ref rA), (Str.ofString "whole", .ref rW)]))
    (N : News h₀ L s.heap ((L + 1 + 1 + 1 + 1 + 1 + 1 + 1, o1) :: (L + 1 + 1 + 1 + 1 + 1, o3) :: (rl, W.listOf (List.toArray vl) kl) :: (L + 1 + 1 + 1 + 1 + 1 + 1, o2) :: news))
    (d1 : o1.data = .cell none) (d3 : o3.data = .cell (some (.ref rl))) (hoff : ∀ p ∈ news, p.1 ≠ L + 1 + 1 + 1 + 1 + 1 + 1 + 1)
    (il : IntsAre vl ls)
    (Q : Flow → Shared → Prop) (E : Value → Shared → Prop)
    (next : ∀ h' tk rv vv kv (o1 : Obj) (m0 : Str → Option Value), Fr h₀ L h' (kstB m0 [(Str.ofString "rows", .ref rR), (Str.ofString "apart", .ref rA), (Str.ofString "whole", .ref rW)]) →
      News h₀ L h' ((rv, W.listOf (List.toArray vv) kv) :: (L + 1 + 1 + 1 + 1 + 1 + 1 + 1, o1) :: (L + 1 + 1 + 1 + 1 + 1 + 1, o2) :: news) → o1.data = .cell (some (.ref rv)) → IntsAre vv (divs ls.length) →
      wpAny (model pw w) (lawA L fa ccd) (execs lawB15 (lawEnv L fa ccd)) Q E { s with heap := h', toks := tk }) :
    wpAny (model pw w) (lawA L fa ccd) (execs lawB14 (lawEnv L fa ccd)) Q E s := by
  obtain ⟨KT, X, T, B, hL⟩ := A
  dsimp only [kstB] at F
  k_with_none
  k_with "my CompEnd" => (k_dflt (refine' comp_end0 ?zF ?zN ?zo ?zs ?_; (case zF => k_asm); (case zN => k_asm); (case zo => assumption); (case zs => lcg_src)))
  k_with "my k_updF" => (refine' UpdF.tail ?a ?b; (case a => (dsimp only; exact News.ne_cell (by assumption) (by k_mem) (by k_mem) (by assumption) (by intro v h; cases h))); (case b => k_updF))
  k_with "my k_all" => first | (with_reducible assumption) | (refine' List.forall_mem_cons.mpr ⟨?a, ?b⟩; (case a => first | k_ne | (dsimp only; exact News.ne_cell (by assumption) (by k_mem) (by k_mem) (by assumption) (by intro v h; cases h))); (case b => k_all))
  (repeat' ((fail_if_success (with_reducible show wpAny _ _ (execs (Stmt.Assign [Expr.Name (PySem.Str.ofString "named") _] _ _ :: _) _) _ _ _)); (first | (k_unfold; (try dsimp only)) | walk1 | (dsimp only; walk1))))
  rename Fr _ _ _ _ => fE
  rename News _ _ _ _ => nE
  rename (IntsAre _ (List.foldl _ _ _)) => iE
  rw [fold_filter, List.nil_append, show ((ls.length : Int) + 1 - 1).toNat = ls.length by omega] at iE
  exact next _ _ _ _ _ _ _ (seg_fr fE (by kst_all)) (cb_drop nE (by kcj_all)) (by assumption) iE
end Mine
end

section
open PySem PySem.W PyProof.Rows PySem.Calls PyProof.V PySem.Spec
set_option maxRecDepth 100000
set_option linter.unusedVariables false
namespace Mine
theorem part39 : True := by
  k_with_none
  w_top off
  exact True.intro



noncomputable def lawB17x : Nat := 0

section
variable {prog : Program} {w : World} {A : Around} {E : Value → Shared → Prop} {s : Shared} {h₀ : Heap} {L : Addr} {m : Str → Option Value} {env : Env}
theorem compEnd_mono {I C D : Addr} {s₁ s₂ : Shared} {oI oC oD : Obj} {S : Led → Prop} {rest rest' : Value → Led → Prop} {y : Value} (hr : ∀ l, rest y l → rest' y l) (h : LCg.CompEnd h₀ L m s₁ I oI C oC D oD S rest y s₂) :
    LCg.CompEnd h₀ L m s₁ I oI C oC D oD S rest' y s₂ := by
  obtain ⟨h', tk, l, e, F, N, o, hS, r⟩ := h
  exact ⟨h', tk, l, e, F, N, o, hS, hr l r⟩
theorem compRest_ind {elt : PySem.Expr} {x : Str} {scope : Scope} {cl : List (Str × Addr)} {S : Led → Prop} {P : Nat → Value → Prop} {Fin : List Value → Led → Prop} (n : Nat) (Inv : Nat → List Value → Led → Prop)
    (fin : ∀ ys news, Inv n ys news → Fin ys news)
    (step : ∀ i ys news, i < n → Inv i ys news → ∀ v I oI C oC D m₂ h tk (E' : Value → Shared → Prop), P i v → LCg.NsObj oC m₂ → m₂ x = some v → Fr h₀ L h m → News h₀ L h ((I, oI) :: (C, oC) :: (D, LCg.lst ys) :: news) → LCg.Off3 I C D news → ((@Ne Nat I C) ∧ (@Ne Nat I D) ∧ (@Ne Nat C D)) →
      wpAny (model prog w) A (eval elt (compEnvC scope cl C env)) (LCg.CompEnd h₀ L m { s with heap := h, toks := tk } I oI C oC D (LCg.lst ys) S (fun y news' => Inv (i + 1) (ys ++ [y]) news')) E' { s with heap := h, toks := tk }) :
    ∀ k i ys news, i + k = n → Inv i ys news → LCg.CompRest prog w A h₀ L m env elt x scope cl s S P Fin k i ys news
  | 0, i, ys, news, e, h => LCg.CompRest.zero (fin ys news (by have : i = n := by omega
                                                               rw [← this]; exact h))
  | k + 1, i, ys, news, e, h => LCg.CompRest.succ fun v I oI C oC D m₂ hh tk E' hP hC hx F N off ne =>
      wpAny_mono (step i ys news (by omega) h v I oI C oC D m₂ hh tk E' hP hC hx F N off ne) (fun y s' q => compEnd_mono (fun l r => compRest_ind n Inv fin step k (i + 1) (ys ++ [y]) l (by omega) r) q) fun _ _ h => h
end
theorem off3_cons {I C D : Addr} {p : Addr × Obj} {l : Led} (h : (@Ne Nat p.1 I ∧ @Ne Nat p.1 C ∧ @Ne Nat p.1 D)) (r : LCg.Off3 I C D l) : LCg.Off3 I C D (p :: l) := ⟨h, r⟩
/-- a comprehension's turn that makes one tuple: it goes behind the written items -/
theorem tupEnd {h₀ h' : Heap} {L I C D : Addr} {m : Str → Option Value} {s₁ : Shared} {oI oC oD : Obj} {S : Led → Prop} {rest : Value → Led → Prop} {y : Value} {tk : Nat} {x b1 b2 : Addr × Obj} {tl : Led}
    (F : Fr h₀ L h' m) (N : News h₀ L h' (x :: (I, oI) :: (C, oC) :: (D, oD) :: b1 :: b2 :: tl)) (n1 : @LT.lt Nat _ I x.1) (n2 : @LT.lt Nat _ C x.1) (n4 : @LT.lt Nat _ D x.1) (off : LCg.Off3 I C D (b1 :: b2 :: tl))
    (hS : S (b1 :: b2 :: x :: tl)) (r : rest y (b1 :: b2 :: x :: tl)) : LCg.CompEnd h₀ L m s₁ I oI C oC D oD S rest y { s₁ with heap := h', toks := tk } := by
  refine LCg.CompEnd.intro F N (b1 :: b2 :: x :: tl) (fun p hp => ?_) ?_ hS r
  · simp only [List.mem_cons] at hp ⊢
    rcases hp with h | h | h | h | h | h | h <;> simp only [h, true_or, or_true]
  · obtain ⟨o1, o2, o3⟩ := off
    exact ⟨o1, o2, ⟨Nat.ne_of_gt n1, Nat.ne_of_gt n2, Nat.ne_of_gt n4⟩, o3⟩
theorem ints_get {vs : List Value} {ks : List Int} (h : IntsAre vs ks) {i : Nat} {v : Value} (e : vs[i]? = some v) : ∃ k t, v = .int k t ∧ ks[i]? = some k := by
  obtain ⟨k, t, a, b⟩ := IntsAre.at h i v e
  exact ⟨k, t, a, b⟩
noncomputable def expD (e : Int) (s : Int) : Dat := .tuple [.int s, .int e, .int e]
set_option maxHeartbeats 1000000 in
theorem law_8 (w : World) (mean : ExcName → Option Value) (mg mb : Str → Option Value) (h₀ : Heap) (L : Addr) (s : Shared) (fa : Addr) (ccd : Value) (A : LawAt w mean mg mb h₀ L) (news : Led) (ds : List Int) (hds : ds.length ≤ 64) (e : Nat) (m0 : Str → Option Value) (rR rv : Addr) (vv : List Value) (kv : Nat) (te : Tok) (o1 o2 : Obj)
    (aA aW : WsA) (cA cW : List Int) (hwA : ∀ p ∈ wsLed w aA, p ∈ news) (hwW : ∀ p ∈ wsLed w aW, p ∈ news) (iA : IntsAre aA.vs cA) (iW : IntsAre aW.vs cW) (zA : cA.length ≤ 64) (zW : cW.length ≤ 64)
    (lA : 0 ≤ lon aA.b cA ∧ lon aA.b cA ≤ 60) (lW : 0 ≤ lon aW.b cW ∧ lon aW.b cW ≤ 60)
    (hEq : witL (fun ts => decide (ilv aW.b aW.nt cW ts ≥ ilv aA.b aA.nt cA ts)) (ilv aW.b aW.nt cW) (ilv aA.b aA.nt cA) (rangeKs 1 (wtop aW.b cW aA.b cA).toNat) = ds.map (expD e))
    (F : Fr h₀ L s.heap (kstB m0 [(Str.ofString "rows", .ref rR), (Str.ofString "apart", .ref aA.r), (Str.ofString "whole", .ref aW.r)]))
    (N : News h₀ L s.heap ((rv, W.listOf (List.toArray vv) kv) :: (L + 1 + 1 + 1 + 1 + 1 + 1 + 1, o1) :: (L + 1 + 1 + 1 + 1 + 1 + 1, o2) :: news))
    (d1 : o1.data = .cell (some (.ref rv))) (d2 : o2.data = .cell (some (.int (e : Int) te)))
    (iv : IntsAre vv ds)
    (Q : Flow → Shared → Prop) (E : Value → Shared → Prop)
    (next : ∀ h' tk rn vn kn tl (m0 : Str → Option Value), Fr h₀ L h' (kstB m0 [(Str.ofString "named", .ref rn), (Str.ofString "rows", .ref rR), (Str.ofString "apart", .ref aA.r), (Str.ofString "whole", .ref aW.r)]) →
      News h₀ L h' ((rn, W.listOf (List.toArray vn) kn) :: (rv, W.listOf (List.toArray vv) kv) :: (L + 1 + 1 + 1 + 1 + 1 + 1 + 1, o1) :: tl) → (∀ p ∈ news, p ∈ tl) → DatAll tl vn (ds.map (expD e)) →
      wpAny (model pw w) (lawA L fa ccd) (execs lawB17 (lawEnv L fa ccd)) Q E { s with heap := h', toks := tk }) :
    wpAny (model pw w) (lawA L fa ccd) (execs lawB15 (lawEnv L fa ccd)) Q E s := by
  obtain ⟨KT, X, T, B, hL⟩ := A
  obtain ⟨r, d, q, p, x, tx, n, tn, nt, tnt, b1, tb, vs, sm, k1, k2, k3, k4, k5⟩ := aA
  obtain ⟨r', d', q', p', x', tx', n', tn', nt', tnt', b2, tb', vs', sm', k1', k2', k3', k4', k5'⟩ := aW
  have N1 := News.dups N (fun p hp => .tail _ (.tail _ (.tail _ (hwA p hp))))
  have N2 := News.dups N1 (l := wsLed w ⟨r', d', q', p', x', tx', n', tn', nt', tnt', b2, tb', vs', sm', k1', k2', k3', k4', k5'⟩) (fun p hp => List.mem_append_right _ (.tail _ (.tail _ (.tail _ (hwW p hp)))))
  clear N N1
  dsimp only [wsLed, wsEs, List.cons_append, List.nil_append] at N2
  dsimp only [kstB] at F
  k_with_none
  k_with "my CompEnd" => (k_dflt (refine' comp_end0 ?zF ?zN ?zo ?zs ?_; (case zF => k_asm); (case zN => k_asm); (case zo => assumption); (case zs => lcg_src)))
  k_with "my k_updF" => (refine' UpdF.tail ?a ?b; (case a => (dsimp only; exact News.ne_cell (by assumption) (by k_mem) (by k_mem) (by assumption) (by intro v h; cases h))); (case b => k_updF))
  k_with "my k_all" => first | (with_reducible assumption) | (refine' List.forall_mem_cons.mpr ⟨?a, ?b⟩; (case a => first | k_ne | (dsimp only; exact News.ne_cell (by assumption) (by k_mem) (by k_mem) (by assumption) (by intro v h; cases h))); (case b => k_all))
  (repeat' ((fail_if_success (with_reducible show wpAny _ _ (call (Value.ref 144) _) _ _ _)); (first | (k_unfold; (try dsimp only)) | walk1 | (dsimp only; walk1))))
  rename Fr _ _ _ _ => fE
  rename News _ _ _ _ => nE
  have nE2 := cb_drop (news := (rv, W.listOf (List.toArray vv) kv) :: (L + 1 + 1 + 1 + 1 + 1 + 1 + 1, o1) :: (L + 1 + 1 + 1 + 1 + 1 + 1, o2) :: news) nE (fun p hp => .tail _ (.tail _ (.tail _ (.tail _ (.tail _ (.tail _ (.tail _ (.tail _ hp))))))))
  clear nE
  refine Spec.use B KT fE X nE2 T (by rfl) (spec_notless w mean mg mb _ ⟨r', d', q', p', x', tx', n', tn', nt', tnt', b2, tb', vs', sm', k1', k2', k3', k4', k5'⟩ ⟨r, d, q, p, x, tx, n, tn, nt, tnt, b1, tb, vs, sm, k1, k2, k3, k4, k5⟩ cW cA (fun z hz => .tail _ (.tail _ (.tail _ (hwW z hz)))) iW zW (fun z hz => .tail _ (.tail _ (.tail _ (hwA z hz)))) iA zA lW lA) (by decide) (by decide) ?_
  intro v9 new9 h9 tk9 F9 N9 R9
  obtain ⟨rn, vn, kn, tln, e91, e92, D9⟩ := R9
  subst e91; subst e92
  rw [hEq] at D9
  have N10 : News h₀ L h9 ((rn, W.listOf vn.toArray kn) :: (rv, W.listOf (List.toArray vv) kv) :: (L + 1 + 1 + 1 + 1 + 1 + 1 + 1, o1) :: (L + 1 + 1 + 1 + 1 + 1 + 1, o2) :: (tln ++ news)) := cb_drop N9 (fun p hp => by
    simp only [List.mem_cons, List.mem_append] at hp ⊢
    rcases hp with h | h | h | h | h | h <;> simp only [h, true_or, or_true])
  have s1 : ∀ p ∈ tln, p ∈ tln ++ news := fun p hp => List.mem_append_left _ hp
  have s2 : ∀ p ∈ news, p ∈ tln ++ news := fun p hp => List.mem_append_right _ hp
  generalize tln ++ news = nw at N10 s1 s2
  clear N9 nE2 fE
  (repeat' ((fail_if_success (with_reducible show wpAny _ _ (eval (Expr.ListComp _ _ _ _) _) _ _ _)); (first | (k_unfold; (try dsimp only)) | walk1 | (dsimp only; walk1))))
  rename Fr _ _ _ _ => fE
  rename News _ _ _ _ => nE
  have nE3 := cb_drop (news := (rv, W.listOf (List.toArray vv) kv) :: (L + 1 + 1 + 1 + 1 + 1 + 1, o2) :: (rn, W.listOf vn.toArray kn) :: (L + 1 + 1 + 1 + 1 + 1 + 1 + 1, o1) :: nw) nE (by kcj_all)
  have tl0 : ∀ p ∈ nw, p ∈ (rn, W.listOf vn.toArray kn) :: (L + 1 + 1 + 1 + 1 + 1 + 1 + 1, o1) :: nw := fun p hp => .tail _ (.tail _ hp)
  refine LCg.ListComp_U (F₀ := fE) (by with_unfolding_all rfl) (by decide) (by rfl) (by decide) (by rfl) ?_
  clear nE
  (repeat' ((fail_if_success (with_reducible show LCg.CompSrc _ _ _ _ _ _ _ _ _ _ _ _ _ _)); (first | (k_unfold; (try dsimp only)) | walk1 | (dsimp only; walk1))))
  refine LCg.CompSrc.ledger (by rfl) fE nE3 (.head _) (by rw [List.size_toArray, iv.length, sizeLine_eq]; omega) ?_
  intro g
  refine compRest_ind vv.toArray.size (fun i ys led => ∃ tl, led = (rv, W.listOf (List.toArray vv) kv) :: (L + 1 + 1 + 1 + 1 + 1 + 1, o2) :: tl ∧ (∀ p ∈ (rn, W.listOf vn.toArray kn) :: (L + 1 + 1 + 1 + 1 + 1 + 1 + 1, o1) :: nw, p ∈ tl) ∧ DatAll tl ys ((ds.take i).map (expD e))) ?fin ?step _ 0 [] _ (Nat.zero_add _) ⟨_, rfl, fun _ h => h, .nil⟩
  case step =>
    clear fE nE3
    intro i ys led hi hI v I oI C oC D m₂ h tk E' hP hC hx F3 N3 off ne
    obtain ⟨tl, rfl, hsub, hD⟩ := hI
    obtain ⟨kk, tt9, rfl, hk⟩ := ints_get iv (i := i) (by simpa using hP)
    k_steps
    rename Fr _ _ _ _ => fE
    rename News _ _ _ _ => nE
    refine tupEnd fE nE (by dsimp only; omega) (by dsimp only; omega) (by dsimp only; omega) off (.inr ⟨_, .head _, rfl, _, rfl⟩) ⟨_, rfl, fun p hp => .tail _ (hsub p hp), ?_⟩
    rw [List.take_add_one, hk, List.map_append]
    exact datAll_snoc (hD.mono fun p hp => .tail _ hp) (.tuple (vs := [_, _, _]) (.head _) (.cons (.int _ _) (.cons (.int _ _) (.cons (.int _ _) .nil))))
  case fin =>
    rintro ys led ⟨tl, rfl, hsub, hD⟩
    unfold LCg.FinE
    intro D h tk F3 N3 o1
    clear fE nE3
    rw [List.size_toArray, iv.length, List.take_length] at hD
    have D10 : DatAll tl vn (ds.map (expD e)) := D9.mono fun p hp => hsub p (tl0 p (s1 p hp))
    refine ne_same N3 (.tail _ (.tail _ (.tail _ (hsub _ (.head _))))) (.head _) (D10.mono fun p hp => .tail _ (.tail _ (.tail _ hp))) (hD.mono fun p hp => .tail _ (.tail _ (.tail _ hp))) ?_ (by ke_room) ?_
    · intro d hd
      obtain ⟨k, _, rfl⟩ := List.mem_map.1 hd
      rfl
    (repeat' ((fail_if_success (with_reducible show wpAny _ _ (execs (Stmt.Assign [Expr.Name (PySem.Str.ofString "names") _] _ _ :: _) _) _ _ _)); (first | (k_unfold; (try dsimp only)) | walk1 | (dsimp only; walk1))))
    refine next _ _ rn vn kn tl _ (seg_fr F3 (by kst_all)) (fun p hp => N3 p ?_) (fun p hp => hsub p (tl0 p (s2 p hp))) D10
    rcases List.mem_cons.1 hp with rfl | hp
    · exact .tail _ (.tail _ (.tail _ (hsub _ (.head _))))
    · rcases List.mem_cons.1 hp with rfl | hp
      · exact .tail _ (.head _)
      · rcases List.mem_cons.1 hp with rfl | hp
        · exact .tail _ (.tail _ (.tail _ (hsub _ (.tail _ (.head _)))))
        · exact .tail _ (.tail _ (.tail _ hp))
end Mine
end

section
open PySem PySem.W PyProof.Rows PySem.Calls PyProof.V PySem.Spec
set_option maxRecDepth 100000
set_option linter.unusedVariables false
namespace Mine
theorem part40 : True := by
  k_with_none
  w_top off
  exact True.intro




theorem ne_153 {h₀ h : Heap} {L : Addr} {led : Led} {p : Addr × Obj} (N : News h₀ L h led) (ht : (153, tabObj #[]) ∈ led) (hp : p ∈ led) (hd : p.2.data ≠ .fields #[]) : p.1 ≠ 153 := fun e => by
  have q1 := (N _ ht).1
  have q2 := (N _ hp).1
  dsimp only at q1
  rw [e, q1] at q2
  exact hd (by rw [← Option.some.inj q2])
noncomputable abbrev numT (k : Int) : Str := Str.ofString (toString k)
theorem carried_snoc : ∀ {xs : List Value} {ds : List PyData} {y : Value} {d : PyData}, CarriedAll xs ds → Carried y d → CarriedAll (xs ++ [y]) (ds ++ [d])
  | _, _, _, _, .nil, h => .cons h .nil
  | _, _, _, _, .cons a r, h => .cons a (carried_snoc r h)

set_option maxHeartbeats 1000000 in
theorem law_9 (w : World) (mean : ExcName → Option Value) (mg mb : Str → Option Value) (h₀ : Heap) (L : Addr) (s : Shared) (fa : Addr) (ccd : Value) (A : LawAt w mean mg mb h₀ L) (news : Led) (ds : List Int) (hds : ds.length ≤ 64) (hks : ∀ s ∈ ds, 0 ≤ s ∧ s ≤ 64) (hne : 1 ≤ ds.length) (e : Nat) (m0 : Str → Option Value) (rn rR rA rW rv : Addr) (vv vn : List Value) (kv kn : Nat) (o1 : Obj)
    (F : Fr h₀ L s.heap (kstB m0 [(Str.ofString "named", .ref rn), (Str.ofString "rows", .ref rR), (Str.ofString "apart", .ref rA), (Str.ofString "whole", .ref rW)]))
    (N : News h₀ L s.heap ((153, tabObj #[]) :: (rn, W.listOf (List.toArray vn) kn) :: (rv, W.listOf (List.toArray vv) kv) :: (L + 1 + 1 + 1 + 1 + 1 + 1 + 1, o1) :: news))
    (d1 : o1.data = .cell (some (.ref rv))) (h153 : ∀ p ∈ news, p.1 ≠ 153) (hg : s.gens = #[])
    (iv : IntsAre vv ds) (hD : DatAll news vn (ds.map (expD e)))
    (Q : Flow → Shared → Prop) (E : Value → Shared → Prop)
    (next : ∀ (s' : Shared) (ps : Array Value) (m0 : Str → Option Value), Fr h₀ L s'.heap (kstB m0 [(Str.ofString "rows", .ref rR), (Str.ofString "apart", .ref rA), (Str.ofString "whole", .ref rW)]) →
      News h₀ L s'.heap ((153, tabObj ps) :: (rv, W.listOf (List.toArray vv) kv) :: (L + 1 + 1 + 1 + 1 + 1 + 1 + 1, o1) :: news) → AllBare s'.gens → s'.os = s.os →
      wpAny (model pw w) (lawA L fa ccd) (execs lawB19 (lawEnv L fa ccd)) Q E s') :
    wpAny (model pw w) (lawA L fa ccd) (execs lawB17 (lawEnv L fa ccd)) Q E s := by
  obtain ⟨KT, X, T, B, hL⟩ := A
  dsimp only [kstB] at F
  k_with_none
  k_with "my CompEnd" => (k_dflt (refine' comp_end0 ?zF ?zN ?zo ?zs ?_; (case zF => k_asm); (case zN => k_asm); (case zo => assumption); (case zs => lcg_src)))
  k_with "my k_updF" => (refine' UpdF.tail ?a ?b; (case a => (dsimp only; exact News.ne_cell (by assumption) (by k_mem) (by k_mem) (by assumption) (by intro v h; cases h))); (case b => k_updF))
  k_with "my k_all" => first | (with_reducible assumption) | (refine' List.forall_mem_cons.mpr ⟨?a, ?b⟩; (case a => first | k_ne | (dsimp only; exact News.ne_cell (by assumption) (by k_mem) (by k_mem) (by assumption) (by intro v h; cases h))); (case b => k_all))
  (repeat' ((fail_if_success (with_reducible show wpAny _ _ (eval (Expr.ListComp _ _ _ _) _) _ _ _)); (first | (k_unfold; (try dsimp only)) | walk1 | (dsimp only; walk1))))
  refine LCg.ListComp_U (F₀ := F) (by with_unfolding_all rfl) (by decide) (by rfl) (by decide) (by rfl) ?_
  (repeat' ((fail_if_success (with_reducible show LCg.CompSrc _ _ _ _ _ _ _ _ _ _ _ _ _ _)); (first | (k_unfold; (try dsimp only)) | walk1 | (dsimp only; walk1))))
  refine LCg.CompSrc.ledger (by rfl) F N (.tail _ (.tail _ (.head _))) (by rw [List.size_toArray, iv.length, sizeLine_eq]; omega) ?_
  intro g
  refine compRest_ind vv.toArray.size (fun i ys led => led = (153, tabObj #[]) :: (rn, W.listOf (List.toArray vn) kn) :: (rv, W.listOf (List.toArray vv) kv) :: (L + 1 + 1 + 1 + 1 + 1 + 1 + 1, o1) :: news ∧ CarriedAll ys ((ds.take i).map fun k => PyData.str (numT k))) ?fin ?step _ 0 [] _ (Nat.zero_add _) ⟨rfl, .nil⟩
  case step =>
    clear F N
    intro i ys led hi hI v I oI C oC D m₂ h tk E' hP hC hx F3 N3 off ne
    obtain ⟨rfl, hCy⟩ := hI
    obtain ⟨kk, tt9, rfl, hk⟩ := ints_get iv (i := i) (by simpa using hP)
    have hkb := hks kk (List.mem_of_getElem? hk)
    k_steps
    rw [List.take_add_one, hk, List.map_append]
    exact carried_snoc hCy (.str _ _)
  case fin =>
    rintro ys led ⟨rfl, hCy⟩
    unfold LCg.FinE
    intro D h tk F3 N3 oo1
    clear F N
    rw [List.size_toArray, iv.length, List.take_length] at hCy
    (repeat' ((fail_if_success (with_reducible show wpAny _ _ (call (Value.builtin "str.join") _) _ _ _)); (first | (k_unfold; (try dsimp only)) | walk1 | (dsimp only; walk1))))
    refine PySem.W.KT.join_B 2 (News.isList N3 (.head _)) hCy (fun a ha => num_txtI (hks a ha).1 (hks a ha).2) (by omega) (by decide) ?_
    intro tj kj
    have hJ := nums_join hks hds
    (repeat' ((fail_if_success (with_reducible show wpAny _ _ (call (Value.ref 158) _) _ _ _)); (first | (k_unfold; (try dsimp only)) | walk1 | (dsimp only; walk1))))
    rename Fr _ _ _ _ => fE
    rename News _ _ _ _ => nE
    have hno : ∀ p ∈ (rn, W.listOf (List.toArray vn) kn) :: (rv, W.listOf (List.toArray vv) kv) :: (L + 1 + 1 + 1 + 1 + 1 + 1 + 1, o1) :: news, p.1 ≠ 153 := by
      refine List.forall_mem_cons.2 ⟨ne_153 nE (.tail _ (.head _)) (.tail _ (.tail _ (.head _))) (by intro h; cases h), List.forall_mem_cons.2 ⟨ne_153 nE (.tail _ (.head _)) (.tail _ (.tail _ (.tail _ (.head _)))) (by intro h; cases h), List.forall_mem_cons.2 ⟨?_, h153⟩⟩⟩
      exact ne_153 nE (.tail _ (.head _)) (.tail _ (.tail _ (.tail _ (.tail _ (.head _))))) (by dsimp only; rw [d1]; intro h; cases h)
    have nE2 := cb_drop (news := (153, tabObj #[]) :: (rn, W.listOf (List.toArray vn) kn) :: (rv, W.listOf (List.toArray vv) kv) :: (L + 1 + 1 + 1 + 1 + 1 + 1 + 1, o1) :: news) nE (fun p hp => .tail _ hp)
    refine' spec_fmt w mean mg mb ((rn, W.listOf (List.toArray vn) kn) :: (rv, W.listOf (List.toArray vv) kv) :: (L + 1 + 1 + 1 + 1 + 1 + 1 + 1, o1) :: news) rn vn kn news ds e ?hm hD hks hds hno _ _ _ _ _ _ _ _ _ _ _ _ _ _ _ _ _ B fE X nE2 T rfl (by decide) (by decide) hg ?_
    case hm =>
      intro p hp
      rcases List.mem_cons.1 hp with rfl | hp
      · exact .head _
      · exact .tail _ (.tail _ (.tail _ hp))
    clear nE nE2 fE
    intro s' t' ps' F' N' G' os'
    have ej : List.map numT ds = ds.map fun s : Int => Str.ofString (toString s) := rfl
    rw [ej] at F'
    have hJ2 := hJ.2
    clear hJ
    generalize Txt.join (Str.ofString ", ") (ds.map fun s : Int => Str.ofString (toString s)) = xj at *
    have e1 : (Str.ofString "at tab size" ++ Str.ofString " " : Str) = Str.ofString "at tab size " := by decide +kernel
    have e2 : (Str.ofString "at tab sizes" ++ Str.ofString " " : Str) = Str.ofString "at tab sizes " := by decide +kernel
    by_cases h1 : ds.length = 1
    · rw [if_neg (by omega), e1]
      clear e1 e2
      (repeat' ((fail_if_success (with_reducible show wpAny _ _ (execs (Stmt.If (PySem.Expr.Compare (PySem.Expr.Call (PySem.Expr.Attribute _ _ _) _ _ _) _ _ _) _ _ _ :: _) _) _ _ _)); (first | (k_unfold; (try dsimp only)) | walk1 | (dsimp only; walk1))))
      all_goals first
        | (exfalso; omega)
        | (exfalso; simp only [bne_self_eq_false, Bool.false_eq_true] at *; done)
        | skip
      exact next ⟨s'.heap, s'.gens, s'.drawn, _, s'.os⟩ _ _ (seg_fr F' (by kst_all)) (cb_drop N' (by kcj_all)) G' os'
    · rw [if_pos (by omega), e2]
      clear e1 e2
      (repeat' ((fail_if_success (with_reducible show wpAny _ _ (execs (Stmt.If (PySem.Expr.Compare (PySem.Expr.Call (PySem.Expr.Attribute _ _ _) _ _ _) _ _ _) _ _ _ :: _) _) _ _ _)); (first | (k_unfold; (try dsimp only)) | walk1 | (dsimp only; walk1))))
      all_goals first
        | (exfalso; omega)
        | (exfalso; simp only [bne_self_eq_false, Bool.false_eq_true] at *; done)
        | skip
      exact next ⟨s'.heap, s'.gens, s'.drawn, _, s'.os⟩ _ _ (seg_fr F' (by kst_all)) (cb_drop N' (by kcj_all)) G' os'
end Mine
end

section
open PySem PySem.W PyProof.Rows PySem.Calls PyProof.V PySem.Spec
set_option maxRecDepth 100000
set_option linter.unusedVariables false
namespace Mine
theorem part41 : True := by
  k_with_none
  w_top off
  exact True.intro



noncomputable def lawB20 : List Stmt := by
  have h : q17B.drop 20 = ?x := by
    conv => lhs; whnf
  exact ?x

set_option maxHeartbeats 1000000 in
theorem law_10 (w : World) (mean : ExcName → Option Value) (mg mb : Str → Option Value) (h₀ : Heap) (L : Addr) (s : Shared) (fa : Addr) (ccd : Value) (A : LawAt w mean mg mb h₀ L) (news : Led) (m0 : Str → Option Value) (rR rv : Addr) (vv vR : List Value) (kv kR : Nat) (o1 : Obj)
    (aA aW : WsA) (cA cW : List Int) (hwA : ∀ p ∈ wsLed w aA, p ∈ news) (hwW : ∀ p ∈ wsLed w aW, p ∈ news) (iA : IntsAre aA.vs cA) (iW : IntsAre aW.vs cW) (zA : cA.length ≤ 64) (zW : cW.length ≤ 64)
    (lA : 0 ≤ lon aA.b cA ∧ lon aA.b cA ≤ 60) (lW : 0 ≤ lon aW.b cW ∧ lon aW.b cW ≤ 60) (rs : List Dat) (hok : ∀ d ∈ rs, kqdOk 8 d = true)
    (hEq : witL (fun ts => decide (ilv aA.b aA.nt cA ts ≥ ilv aW.b aW.nt cW ts)) (ilv aA.b aA.nt cA) (ilv aW.b aW.nt cW) (rangeKs 1 (wtop aA.b cA aW.b cW).toNat) = rs)
    (F : Fr h₀ L s.heap (kstB m0 [(Str.ofString "rows", .ref rR), (Str.ofString "apart", .ref aA.r), (Str.ofString "whole", .ref aW.r)]))
    (N : News h₀ L s.heap ((rR, W.listOf (List.toArray vR) kR) :: (rv, W.listOf (List.toArray vv) kv) :: (L + 1 + 1 + 1 + 1 + 1 + 1 + 1, o1) :: news))
    (hR : DatAll news vR rs)
    (Q : Flow → Shared → Prop) (E : Value → Shared → Prop)
    (next : ∀ h' tk (m0 : Str → Option Value), Fr h₀ L h' (kstB m0 [(Str.ofString "rows", .ref rR), (Str.ofString "apart", .ref aA.r), (Str.ofString "whole", .ref aW.r)]) →
      News h₀ L h' ((rR, W.listOf (List.toArray vR) kR) :: (rv, W.listOf (List.toArray vv) kv) :: (L + 1 + 1 + 1 + 1 + 1 + 1 + 1, o1) :: news) →
      wpAny (model pw w) (lawA L fa ccd) (execs lawB20 (lawEnv L fa ccd)) Q E { s with heap := h', toks := tk }) :
    wpAny (model pw w) (lawA L fa ccd) (execs lawB19 (lawEnv L fa ccd)) Q E s := by
  obtain ⟨KT, X, T, B, hL⟩ := A
  obtain ⟨r, d, q, p, x, tx, n, tn, nt, tnt, b1, tb, vs, sm, k1, k2, k3, k4, k5⟩ := aA
  obtain ⟨r', d', q', p', x', tx', n', tn', nt', tnt', b2, tb', vs', sm', k1', k2', k3', k4', k5'⟩ := aW
  have N1 := News.dups N (fun p hp => .tail _ (.tail _ (.tail _ (hwA p hp))))
  have N2 := News.dups N1 (l := wsLed w ⟨r', d', q', p', x', tx', n', tn', nt', tnt', b2, tb', vs', sm', k1', k2', k3', k4', k5'⟩) (fun p hp => List.mem_append_right _ (.tail _ (.tail _ (.tail _ (hwW p hp)))))
  clear N N1
  dsimp only [wsLed, wsEs, List.cons_append, List.nil_append] at N2
  dsimp only [kstB] at F
  k_with_none
  k_with "my CompEnd" => (k_dflt (refine' comp_end0 ?zF ?zN ?zo ?zs ?_; (case zF => k_asm); (case zN => k_asm); (case zo => assumption); (case zs => lcg_src)))
  k_with "my k_updF" => (refine' UpdF.tail ?a ?b; (case a => (dsimp only; exact News.ne_cell (by assumption) (by k_mem) (by k_mem) (by assumption) (by intro v h; cases h))); (case b => k_updF))
  k_with "my k_all" => first | (with_reducible assumption) | (refine' List.forall_mem_cons.mpr ⟨?a, ?b⟩; (case a => first | k_ne | (dsimp only; exact News.ne_cell (by assumption) (by k_mem) (by k_mem) (by assumption) (by intro v h; cases h))); (case b => k_all))
  (repeat' ((fail_if_success (with_reducible show wpAny _ _ (call (Value.ref 144) _) _ _ _)); (first | (k_unfold; (try dsimp only)) | walk1 | (dsimp only; walk1))))
  rename Fr _ _ _ _ => fE
  rename News _ _ _ _ => nE
  have nE2 := cb_drop (news := (rR, W.listOf (List.toArray vR) kR) :: (rv, W.listOf (List.toArray vv) kv) :: (L + 1 + 1 + 1 + 1 + 1 + 1 + 1, o1) :: news) nE (fun p hp => .tail _ (.tail _ (.tail _ (.tail _ (.tail _ (.tail _ (.tail _ (.tail _ hp))))))))
  clear nE
  refine Spec.use B KT fE X nE2 T (by rfl) (spec_notless w mean mg mb _ ⟨r, d, q, p, x, tx, n, tn, nt, tnt, b1, tb, vs, sm, k1, k2, k3, k4, k5⟩ ⟨r', d', q', p', x', tx', n', tn', nt', tnt', b2, tb', vs', sm', k1', k2', k3', k4', k5'⟩ cA cW (fun z hz => .tail _ (.tail _ (.tail _ (hwA z hz)))) iA zA (fun z hz => .tail _ (.tail _ (.tail _ (hwW z hz)))) iW zW lA lW) (by decide) (by decide) ?_
  intro v9 new9 h9 tk9 F9 N9 R9
  obtain ⟨rn, vn, kn, tln, e91, e92, D9⟩ := R9
  subst e91; subst e92
  rw [hEq] at D9
  have nK : News h₀ L h9 ((rR, W.listOf (List.toArray vR) kR) :: (rv, W.listOf (List.toArray vv) kv) :: (L + 1 + 1 + 1 + 1 + 1 + 1 + 1, o1) :: news) := fun p hp => N9 p (List.mem_append_right _ hp)
  have hne : ∀ (s9 : Shared) (Q' : Value → Shared → Prop) (E' : Value → Shared → Prop), s9.heap = h9 → Q' (.bool false) s9 → wpAny (model pw w) (lawA L fa ccd) (compareOp .NotEq (.ref rn) (.ref rR)) Q' E' s9 := fun s9 Q' E' es h => by
    subst es
    exact ne_same N9 (List.mem_append_left _ (.head _)) (List.mem_append_right _ (.head _)) (D9.mono fun p hp => List.mem_append_left _ (.tail _ hp)) (hR.mono fun p hp => List.mem_append_right _ (.tail _ (.tail _ (.tail _ hp)))) hok (by ke_room) h
  clear N9 D9 nE2 fE
  (repeat' ((fail_if_success (with_reducible show wpAny _ _ (compareOp _ _ _) _ _ _)); (first | (k_unfold; (try dsimp only)) | walk1 | (dsimp only; walk1))))
  refine hne _ _ _ rfl ?_
  (repeat' ((fail_if_success (with_reducible show wpAny _ _ (execs (Stmt.If (PySem.Expr.Compare (PySem.Expr.Call (PySem.Expr.Attribute _ _ _) _ _ _) _ _ _) _ _ _ :: _) _) _ _ _)); (first | (k_unfold; (try dsimp only)) | walk1 | (dsimp only; walk1))))
  exact next _ _ _ (seg_fr F9 (by kst_all)) nK
end Mine
end

section
open PySem PySem.W PyProof.Rows PySem.Calls PyProof.V PySem.Spec
set_option maxRecDepth 100000
set_option linter.unusedVariables false
namespace Mine
theorem part42 : True := by
  k_with_none
  w_top off
  exact True.intro



noncomputable def lawB21 : List Stmt := by
  have h : q17B.drop 21 = ?x := by
    conv => lhs; whnf
  exact ?x

/-- the rows that are kept: their size is no divisor -/
noncomputable def keepD (ds : List Int) : Dat → Bool
  | .tuple (.int k :: _) => !decide (k ∈ ds)
  | _ => false
section
variable {prog : Program} {w : World} {A : Around} {E : Value → Shared → Prop} {s : Shared} {h₀ : Heap} {L : Addr} {m : Str → Option Value} {env : Env}
theorem compRestT_ind {ct elt : PySem.Expr} {x : Str} {scope : Scope} {cl : List (Str × Addr)} {S : Led → Prop} {P : Nat → Value → Prop} {Fin : List Value → Led → Prop} (n : Nat) (Inv : Nat → List Value → Led → Prop)
    (fin : ∀ ys news, Inv n ys news → Fin ys news)
    (step : ∀ i ys news, i < n → Inv i ys news → ∀ v I oI C oC D m₂ h tk (E' : Value → Shared → Prop), P i v → LCg.NsObj oC m₂ → m₂ x = some v → Fr h₀ L h m → News h₀ L h ((I, oI) :: (C, oC) :: (D, LCg.lst ys) :: news) → LCg.Off3 I C D news → ((@Ne Nat I C) ∧ (@Ne Nat I D) ∧ (@Ne Nat C D)) →
      wpAny (model prog w) A (isTrue ct (compEnvC scope cl C env) (eval ct (compEnvC scope cl C env))) (fun ok s' => if ok = true then
        wpAny (model prog w) A (eval elt (compEnvC scope cl C env)) (LCg.CompEnd h₀ L m { s with heap := h, toks := tk } I oI C oC D (LCg.lst ys) S (fun y news' => Inv (i + 1) (ys ++ [y]) news')) E' s'
        else LCg.CompEnd h₀ L m { s with heap := h, toks := tk } I oI C oC D (LCg.lst ys) S (fun _ news' => Inv (i + 1) ys news') Value.none s') E' { s with heap := h, toks := tk }) :
    ∀ k i ys news, i + k = n → Inv i ys news → LCt.CompRestT prog w A h₀ L m env ct elt x scope cl s S P Fin k i ys news
  | 0, i, ys, news, e, h => LCt.CompRestT.zero (fin ys news (by have : i = n := by omega
                                                                rw [← this]; exact h))
  | k + 1, i, ys, news, e, h => LCt.CompRestT.succ fun v I oI C oC D m₂ hh tk E' hP hC hx F N off ne =>
      wpAny_mono (step i ys news (by omega) h v I oI C oC D m₂ hh tk E' hP hC hx F N off ne) (fun ok s' q => by
        cases ok with
        | true =>
          simp only [if_true] at q ⊢
          exact wpAny_mono q (fun y s' q => compEnd_mono (fun l r => compRestT_ind n Inv fin step k (i + 1) (ys ++ [y]) l (by omega) r) q) fun _ _ h => h
        | false =>
          simp only [Bool.false_eq_true, if_false] at q ⊢
          exact compEnd_mono (fun l r => compRestT_ind n Inv fin step k (i + 1) ys l (by omega) r) q) fun _ _ h => h
open Classical in
theorem notin_ints {news : Led} {a : Addr} {xs : List Value} {ka : Nat} {ds : List Int} {k : Int} {t : Tok} {Q : Value → Shared → Prop} (N : News h₀ L s.heap news) (ma : (a, W.listOf xs.toArray ka) ∈ news) (hi : IntsAre xs ds) (hu : A.units + 64 < cLine)
    (h : Q (.bool (keepD ds (.tuple [.int k]))) s) : wpAny (model prog w) A (compareOp .NotIn (.int k t) (.ref a)) Q E s := by
  refine kqd_notIn N ma rfl rfl (datInts news hi) (fun _ h => h) (n₂ := news) (.int k t) (fun _ h => h) (fun d hd => by obtain ⟨c, _, rfl⟩ := List.mem_map.1 hd; rfl) rfl hu ?_
  have e : decide (Dat.int k ∈ ds.map Dat.int) = decide (k ∈ ds) := by
    congr 1
    rw [List.mem_map]
    exact propext ⟨fun ⟨c, hc, e⟩ => by injection e with e; exact e ▸ hc, fun hc => ⟨k, hc, rfl⟩⟩
  rw [e]
  exact h
end
theorem tup3_at {l : Led} {vs : List Value} {rs : List Dat} {ks : List Int} {f : Int → Int} {e : Int} (h : DatAll l vs (ks.map fun k => .tuple [.int k, .int (f k), .int e])) {i : Nat} {v : Value} (hv : vs[i]? = some v) :
    ∃ k p n ta tb tc, ks[i]? = some k ∧ v = .ref p ∧ (p, ({ cls := .type "tuple", data := .seq #[.int k ta, .int (f k) tb, .int e tc] n } : Obj)) ∈ l := by
  obtain ⟨d, hd1, hd2⟩ := datAll_get h i v hv
  rw [List.getElem?_map] at hd1
  cases hq : ks[i]? with
  | none => rw [hq] at hd1; cases hd1
  | some k =>
    rw [hq] at hd1
    obtain rfl : Dat.tuple [.int k, .int (f k), .int e] = d := by simpa using hd1
    obtain ⟨p, n, ta, tb, tc, e1, hm⟩ := tup3 hd2
    exact ⟨k, p, n, ta, tb, tc, rfl, e1, hm⟩
theorem keep_0 {ks ds : List Int} {f : Int → Int} {e kk : Int} {i : Nat} (hk : ks[i]? = some kk) (ha : (ds.any fun x => x == kk) = true) :
    ((ks.take (i + 1)).map fun k => Dat.tuple [.int k, .int (f k), .int e]).filter (keepD ds) = ((ks.take i).map fun k => Dat.tuple [.int k, .int (f k), .int e]).filter (keepD ds) := by
  have hm : kk ∈ ds := by simpa using ha
  rw [List.take_add_one, hk, List.map_append, List.filter_append]
  simp [keepD, hm]
theorem keep_1 {ks ds : List Int} {f : Int → Int} {e kk : Int} {i : Nat} (hk : ks[i]? = some kk) (ha : (ds.any fun x => x == kk) = false) :
    ((ks.take (i + 1)).map fun k => Dat.tuple [.int k, .int (f k), .int e]).filter (keepD ds) = ((ks.take i).map fun k => Dat.tuple [.int k, .int (f k), .int e]).filter (keepD ds) ++ [Dat.tuple [.int kk, .int (f kk), .int e]] := by
  have hm : ¬ kk ∈ ds := by
    intro h
    rw [List.any_eq_false] at ha
    exact ha kk h (by simp)
  rw [List.take_add_one, hk, List.map_append, List.filter_append]
  simp [keepD, hm]
set_option maxHeartbeats 1000000 in
theorem law_11 (w : World) (mean : ExcName → Option Value) (mg mb : Str → Option Value) (h₀ : Heap) (L : Addr) (s : Shared) (fa : Addr) (ccd : Value) (A : LawAt w mean mg mb h₀ L) (news : Led) (m0 : Str → Option Value) (rR rv : Addr) (vv vR : List Value) (kv kR : Nat) (o1 : Obj)
    (aA aW : WsA) (cA cW : List Int) (hwA : ∀ p ∈ wsLed w aA, p ∈ news) (hwW : ∀ p ∈ wsLed w aW, p ∈ news) (iA : IntsAre aA.vs cA) (iW : IntsAre aW.vs cW) (zA : cA.length ≤ 64) (zW : cW.length ≤ 64)
    (lA : 0 ≤ lon aA.b cA ∧ lon aA.b cA ≤ 60) (lW : 0 ≤ lon aW.b cW ∧ lon aW.b cW ≤ 60) (ks ds : List Int) (f : Int → Int) (e : Int) (hlen : ks.length ≤ 64)
    (hEq : witL (fun ts => decide (ilv aA.b aA.nt cA ts ≠ ilv aW.b aW.nt cW ts)) (ilv aA.b aA.nt cA) (ilv aW.b aW.nt cW) (rangeKs 1 (wtop aA.b cA aW.b cW).toNat) = (ks.map fun k => Dat.tuple [.int k, .int (f k), .int e]).filter (keepD ds))
    (F : Fr h₀ L s.heap (kstB m0 [(Str.ofString "rows", .ref rR), (Str.ofString "apart", .ref aA.r), (Str.ofString "whole", .ref aW.r)]))
    (N : News h₀ L s.heap ((rR, W.listOf (List.toArray vR) kR) :: (rv, W.listOf (List.toArray vv) kv) :: (L + 1 + 1 + 1 + 1 + 1 + 1 + 1, o1) :: news))
    (d1 : o1.data = .cell (some (.ref rv))) (iv : IntsAre vv ds)
    (hR : DatAll news vR (ks.map fun k => .tuple [.int k, .int (f k), .int e]))
    (Q : Flow → Shared → Prop) (E : Value → Shared → Prop)
    (next : ∀ h' tk (m0 : Str → Option Value), Fr h₀ L h' (kstB m0 [(Str.ofString "apart", .ref aA.r), (Str.ofString "whole", .ref aW.r)]) →
      News h₀ L h' news →
      wpAny (model pw w) (lawA L fa ccd) (execs lawB21 (lawEnv L fa ccd)) Q E { s with heap := h', toks := tk }) :
    wpAny (model pw w) (lawA L fa ccd) (execs lawB20 (lawEnv L fa ccd)) Q E s := by
  obtain ⟨KT, X, T, B, hL⟩ := A
  obtain ⟨r, d, q, p, x, tx, n, tn, nt, tnt, b1, tb, vs, sm, k1, k2, k3, k4, k5⟩ := aA
  obtain ⟨r', d', q', p', x', tx', n', tn', nt', tnt', b2, tb', vs', sm', k1', k2', k3', k4', k5'⟩ := aW
  have N1 := News.dups N (fun p hp => .tail _ (.tail _ (.tail _ (hwA p hp))))
  have N2 := News.dups N1 (l := wsLed w ⟨r', d', q', p', x', tx', n', tn', nt', tnt', b2, tb', vs', sm', k1', k2', k3', k4', k5'⟩) (fun p hp => List.mem_append_right _ (.tail _ (.tail _ (.tail _ (hwW p hp)))))
  clear N N1
  dsimp only [wsLed, wsEs, List.cons_append, List.nil_append] at N2
  dsimp only [kstB] at F
  k_with_none
  k_with "my CompEnd" => (k_dflt (refine' comp_end0 ?zF ?zN ?zo ?zs ?_; (case zF => k_asm); (case zN => k_asm); (case zo => assumption); (case zs => lcg_src)))
  k_with "my k_updF" => (refine' UpdF.tail ?a ?b; (case a => (dsimp only; exact News.ne_cell (by assumption) (by k_mem) (by k_mem) (by assumption) (by intro v h; cases h))); (case b => k_updF))
  k_with "my k_all" => first | (with_reducible assumption) | (refine' List.forall_mem_cons.mpr ⟨?a, ?b⟩; (case a => first | k_ne | (dsimp only; exact News.ne_cell (by assumption) (by k_mem) (by k_mem) (by assumption) (by intro v h; cases h))); (case b => k_all))
  k_with "my compareOp NotIn" => (k_here; (with_reducible show wpAny _ _ (compareOp CmpOp.NotIn (Value.int _ _) (Value.ref _)) _ _ _); k_dflt (refine' notin_ints ?zN ?zm ?zi ?zu ?_; (case zN => k_asm); (case zm => k_mem); (case zi => assumption); (case zu => ke_room); k_whole))
  (repeat' ((fail_if_success (with_reducible show wpAny _ _ (call (Value.ref 130) _) _ _ _)); (first | (k_unfold; (try dsimp only)) | walk1 | (dsimp only; walk1))))
  rename Fr _ _ _ _ => fE
  rename News _ _ _ _ => nE
  have nE2 := cb_drop (news := (rR, W.listOf (List.toArray vR) kR) :: (rv, W.listOf (List.toArray vv) kv) :: (L + 1 + 1 + 1 + 1 + 1 + 1 + 1, o1) :: news) nE (fun p hp => .tail _ (.tail _ (.tail _ (.tail _ (.tail _ (.tail _ (.tail _ (.tail _ hp))))))))
  clear nE
  refine Spec.use B KT fE X nE2 T (by rfl) (spec_notequal w mean mg mb _ ⟨r, d, q, p, x, tx, n, tn, nt, tnt, b1, tb, vs, sm, k1, k2, k3, k4, k5⟩ ⟨r', d', q', p', x', tx', n', tn', nt', tnt', b2, tb', vs', sm', k1', k2', k3', k4', k5'⟩ cA cW (fun z hz => .tail _ (.tail _ (.tail _ (hwA z hz)))) iA zA (fun z hz => .tail _ (.tail _ (.tail _ (hwW z hz)))) iW zW lA lW) (by decide) (by decide) ?_
  intro v9 new9 h9 tk9 F9 N9 R9
  obtain ⟨rn, vn, kn, tln, e91, e92, D9⟩ := R9
  subst e91; subst e92
  rw [hEq] at D9
  have N10 : News h₀ L h9 ((rR, W.listOf (List.toArray vR) kR) :: (rv, W.listOf (List.toArray vv) kv) :: (L + 1 + 1 + 1 + 1 + 1 + 1 + 1, o1) :: (rn, W.listOf vn.toArray kn) :: (tln ++ news)) := cb_drop N9 (fun p hp => by
    simp only [List.mem_cons, List.mem_append] at hp ⊢
    rcases hp with h | h | h | h | h | h <;> simp only [h, true_or, or_true])
  have s1 : ∀ p ∈ tln, p ∈ tln ++ news := fun p hp => List.mem_append_left _ hp
  have s2 : ∀ p ∈ news, p ∈ tln ++ news := fun p hp => List.mem_append_right _ hp
  generalize tln ++ news = nw at N10 s1 s2
  have hR' := hR.mono s2
  have hD' := D9.mono s1
  clear N9 nE2 fE D9 hR
  (repeat' ((fail_if_success (with_reducible show wpAny _ _ (eval (Expr.ListComp _ _ _ _) _) _ _ _)); (first | (k_unfold; (try dsimp only)) | walk1 | (dsimp only; walk1))))
  refine LCt.ListComp_T (F₀ := F9) (by with_unfolding_all rfl) (by decide) (by rfl) (by decide) (by rfl) ?_
  (repeat' ((fail_if_success (with_reducible show LCt.CompSrcT _ _ _ _ _ _ _ _ _ _ _ _ _ _ _)); (first | (k_unfold; (try dsimp only)) | walk1 | (dsimp only; walk1))))
  refine LCt.CompSrcT.ledger (by rfl) F9 N10 (.head _) (by rw [List.size_toArray, datAll_len hR', List.length_map, sizeLine_eq]; omega) ?_
  intro g
  refine compRestT_ind vR.toArray.size (fun i ys led => led = (rR, W.listOf (List.toArray vR) kR) :: (rv, W.listOf (List.toArray vv) kv) :: (L + 1 + 1 + 1 + 1 + 1 + 1 + 1, o1) :: (rn, W.listOf vn.toArray kn) :: nw ∧ DatAll nw ys (((ks.take i).map fun k => Dat.tuple [.int k, .int (f k), .int e]).filter (keepD ds))) ?fin ?step _ 0 [] _ (Nat.zero_add _) ⟨rfl, .nil⟩
  case step =>
    intro i ys led hi hI v I oI C oC D m₂ h tk E' hP hC hx F3 N3 off ne
    obtain ⟨rfl, hCy⟩ := hI
    obtain ⟨kk, pp, n9, ta9, tb9, tc9, hk, rfl, hpm⟩ := tup3_at (rs := []) hR' (i := i) (by simpa using hP)
    have N4 := News.dup N3 (.tail _ (.tail _ (.tail _ (.tail _ (.tail _ (.tail _ (.tail _ hpm)))))))
    clear F9 N10
    k_steps
    · rw [keep_0 hk (by assumption)]; exact hCy
    · rw [keep_1 hk (by assumption)]
      exact datAll_snoc hCy (.tuple (vs := [_, _, _]) hpm (.cons (.int _ _) (.cons (.int _ _) (.cons (.int _ _) .nil))))
  case fin =>
    rintro ys led ⟨rfl, hCy⟩
    unfold LCg.FinE
    intro D h tk F3 N3 oo1
    clear F9 N10
    rw [List.size_toArray, datAll_len hR', List.length_map, List.take_length] at hCy
    refine ne_same N3 (.tail _ (.tail _ (.tail _ (.tail _ (.head _))))) (.head _) (hD'.mono fun p hp => .tail _ (.tail _ (.tail _ (.tail _ (.tail _ hp))))) (hCy.mono fun p hp => .tail _ (.tail _ (.tail _ (.tail _ (.tail _ hp))))) ?_ (by ke_room) ?_
    · intro d hd
      obtain ⟨k, _, rfl⟩ := List.mem_map.1 (List.mem_filter.1 hd).1
      rfl
    (repeat' ((fail_if_success (with_reducible show wpAny _ _ (execs (Stmt.Return (some (PySem.Expr.BoolOp _ _ _)) _ :: _) _) _ _ _)); (first | (k_unfold; (try dsimp only)) | walk1 | (dsimp only; walk1))))
    exact next _ _ _ (seg_fr F3 (by kst_all)) (fun p hp => N3 p (.tail _ (.tail _ (.tail _ (.tail _ (.tail _ (s2 p hp)))))))
end Mine
end

section
open PySem PySem.W PyProof.Rows PySem.Calls PyProof.V PySem.Spec
set_option maxRecDepth 100000
set_option linter.unusedVariables false
namespace Mine
theorem part43 : True := by
  k_with_none
  w_top off
  exact True.intro




set_option maxHeartbeats 1000000 in
theorem law_12 (w : World) (mean : ExcName → Option Value) (mg mb : Str → Option Value) (h₀ : Heap) (L : Addr) (s : Shared) (fa : Addr) (ccd : Value) (A : LawAt w mean mg mb h₀ L) (news : Led) (m0 : Str → Option Value)
    (aA aW : WsA) (cA cW : List Int) (hwA : ∀ p ∈ wsLed w aA, p ∈ news) (hwW : ∀ p ∈ wsLed w aW, p ∈ news) (iA : IntsAre aA.vs cA) (iW : IntsAre aW.vs cW)
    (hn : aA.n = aW.n) (hne : cA ≠ cW)
    (F : Fr h₀ L s.heap (kstB m0 [(Str.ofString "apart", .ref aA.r), (Str.ofString "whole", .ref aW.r)]))
    (N : News h₀ L s.heap news)
    (Q : Flow → Shared → Prop) (E : Value → Shared → Prop)
    (next : ∀ h' tk (m' : Str → Option Value), Fr h₀ L h' m' → News h₀ L h' news → Q (.ret (.bool true)) { s with heap := h', toks := tk }) :
    wpAny (model pw w) (lawA L fa ccd) (execs lawB21 (lawEnv L fa ccd)) Q E s := by
  obtain ⟨KT, X, T, B, hL⟩ := A
  obtain ⟨r, d, q, p, x, tx, n, tn, nt, tnt, b1, tb, vs, sm, k1, k2, k3, k4, k5⟩ := aA
  obtain ⟨r', d', q', p', x', tx', n', tn', nt', tnt', b2, tb', vs', sm', k1', k2', k3', k4', k5'⟩ := aW
  have N1 := News.dups N hwA
  have N2 := News.dups N1 (l := wsLed w ⟨r', d', q', p', x', tx', n', tn', nt', tnt', b2, tb', vs', sm', k1', k2', k3', k4', k5'⟩) (fun p hp => List.mem_append_right _ (hwW p hp))
  clear N N1
  have mA : ∀ z ∈ wsLed w ⟨r, d, q, p, x, tx, n, tn, nt, tnt, b1, tb, vs, sm, k1, k2, k3, k4, k5⟩, z ∈ wsLed w ⟨r', d', q', p', x', tx', n', tn', nt', tnt', b2, tb', vs', sm', k1', k2', k3', k4', k5'⟩ ++ (wsLed w ⟨r, d, q, p, x, tx, n, tn, nt, tnt, b1, tb, vs, sm, k1, k2, k3, k4, k5⟩ ++ news) := fun z hz => List.mem_append_right _ (List.mem_append_left _ hz)
  have mW : ∀ z ∈ wsLed w ⟨r', d', q', p', x', tx', n', tn', nt', tnt', b2, tb', vs', sm', k1', k2', k3', k4', k5'⟩, z ∈ wsLed w ⟨r', d', q', p', x', tx', n', tn', nt', tnt', b2, tb', vs', sm', k1', k2', k3', k4', k5'⟩ ++ (wsLed w ⟨r, d, q, p, x, tx, n, tn, nt, tnt, b1, tb, vs, sm, k1, k2, k3, k4, k5⟩ ++ news) := fun z hz => List.mem_append_left _ hz
  dsimp only [wsLed, wsEs, List.cons_append, List.nil_append] at N2 mA mW
  dsimp only [kstB] at F
  k_with_none
  k_with "my CompEnd" => (k_dflt (refine' comp_end0 ?zF ?zN ?zo ?zs ?_; (case zF => k_asm); (case zN => k_asm); (case zo => assumption); (case zs => lcg_src)))
  k_with "my k_updF" => (refine' UpdF.tail ?a ?b; (case a => (dsimp only; exact News.ne_cell (by assumption) (by k_mem) (by k_mem) (by assumption) (by intro v h; cases h))); (case b => k_updF))
  k_with "my k_all" => first | (with_reducible assumption) | (refine' List.forall_mem_cons.mpr ⟨?a, ?b⟩; (case a => first | k_ne | (dsimp only; exact News.ne_cell (by assumption) (by k_mem) (by k_mem) (by assumption) (by intro v h; cases h))); (case b => k_all))
  (repeat' ((fail_if_success (with_reducible show wpAny _ _ (call (Value.ref 137) _) _ _ _)); (first | (k_unfold; (try dsimp only)) | walk1 | (dsimp only; walk1))))
  rename Fr _ _ _ _ => fE
  rename News _ _ _ _ => nE
  refine Spec.use B KT fE X nE T (by rfl) (spec_less w mean mg mb _ ⟨r, d, q, p, x, tx, n, tn, nt, tnt, b1, tb, vs, sm, k1, k2, k3, k4, k5⟩ ⟨r', d', q', p', x', tx', n', tn', nt', tnt', b2, tb', vs', sm', k1', k2', k3', k4', k5'⟩ mA mW hn) (by decide) (by decide) ?_
  clear fE nE
  rintro v9 new9 h9 tk9 F9 N9 ⟨rfl, rfl⟩
  rw [List.nil_append] at N9
  (repeat' ((fail_if_success (with_reducible show wpAny _ _ (call (Value.ref 137) _) _ _ _)); (first | (k_unfold; (try dsimp only)) | walk1 | (dsimp only; walk1))))
  rename Fr _ _ _ _ => fE
  rename News _ _ _ _ => nE
  refine Spec.use B KT fE X nE T (by rfl) (spec_less w mean mg mb _ ⟨r', d', q', p', x', tx', n', tn', nt', tnt', b2, tb', vs', sm', k1', k2', k3', k4', k5'⟩ ⟨r, d, q, p, x, tx, n, tn, nt, tnt, b1, tb, vs, sm, k1, k2, k3, k4, k5⟩ mW mA hn.symm) (by decide) (by decide) ?_
  clear fE nE
  rintro v9 new9 h9 tk9 F9 N9 ⟨rfl, rfl⟩
  rw [List.nil_append] at N9
  (repeat' ((fail_if_success (with_reducible show wpAny _ _ (call (Value.ref 123) _) _ _ _)); (first | (k_unfold; (try dsimp only)) | walk1 | (dsimp only; walk1))))
  rename Fr _ _ _ _ => fE
  rename News _ _ _ _ => nE
  refine Spec.use B KT fE X nE T (by rfl) (spec_equal w mean mg mb _ ⟨r, d, q, p, x, tx, n, tn, nt, tnt, b1, tb, vs, sm, k1, k2, k3, k4, k5⟩ ⟨r', d', q', p', x', tx', n', tn', nt', tnt', b2, tb', vs', sm', k1', k2', k3', k4', k5'⟩ cA cW mA iA mW iW hne) (by decide) (by decide) ?_
  clear fE nE
  rintro v9 new9 h9 tk9 F9 N9 ⟨rfl, rfl⟩
  rw [List.nil_append] at N9
  k_steps
  exact next _ _ _ F9 (fun z hz => N9 z (.tail _ (.tail _ (.tail _ (.tail _ (.tail _ (.tail _ (.tail _ (.tail _ hz)))))))))
end Mine
end

section
open PySem PySem.W PyProof.Rows PySem.Calls PyProof.V PySem.Spec
set_option maxRecDepth 100000
set_option linter.unusedVariables false
namespace Mine


theorem go_blanks (k : Nat) (rest : List Int) : ∀ (c : List Int) (b n nt : Int), wsGo (List.replicate k 32 ++ rest) c b n nt = wsGo rest c (b + k) (n + k) nt := by
  induction k with
  | zero => intro c b n nt; simp
  | succ k ih =>
    intro c b n nt
    rw [List.replicate_succ, List.cons_append, wsGo, if_pos rfl, ih]
    congr 1 <;> push_cast <;> omega
theorem go_tab (rest : List Int) (c : List Int) (b n nt : Int) : wsGo (9 :: rest) c b n nt = wsGo rest (bump c b.toNat) 0 (n + 1) (nt + 1) := by
  rw [wsGo, if_neg (by decide), if_pos rfl]
theorem go_x (rest : List Int) (c : List Int) (b n nt : Int) : wsGo (120 :: rest) c b n nt = (c, b, n, nt) := by
  rw [wsGo, if_neg (by decide), if_neg (by decide)]
noncomputable def bump3 (l0 l1 l2 : Nat) : List Int := bump (bump (bump [] (l0 - 1)) (l1 - 1)) (l2 - 1)
theorem go_apart {l0 l1 l2 t : Nat} (h0 : 1 ≤ l0) (h1 : 1 ≤ l1) (h2 : 1 ≤ l2) : wsGo (apartCd l0 l1 l2 t) [] 0 0 0 = (bump3 l0 l1 l2, (t : Int), ((l0 + l1 + l2 + t : Nat) : Int), 3) := by
  unfold apartCd
  simp only [List.append_assoc, List.cons_append, List.nil_append]
  rw [go_blanks, go_tab, go_blanks, go_tab, go_blanks, go_tab, go_blanks, go_x]
  have e : ∀ l : Nat, ((0 : Int) + ((l - 1 : Nat) : Int)).toNat = l - 1 := fun l => by omega
  rw [e, e, e]
  unfold bump3
  refine Prod.ext rfl (Prod.ext ?_ (Prod.ext ?_ ?_)) <;> dsimp only <;> omega
theorem go_whole {l0 l1 l2 t : Nat} : wsGo (wholeCd l0 l1 l2 t) [] 0 0 0 = ([], ((l0 + l1 + l2 + t : Nat) : Int), ((l0 + l1 + l2 + t : Nat) : Int), 0) := by
  unfold wholeCd
  simp only [List.append_assoc, List.cons_append, List.nil_append]
  rw [go_blanks, go_blanks, go_blanks, go_blanks, go_x]
  refine Prod.ext rfl (Prod.ext ?_ (Prod.ext ?_ ?_)) <;> dsimp only <;> omega
theorem bump3_len (l0 l1 l2 : Nat) : (bump3 l0 l1 l2).length = max (max (max 0 (l0 - 1 + 1)) (l1 - 1 + 1)) (l2 - 1 + 1) := by
  unfold bump3
  rw [bump_len, bump_len, bump_len]; rfl
/-- a list of counts, each weighed by its place -/
noncomputable def wgt (ts : Int) : Nat → List Int → Int
  | _, [] => 0
  | k, x :: xs => ((k : Int).fdiv ts) * x + wgt ts (k + 1) xs
theorem wgt_app (ts : Int) : ∀ (a b : List Int) (k : Nat), wgt ts k (a ++ b) = wgt ts k a + wgt ts (k + a.length) b
  | [], b, k => by simp [wgt]
  | x :: a, b, k => by
    rw [List.cons_append, wgt, wgt, wgt_app ts a b (k + 1), List.length_cons, show k + 1 + a.length = k + (a.length + 1) by omega]
    omega
theorem wgt_zero (ts : Int) : ∀ (n k : Nat), wgt ts k (List.replicate n 0) = 0
  | 0, k => rfl
  | n + 1, k => by rw [List.replicate_succ, wgt, wgt_zero ts n (k + 1)]; simp
theorem wgt_set (ts : Int) : ∀ (l : List Int) (i k : Nat), i < l.length → wgt ts k (l.set i (l.getD i 0 + 1)) = wgt ts k l + ((k + i : Nat) : Int).fdiv ts
  | [], i, k, h => absurd h (Nat.not_lt_zero _)
  | x :: l, 0, k, h => by
    rw [List.set_cons_zero, wgt, wgt, List.getD_cons_zero, Int.mul_add, Int.mul_one]
    simp only [Nat.add_zero]
    omega
  | x :: l, i + 1, k, h => by
    rw [List.set_cons_succ, wgt, wgt, List.getD_cons_succ, wgt_set ts l i (k + 1) (by simpa using h), show k + 1 + i = k + (i + 1) by omega]
    omega
theorem wgt_bump (ts : Int) (c : List Int) (b : Nat) : wgt ts 0 (bump c b) = wgt ts 0 c + (b : Int).fdiv ts := by
  rw [bump, wgt_set, wgt_app, wgt_zero, Int.add_zero, Nat.zero_add]
  rw [List.length_append, List.length_replicate]; omega
theorem wgt_small (ts : Nat) : ∀ (l : List Int) (k : Nat), k + l.length ≤ ts → wgt (ts : Int) k l = 0
  | [], k, h => rfl
  | x :: l, k, h => by
    rw [List.length_cons] at h
    rw [wgt, wgt_small ts l (k + 1) (by omega), Int.fdiv_eq_ediv_of_nonneg _ (by omega), Int.ediv_eq_zero_of_lt (by omega) (by omega)]
    simp
theorem ilSum_wgt (ts : Int) : ∀ (n a : Nat) (cs : List Int), a + n = cs.length → ilSum ts cs (rangeKs (a : Int) n) = wgt ts a (cs.drop a)
  | 0, a, cs, h => by
    rw [List.drop_of_length_le (by omega)]; rfl
  | n + 1, a, cs, h => by
    have hlt : a < cs.length := by omega
    have ih := ilSum_wgt ts n (a + 1) cs (by omega)
    rw [kll_cons, ilSum, List.map_cons, List.sum_cons, List.drop_eq_getElem_cons hlt, wgt]
    rw [ilSum] at ih
    push_cast at ih
    rw [ih, Int.toNat_natCast, List.getD_eq_getElem?_getD, List.getElem?_eq_getElem hlt]
    rfl
theorem ilSum_all (ts : Nat) (h1 : 1 ≤ ts) (cs : List Int) : ilSum (ts : Int) cs (rangeKs (ts : Int) ((cs.length : Int) - (ts : Int)).toNat) = wgt (ts : Int) 0 cs := by
  by_cases h : ts ≤ cs.length
  · rw [ilSum_wgt (ts : Int) _ ts cs (by omega)]
    conv => rhs; rw [← List.take_append_drop ts cs, wgt_app]
    rw [wgt_small ts (cs.take ts) 0 (by rw [List.length_take]; omega), List.length_take, Nat.min_eq_left h, Nat.zero_add, Int.zero_add]
  · rw [show ((cs.length : Int) - (ts : Int)).toNat = 0 by omega, wgt_small ts cs 0 (by omega)]
    rfl

theorem fd_nat (a ts : Nat) : ((a : Nat) : Int).fdiv (ts : Int) = ((a / ts : Nat) : Int) := by
  rw [Int.fdiv_eq_ediv_of_nonneg _ (by omega)]; rfl
/-- a length rounded up to whole sizes -/
noncomputable def ceil (l ts : Nat) : Nat := (l + ts - 1) / ts
theorem ceil_eq {l ts : Nat} (hl : 1 ≤ l) (ht : 1 ≤ ts) : ceil l ts = (l - 1) / ts + 1 := by
  unfold ceil
  rw [show l + ts - 1 = (l - 1) + ts by omega, Nat.add_div_right _ (by omega)]
theorem ceil_mul {l ts : Nat} (hl : 1 ≤ l) (ht : 1 ≤ ts) : l ≤ ts * ceil l ts ∧ (ts * ceil l ts = l ↔ ts ∣ l) := by
  rw [ceil_eq hl ht]
  have h1 := Nat.div_add_mod (l - 1) ts
  have h2 := Nat.mod_lt (l - 1) (show 0 < ts by omega)
  rw [Nat.mul_add, Nat.mul_one]
  refine ⟨by omega, ⟨fun h => ⟨(l - 1) / ts + 1, by rw [Nat.mul_add, Nat.mul_one]; omega⟩, fun ⟨q, hq⟩ => ?_⟩⟩
  have hq1 : 1 ≤ q := by
    rcases Nat.eq_zero_or_pos q with rfl | h
    · rw [Nat.mul_zero] at hq; omega
    · exact h
  have e : (l - 1) / ts = q - 1 := by
    apply Nat.div_eq_of_lt_le
    · rw [Nat.mul_comm, Nat.mul_sub, Nat.mul_one]; omega
    · rw [Nat.mul_comm, show q - 1 + 1 = q by omega]; omega
  rw [e, Nat.mul_sub, Nat.mul_one]
  have : ts ≤ ts * q := Nat.le_mul_of_pos_right ts hq1
  omega
theorem wgt_bump3 {l0 l1 l2 ts : Nat} : wgt (ts : Int) 0 (bump3 l0 l1 l2) = (((l0 - 1) / ts + (l1 - 1) / ts + (l2 - 1) / ts : Nat) : Int) := by
  unfold bump3
  rw [wgt_bump, wgt_bump, wgt_bump, fd_nat, fd_nat, fd_nat]
  simp [wgt]
/-- the lead of three tabs: its level -/
theorem ilv_apart {l0 l1 l2 t ts : Nat} (h0 : 1 ≤ l0) (h1 : 1 ≤ l1) (h2 : 1 ≤ l2) (ht : 1 ≤ ts) :
    ilv (t : Int) 3 (bump3 l0 l1 l2) (ts : Int) = ((t + (ts * ceil l0 ts + ts * ceil l1 ts + ts * ceil l2 ts) : Nat) : Int) := by
  unfold ilv
  rw [ilSum_all ts ht, wgt_bump3, ceil_eq h0 ht, ceil_eq h1 ht, ceil_eq h2 ht]
  rw [← Nat.mul_add, ← Nat.mul_add]
  push_cast
  congr 2
  omega
theorem ilv_whole {e : Int} {ts : Nat} (ht : 1 ≤ ts) : ilv e 0 [] (ts : Int) = e := by
  unfold ilv
  rw [ilSum_all ts ht]
  simp [wgt]
theorem rowD_nat {l0 l1 l2 ts : Nat} {t e : Int} (ht : 1 ≤ ts) : rowD (l0 : Int) (l1 : Int) (l2 : Int) t e (ts : Int) = .tuple [.int (ts : Int), .int (t + ((ts * ceil l0 ts + ts * ceil l1 ts + ts * ceil l2 ts : Nat) : Int)), .int e] := by
  unfold rowD
  have c : ∀ l : Nat, ((l : Int) + (ts : Int) - 1).fdiv (ts : Int) = ((ceil l ts : Nat) : Int) := fun l => by
    rw [show (l : Int) + (ts : Int) - 1 = ((l + ts - 1 : Nat) : Int) by omega, fd_nat]; rfl
  rw [c, c, c]
  congr 4
  push_cast
  rw [Int.add_zero, Int.mul_add, Int.mul_add]
  omega
theorem mem_rangeKs {n : Nat} {k : Int} : k ∈ rangeKs 1 n ↔ ∃ j : Nat, k = (j : Int) ∧ 1 ≤ j ∧ j ≤ n := by
  unfold rangeKs
  rw [List.mem_map]
  constructor
  · rintro ⟨i, hi, rfl⟩
    exact ⟨i + 1, by omega, by omega, by have := List.mem_range.1 hi; omega⟩
  · rintro ⟨j, rfl, h1, h2⟩
    exact ⟨j - 1, List.mem_range.2 (by omega), by omega⟩
theorem mem_divs {n : Nat} {k : Int} : k ∈ divs n ↔ ∃ j : Nat, k = (j : Int) ∧ 1 ≤ j ∧ j ≤ n ∧ j ∣ n := by
  unfold divs
  rw [List.mem_filter, mem_rangeKs]
  constructor
  · rintro ⟨⟨j, rfl, h1, h2⟩, h3⟩
    refine ⟨j, rfl, h1, h2, ?_⟩
    have := of_decide_eq_true h3
    rw [Int.fmod_eq_emod_of_nonneg _ (by omega)] at this
    exact Nat.dvd_of_mod_eq_zero (by omega)
  · rintro ⟨j, rfl, h1, h2, h3⟩
    refine ⟨⟨j, rfl, h1, h2⟩, decide_eq_true ?_⟩
    rw [Int.fmod_eq_emod_of_nonneg _ (by omega)]
    have := Nat.mod_eq_zero_of_dvd h3
    omega
/-- what is shared: three lengths of a unit's repeats -/
structure Lens (l0 l1 l2 n : Nat) : Prop where
  h0 : 1 ≤ l0 ∧ l0 ≤ 12
  h1 : 1 ≤ l1 ∧ l1 ≤ 12
  h2 : 1 ≤ l2 ∧ l2 ≤ 12
  hn : 1 ≤ n ∧ n ≤ 12
  dv : ∀ ts, ts ∣ n ↔ (ts ∣ l0 ∧ ts ∣ l1 ∧ ts ∣ l2)
theorem level_iff {l0 l1 l2 n t ts : Nat} (H : Lens l0 l1 l2 n) (ht : 1 ≤ ts) :
    ((l0 + l1 + l2 + t : Nat) : Int) ≤ ilv (t : Int) 3 (bump3 l0 l1 l2) (ts : Int) ∧ (ilv (t : Int) 3 (bump3 l0 l1 l2) (ts : Int) = ((l0 + l1 + l2 + t : Nat) : Int) ↔ ts ∣ n) := by
  rw [ilv_apart H.h0.1 H.h1.1 H.h2.1 ht]
  obtain ⟨a0, b0⟩ := ceil_mul H.h0.1 ht
  obtain ⟨a1, b1⟩ := ceil_mul H.h1.1 ht
  obtain ⟨a2, b2⟩ := ceil_mul H.h2.1 ht
  refine ⟨by omega, ?_⟩
  rw [H.dv, ← b0, ← b1, ← b2]
  constructor
  · intro h
    refine ⟨?_, ?_, ?_⟩ <;> omega
  · rintro ⟨c0, c1, c2⟩
    omega
theorem dvd_small {l0 l1 l2 n ts : Nat} (H : Lens l0 l1 l2 n) (h : ts ∣ n) : ts ≤ n := Nat.le_of_dvd (by have := H.hn; omega) h
theorem filter_range {n m : Nat} (h : n ≤ m) (p : Int → Bool) (hp : ∀ j : Nat, n < j → p (j : Int) = false) : (rangeKs 1 m).filter p = (rangeKs 1 n).filter p := by
  obtain ⟨d, rfl⟩ := Nat.exists_eq_add_of_le h
  clear h
  induction d with
  | zero => rfl
  | succ d ih =>
    rw [← Nat.add_assoc, rangeKs_snoc, List.filter_append, ih, List.filter_cons_of_neg, List.filter_nil, List.append_nil]
    rw [show (1 : Int) + ((n + d : Nat) : Int) = ((n + d + 1 : Nat) : Int) by omega, hp _ (by omega)]
    decide
theorem bump3_le {l0 l1 l2 n : Nat} (H : Lens l0 l1 l2 n) : (bump3 l0 l1 l2).length ≤ l0 + l1 + l2 ∧ (bump3 l0 l1 l2).length ≤ 12 := by
  rw [bump3_len, Nat.sub_add_cancel H.h0.1, Nat.sub_add_cancel H.h1.1, Nat.sub_add_cancel H.h2.1]
  have h0 := H.h0.2
  have h1 := H.h1.2
  have h2 := H.h2.2
  clear H
  exact ⟨Nat.max_le.2 ⟨Nat.max_le.2 ⟨Nat.max_le.2 ⟨Nat.zero_le _, by omega⟩, by omega⟩, by omega⟩, Nat.max_le.2 ⟨Nat.max_le.2 ⟨Nat.max_le.2 ⟨Nat.zero_le _, h0⟩, h1⟩, h2⟩⟩
theorem lon_end {k : Nat} : lon (k : Int) [] = k := by
  unfold lon
  rw [if_pos]
  show (k : Int) > ((0 : Nat) : Int) - 1
  omega
theorem lon_le {l0 l1 l2 n t : Nat} (H : Lens l0 l1 l2 n) : ¬ lon (t : Int) (bump3 l0 l1 l2) > ((l0 + l1 + l2 + t : Nat) : Int) := by
  have h := (bump3_le H).1
  clear H
  unfold lon
  generalize (bump3 l0 l1 l2).length = k at *
  split <;> omega
theorem wtop_eq {l0 l1 l2 n t : Nat} (H : Lens l0 l1 l2 n) : (wtop (t : Int) (bump3 l0 l1 l2) ((l0 + l1 + l2 + t : Nat) : Int) []).toNat = l0 + l1 + l2 + t + 1 ∧ (wtop ((l0 + l1 + l2 + t : Nat) : Int) [] (t : Int) (bump3 l0 l1 l2)).toNat = l0 + l1 + l2 + t + 1 := by
  have h := lon_le (t := t) H
  clear H
  unfold wtop
  rw [lon_end, if_neg h]
  generalize lon (t : Int) (bump3 l0 l1 l2) = x at *
  generalize l0 + l1 + l2 + t = k at *
  constructor
  · split <;> omega
  · omega
theorem lon_apart {l0 l1 l2 n t : Nat} (H : Lens l0 l1 l2 n) (ht : t ≤ 2) : 0 ≤ lon (t : Int) (bump3 l0 l1 l2) ∧ lon (t : Int) (bump3 l0 l1 l2) ≤ 60 := by
  have h := (bump3_le H).2
  clear H
  unfold lon
  generalize (bump3 l0 l1 l2).length = k at *
  split <;> omega
theorem lon_whole {l0 l1 l2 n t : Nat} (H : Lens l0 l1 l2 n) (ht : t ≤ 2) : 0 ≤ lon ((l0 + l1 + l2 + t : Nat) : Int) [] ∧ lon ((l0 + l1 + l2 + t : Nat) : Int) [] ≤ 60 := by
  have := H.h0
  have := H.h1
  have := H.h2
  unfold lon
  simp only [List.length_nil]
  split <;> omega

section
variable {l0 l1 l2 n t : Nat}
theorem eq_rows (H : Lens l0 l1 l2 n) : witL (fun ts => decide (ilv (t : Int) 3 (bump3 l0 l1 l2) ts ≥ ilv ((l0 + l1 + l2 + t : Nat) : Int) 0 [] ts)) (ilv (t : Int) 3 (bump3 l0 l1 l2)) (ilv ((l0 + l1 + l2 + t : Nat) : Int) 0 []) (rangeKs 1 (wtop (t : Int) (bump3 l0 l1 l2) ((l0 + l1 + l2 + t : Nat) : Int) []).toNat) =
    (rangeKs 1 (l0 + l1 + l2 + t + 1)).map (rowD (l0 : Int) (l1 : Int) (l2 : Int) (t : Int) ((l0 + l1 + l2 + t : Nat) : Int)) := by
  rw [(wtop_eq H).1, witL, List.filter_eq_self.2]
  · refine List.map_congr_left fun k hk => ?_
    obtain ⟨j, rfl, h1, _⟩ := mem_rangeKs.1 hk
    rw [witD, rowD_nat h1, ilv_apart H.h0.1 H.h1.1 H.h2.1 h1, ilv_whole h1]
    congr 4
  · intro k hk
    obtain ⟨j, rfl, h1, _⟩ := mem_rangeKs.1 hk
    rw [ilv_whole h1]
    exact decide_eq_true (level_iff H h1).1
theorem eq_named (H : Lens l0 l1 l2 n) : witL (fun ts => decide (ilv ((l0 + l1 + l2 + t : Nat) : Int) 0 [] ts ≥ ilv (t : Int) 3 (bump3 l0 l1 l2) ts)) (ilv ((l0 + l1 + l2 + t : Nat) : Int) 0 []) (ilv (t : Int) 3 (bump3 l0 l1 l2)) (rangeKs 1 (wtop ((l0 + l1 + l2 + t : Nat) : Int) [] (t : Int) (bump3 l0 l1 l2)).toNat) =
    (divs n).map (expD ((l0 + l1 + l2 + t : Nat) : Int)) := by
  have key : ∀ j : Nat, 1 ≤ j → (decide (ilv ((l0 + l1 + l2 + t : Nat) : Int) 0 [] (j : Int) ≥ ilv (t : Int) 3 (bump3 l0 l1 l2) (j : Int))) = decide (j ∣ n) := fun j hj => by
    rw [ilv_whole hj]
    obtain ⟨a, b⟩ := level_iff (t := t) H hj
    congr 1
    exact propext ⟨fun h => b.1 (Int.le_antisymm h a), fun h => by rw [b.2 h]; exact Int.le_refl _⟩
  have e1 : (rangeKs 1 (l0 + l1 + l2 + t + 1)).filter (fun ts => decide (ilv ((l0 + l1 + l2 + t : Nat) : Int) 0 [] ts ≥ ilv (t : Int) 3 (bump3 l0 l1 l2) ts)) = divs n := by
    have hle : n ≤ l0 + l1 + l2 + t + 1 := by
      have := Nat.le_of_dvd (by have := H.h0; omega) ((H.dv n).1 (Nat.dvd_refl n)).1
      omega
    rw [filter_range hle _ (fun j hj => by
      rw [key j (by omega)]
      exact decide_eq_false fun h => by have := dvd_small H h; omega)]
    unfold divs
    refine List.filter_congr fun k hk => ?_
    obtain ⟨j, rfl, h1, _⟩ := mem_rangeKs.1 hk
    rw [key j h1, Int.fmod_eq_emod_of_nonneg _ (by omega)]
    congr 1
    exact propext ⟨fun h => by have := Nat.mod_eq_zero_of_dvd h; omega, fun h => Nat.dvd_of_mod_eq_zero (by omega)⟩
  rw [(wtop_eq H).2, witL, e1]
  refine List.map_congr_left fun k hk => ?_
  obtain ⟨j, rfl, h1, _, h3⟩ := mem_divs.1 hk
  rw [witD, expD, ilv_whole h1, (level_iff H h1).2.2 h3]
theorem eq_kept (H : Lens l0 l1 l2 n) : witL (fun ts => decide (ilv (t : Int) 3 (bump3 l0 l1 l2) ts ≠ ilv ((l0 + l1 + l2 + t : Nat) : Int) 0 [] ts)) (ilv (t : Int) 3 (bump3 l0 l1 l2)) (ilv ((l0 + l1 + l2 + t : Nat) : Int) 0 []) (rangeKs 1 (wtop (t : Int) (bump3 l0 l1 l2) ((l0 + l1 + l2 + t : Nat) : Int) []).toNat) =
    ((rangeKs 1 (l0 + l1 + l2 + t + 1)).map (rowD (l0 : Int) (l1 : Int) (l2 : Int) (t : Int) ((l0 + l1 + l2 + t : Nat) : Int))).filter (keepD (divs n)) := by
  rw [(wtop_eq H).1, witL, List.filter_map]
  have e1 : (rangeKs 1 (l0 + l1 + l2 + t + 1)).filter (fun ts => decide (ilv (t : Int) 3 (bump3 l0 l1 l2) ts ≠ ilv ((l0 + l1 + l2 + t : Nat) : Int) 0 [] ts)) =
      (rangeKs 1 (l0 + l1 + l2 + t + 1)).filter (keepD (divs n) ∘ rowD (l0 : Int) (l1 : Int) (l2 : Int) (t : Int) ((l0 + l1 + l2 + t : Nat) : Int)) := by
    refine List.filter_congr fun k hk => ?_
    obtain ⟨j, rfl, h1, _⟩ := mem_rangeKs.1 hk
    rw [ilv_whole h1, Function.comp, rowD_nat h1, keepD]
    have hm : (j : Int) ∈ divs n ↔ j ∣ n := by
      rw [mem_divs]
      exact ⟨fun ⟨i, e, _, _, h⟩ => by
        have : j = i := by omega
        rw [this]; exact h, fun h => ⟨j, rfl, h1, dvd_small H h, h⟩⟩
    have b := (level_iff (t := t) H h1).2
    by_cases h : j ∣ n
    · rw [decide_eq_true (hm.2 h), decide_eq_false (fun q => q (b.2 h))]; rfl
    · rw [decide_eq_false (fun q => h (hm.1 q)), decide_eq_true (show ¬ _ from fun q => h (b.1 q))]; rfl
  rw [e1]
  refine List.map_congr_left fun k hk => ?_
  obtain ⟨j, rfl, h1, _⟩ := mem_rangeKs.1 (List.mem_filter.1 hk).1
  rw [witD, rowD_nat h1, ilv_apart H.h0.1 H.h1.1 H.h2.1 h1, ilv_whole h1]
  congr 4
theorem divs_bd (H : Lens l0 l1 l2 n) : (∀ s ∈ divs n, 0 ≤ s ∧ s ≤ 64) ∧ (divs n).length ≤ 64 ∧ 1 ≤ (divs n).length := by
  have hn := H.hn
  refine ⟨fun s hs => ?_, ?_, ?_⟩
  · obtain ⟨j, rfl, h1, h2, _⟩ := mem_divs.1 hs
    omega
  · have : (divs n).length ≤ (rangeKs 1 n).length := List.length_filter_le _ _
    have e : (rangeKs 1 n).length = n := by simp [rangeKs]
    omega
  · have : (1 : Int) ∈ divs n := mem_divs.2 ⟨1, rfl, Nat.le_refl 1, hn.1, Nat.one_dvd n⟩
    exact List.length_pos_of_mem this
theorem rowD_form {l0 l1 l2 t e : Int} : ∃ f : Int → Int, rowD l0 l1 l2 t e = fun k => .tuple [.int k, .int (f k), .int e] := ⟨_, rfl⟩
theorem lens_of {u r0 r1 r2 : Nat} (hu : 1 ≤ u ∧ u ≤ 3) (h0 : 1 ≤ r0 ∧ r0 ≤ 4) (h1 : 1 ≤ r1 ∧ r1 ≤ 4) (h2 : 1 ≤ r2 ∧ r2 ≤ 4) : Lens (r0 * u) (r1 * u) (r2 * u) (Nat.gcd (Nat.gcd r0 r1) r2 * u) := by
  have bd : ∀ r, 1 ≤ r ∧ r ≤ 4 → 1 ≤ r * u ∧ r * u ≤ 12 := fun r hr => ⟨Nat.mul_pos hr.1 hu.1, Nat.mul_le_mul hr.2 hu.2⟩
  have g0 : 1 ≤ Nat.gcd (Nat.gcd r0 r1) r2 := Nat.gcd_pos_of_pos_right _ h2.1
  have g1 : Nat.gcd (Nat.gcd r0 r1) r2 ≤ r2 := Nat.gcd_le_right _ h2.1
  refine ⟨bd _ h0, bd _ h1, bd _ h2, bd _ ⟨g0, by omega⟩, fun ts => ?_⟩
  rw [← Nat.gcd_mul_right, ← Nat.gcd_mul_right, Nat.dvd_gcd_iff, Nat.dvd_gcd_iff, and_assoc]
end
end Mine
end

section
open PySem PySem.W PyProof.Rows PySem.Calls PyProof.V PySem.Spec
set_option maxRecDepth 100000
set_option linter.unusedVariables false
namespace Mine
theorem part45 : True := by
  k_with_none
  w_top off
  exact True.intro



theorem off_cell {h₀ h : Heap} {L c : Addr} {led : Led} {o : Obj} {v : Option Value} (N : News h₀ L h led) (hm : (c, o) ∈ led) (hd : o.data = .cell v) {l : Led} (hs : ∀ p ∈ l, p ∈ led) (hn : NoCell l) : ∀ p ∈ l, p.1 ≠ c := fun p hp =>
  News.ne_cell (a := p.1) (o1 := p.2) N (hs p hp) hm hd (hn p hp)
theorem noCell_ws (w : World) (a : WsA) : NoCell (wsLed w a) := by
  intro p hp
  simp only [wsLed, List.mem_cons, List.not_mem_nil, or_false] at hp
  rcases hp with rfl | rfl | rfl | rfl <;> (intro v h; cases h)
theorem noCell_app {a b : Led} (h1 : NoCell a) (h2 : NoCell b) : NoCell (a ++ b) := fun p hp => (List.mem_append.1 hp).elim (h1 p) (h2 p)
theorem noCell_cons {p : Addr × Obj} {l : Led} (h : ∀ v, p.2.data ≠ .cell v) (r : NoCell l) : NoCell (p :: l) := fun q hq => by
  rcases List.mem_cons.1 hq with rfl | hq
  · exact h
  · exact r q hq
noncomputable def IsSeq (o : Obj) : Prop := ∃ c vs n, o = { cls := c, data := .seq vs n }
mutual
theorem DatIn.onto {l l' : Led} (hs : ∀ p ∈ l, IsSeq p.2 → p ∈ l') : ∀ {v : Value} {d : Dat}, DatIn l v d → DatIn l' v d
  | _, _, .none => .none
  | _, _, .bool b => .bool b
  | _, _, .int i t => .int i t
  | _, _, .str x t => .str x t
  | _, _, .bytes b t => .bytes b t
  | _, _, .tuple h r => .tuple (hs _ h ⟨_, _, _, rfl⟩) (DatAll.onto hs r)
  | _, _, .list h r => .list (hs _ h ⟨_, _, _, rfl⟩) (DatAll.onto hs r)
theorem DatAll.onto {l l' : Led} (hs : ∀ p ∈ l, IsSeq p.2 → p ∈ l') : ∀ {vs : List Value} {ds : List Dat}, DatAll l vs ds → DatAll l' vs ds
  | _, _, .nil => .nil
  | _, _, .cons a r => .cons (DatIn.onto hs a) (DatAll.onto hs r)
end
theorem ws_seq (w : World) (a : WsA) : ∀ p ∈ wsLed w a, p.2.data ≠ .fields #[] := by
  intro p hp
  simp only [wsLed, List.mem_cons, List.not_mem_nil, or_false] at hp
  rcases hp with rfl | rfl | rfl | rfl <;> (intro h; cases h)
set_option maxHeartbeats 1000000 in
theorem law_all (w : World) (mean : ExcName → Option Value) (mg mb : Str → Option Value) (h₀ : Heap) (L : Addr) (s : Shared) (fa : Addr) (ccd : Value) (A : LawAt w mean mg mb h₀ L) (rs : Addr) (vs : List Value) (ns : List Int) (c1 c2 c3 c4 c5 c6 c7 : Obj)
    (F : Fr h₀ L s.heap (fun y => if y = Str.ofString "script" then some (.ref rs) else none)) (hl : h₀.IsList rs vs.toArray) (hi : IntsAre vs ns) (hz : ns.length ≤ 63)
    (N : News h₀ L s.heap [(L + 1 + 1 + 1 + 1 + 1 + 1 + 1, c1), (L + 1 + 1 + 1 + 1 + 1 + 1, c2), (L + 1 + 1 + 1 + 1 + 1, c3), (L + 1 + 1 + 1 + 1, c4), (L + 1 + 1 + 1, c5), (L + 1 + 1, c6), (L + 1, c7), (153, tabObj #[])])
    (d1 : c1.data = .cell none) (d2 : c2.data = .cell none) (d3 : c3.data = .cell none) (d4 : c4.data = .cell none) (d5 : c5.data = .cell none) (d6 : c6.data = .cell none) (d7 : c7.data = .cell none) (hg : s.gens = #[])
    (Q : Flow → Shared → Prop) (E : Value → Shared → Prop)
    (fin : ∀ (s' : Shared) (m' : Str → Option Value), Fr h₀ L s'.heap m' → GrownAt 153 s'.heap → AllBare s'.gens → s'.os = s.os → Q (.ret (.bool true)) s') :
    wpAny (model pw w) (lawA L fa ccd) (execs q17B (lawEnv L fa ccd)) Q E s := by
  k_with_none
  k_with "my CompEnd" => (k_dflt (refine' comp_end0 ?zF ?zN ?zo ?zs ?_; (case zF => k_asm); (case zN => k_asm); (case zo => assumption); (case zs => lcg_src)))
  k_with "my k_updF" => (refine' UpdF.tail ?a ?b; (case a => (dsimp only; exact News.ne_cell (by assumption) (by k_mem) (by k_mem) (by assumption) (by intro v h; cases h))); (case b => k_updF))
  k_with "my k_all" => first | (with_reducible assumption) | (refine' List.forall_mem_cons.mpr ⟨?a, ?b⟩; (case a => first | k_ne | (dsimp only; exact News.ne_cell (by assumption) (by k_mem) (by k_mem) (by assumption) (by intro v h; cases h))); (case b => k_all))
  have hL := A.hL
  refine law_0 w mean mg mb h₀ L s fa ccd A rs vs ns c1 c2 c3 c4 c5 c6 c7 F hl hi hz N Q E ?_
  intro h1 tk1 rd kd xa xb xc xy ta tb tc ty m1 F1 N1 hrd
  try dsimp only
  refine law_1a w mean mg mb h₀ L _ fa ccd A rs vs ns c1 c2 c3 c4 c5 c6 c7 hl hi hz rd kd xa xb xc xy ta tb tc ty m1 F1 N1 hrd d6 d7 Q E ?_
  intro h2 tk2 m2 ru t1 t2 tt o6 o7 T F2 N2 e6 e7 hT0 hT1
  try dsimp only
  refine law_1b w mean mg mb h₀ L _ fa ccd A _ rd kd xa xb xc xy ta tb tc ty m2 F2 ru t1 t2 o6 N2 e6 Q E ?_
  intro h3 tk3 r4 da db dc k4 ja jb jc wa wb wc m3 F3 N3 ga gb gc
  try dsimp only
  obtain ⟨huok, hU⟩ := unit_ok xy
  have hr0 := reps_bd xa
  have hr1 := reps_bd xb
  have hr2 := reps_bd xc
  generalize letU xy = U at *
  generalize reps xa = i0 at *
  generalize reps xb = i1 at *
  generalize reps xc = i2 at *
  have hlen : ∀ i, 1 ≤ i ∧ i ≤ 4 → 1 ≤ (repU U i).length ∧ (repU U i).length ≤ 12 := fun i h => by
    rw [rep_len]
    exact ⟨Nat.mul_pos h.1 (List.length_pos_iff.2 hU.ne), Nat.mul_le_mul h.2 hU.len⟩
  have N3' : News h₀ L h3 ([(r4, W.listOf #[.ref da, .ref db, .ref dc] k4), (da, W.listOf wa.toArray ja), (db, W.listOf wb.toArray jb), (dc, W.listOf wc.toArray jc), (L + 1 + 1 + 1, c5), (L + 1 + 1, o6), (ru, uObj (unitOf xy) t1 t2), (L + 1, o7), (L + 1 + 1 + 1 + 1, c4), (L + 1 + 1 + 1 + 1 + 1, c3), (L + 1 + 1 + 1 + 1 + 1 + 1, c2), (L + 1 + 1 + 1 + 1 + 1 + 1 + 1, c1), (153, tabObj #[])]) := cb_drop N3 (by kcj_all)
  have off2a : ∀ p ∈ [(ru, uObj (unitOf xy) t1 t2), (L + 1, o7), (L + 1 + 1 + 1 + 1, c4), (L + 1 + 1 + 1 + 1 + 1, c3), (L + 1 + 1 + 1 + 1 + 1 + 1, c2), (L + 1 + 1 + 1 + 1 + 1 + 1 + 1, c1), (153, tabObj #[])], p.1 ≠ L + 1 + 1 + 1 := by k_all
  refine law_2a w mean mg mb h₀ L _ fa ccd A _ U i0 i1 i2 m3 (by have := hlen i0 hr0; omega) (by have := hlen i1 hr1; omega) (by have := hlen i2 hr2; omega) r4 da db dc k4 ja jb jc wa wb wc c5 o6 F3 N3' d5 off2a ga gb gc Q E ?_
  clear N3' off2a
  intro h4 tk4 rn kn na nb nc o5 m4 F4 N4 e5
  try dsimp only
  have N4' : News h₀ L h4 ([(rn, W.listOf #[.int (numR U i0) na, .int (numR U i1) nb, .int (numR U i2) nc] kn), (L + 1 + 1 + 1, o5), (L + 1 + 1, o6), (ru, uObj (unitOf xy) t1 t2), (L + 1, o7), (L + 1 + 1 + 1 + 1, c4), (r4, W.listOf #[.ref da, .ref db, .ref dc] k4), (da, W.listOf wa.toArray ja), (db, W.listOf wb.toArray jb), (dc, W.listOf wc.toArray jc), (L + 1 + 1 + 1 + 1 + 1, c3), (L + 1 + 1 + 1 + 1 + 1 + 1, c2), (L + 1 + 1 + 1 + 1 + 1 + 1 + 1, c1), (153, tabObj #[])]) := cb_drop N4 (by kcj_all)
  have off2b : ∀ p ∈ [(r4, W.listOf #[.ref da, .ref db, .ref dc] k4), (da, W.listOf wa.toArray ja), (db, W.listOf wb.toArray jb), (dc, W.listOf wc.toArray jc), (L + 1 + 1 + 1 + 1 + 1, c3), (L + 1 + 1 + 1 + 1 + 1 + 1, c2), (L + 1 + 1 + 1 + 1 + 1 + 1 + 1, c1), (153, tabObj #[])], p.1 ≠ L + 1 + 1 + 1 + 1 := by k_all
  refine law_2b w mean mg mb h₀ L _ fa ccd A _ (numR U i0) (numR U i1) (numR U i2) T m4 (unitOf xy) huok (numR_nonneg hU _) (numR_nonneg hU _) (numR_nonneg hU _) (numR_lt hU hr0.2) (numR_lt hU hr1.2) (numR_lt hU hr2.2) r4 rn ru kn na nb nc t1 t2 tt c4 o5 o6 o7 F4 N4' d4 e5 e6 e7 off2b Q E ?_
  clear N4' off2b
  intro h5 tk5 rw' kw ra rb rc ka kb kc va vb vc o4 m5 F5 N5 e4 ia ib ic
  try dsimp only
  rw [ltr_rep hU] at ia ib ic
  have N5' : News h₀ L h5 ([(rw', W.listOf #[.ref ra, .ref rb, .ref rc] kw), (ra, W.listOf (List.toArray va) ka), (rb, W.listOf (List.toArray vb) kb), (rc, W.listOf (List.toArray vc) kc), (L + 1 + 1 + 1 + 1, o4), (rn, W.listOf #[.int (numR U i0) na, .int (numR U i1) nb, .int (numR U i2) nc] kn), (L + 1 + 1 + 1, o5), (L + 1 + 1, o6), (ru, uObj (unitOf xy) t1 t2), (L + 1, o7), (L + 1 + 1 + 1 + 1 + 1, c3), (r4, W.listOf #[.ref da, .ref db, .ref dc] k4), (da, W.listOf wa.toArray ja), (db, W.listOf wb.toArray jb), (dc, W.listOf wc.toArray jc), (L + 1 + 1 + 1 + 1 + 1 + 1, c2), (L + 1 + 1 + 1 + 1 + 1 + 1 + 1, c1), (153, tabObj #[])]) := cb_drop N5 (by kcj_all)
  have off3 : ∀ p ∈ [(L + 1 + 1 + 1 + 1 + 1 + 1, c2), (L + 1 + 1 + 1 + 1 + 1 + 1 + 1, c1), (153, tabObj #[])], p.1 ≠ L + 1 + 1 + 1 + 1 + 1 := by k_all
  refine law_3 w mean mg mb h₀ L _ fa ccd A _ U hU i0 i1 i2 hr0 hr1.2 hr2.2 T m5 (unitOf xy) huok r4 rn ru rw' ra rb rc da db dc kn kw ka kb kc k4 ja jb jc va vb vc wa wb wc na nb nc t1 t2 tt c3 o4 o5 o6 o7 F5 N5' d3 e4 e5 e6 e7 off3 ia ib ic ga gb gc Q E ?_
  clear N5' off3
  intro h6 tk6 rl kl vl o3 m6 F6 N6 e3 il
  try dsimp only
  have hx0 := hlen i0 hr0
  have hx1 := hlen i1 hr1
  have hx2 := hlen i2 hr2
  have H := lens_of (u := U.length) (r0 := i0) (r1 := i1) (r2 := i2) ⟨List.length_pos_iff.2 hU.ne, hU.len⟩ hr0 hr1 hr2
  rw [← rep_len, ← rep_len, ← rep_len, ← rep_len] at H
  have hT3 := fm_bd T (k := 3) (by decide)
  clear hr0 hr1 hr2 hlen N1 N2 N3 N4 N5 F1 F2 F3 F4 F5 ga gb gc
  generalize hX0 : repU U i0 = x0 at *
  generalize hX1 : repU U i1 = x1 at *
  generalize hX2 : repU U i2 = x2 at *
  generalize hXL : repU U ((i0.gcd i1).gcd i2) = ls at *
  have N6' : News h₀ L h6 ([(rw', W.listOf #[.ref ra, .ref rb, .ref rc] kw), (ra, W.listOf (List.toArray va) ka), (rb, W.listOf (List.toArray vb) kb), (rc, W.listOf (List.toArray vc) kc), (L + 1 + 1 + 1 + 1, o4), (L + 1, o7), (L + 1 + 1 + 1 + 1 + 1, o3), (rl, W.listOf (List.toArray vl) kl), (L + 1 + 1 + 1 + 1 + 1 + 1, c2), (L + 1 + 1 + 1 + 1 + 1 + 1 + 1, c1), (153, tabObj #[])]) := cb_drop N6 (by kcj_all)
  refine law_4a w mean mg mb h₀ L _ fa ccd A _ x0 x1 x2 T m6 hx0 hx1 hx2 rw' ra rb rc kw ka kb kc va vb vc tt o4 o7 F6 N6' e4 e7 ia ib ic Q E ?_
  clear N6' N6
  intro h7 tk7 aA cA tb7 m7 F7 N7 wsA
  try dsimp only
  refine law_4b w mean mg mb h₀ L _ fa ccd A _ x0 x1 x2 T m7 hx0 hx1 hx2 rw' ra rb rc aA.r kw ka kb kc va vb vc tb7 o4 F7 N7 e4 ia ib ic Q E ?_
  intro h8 tk8 aW cW m8 F8 N8 wsW
  try dsimp only
  obtain ⟨iA, gA, _⟩ := wsA
  obtain ⟨iW, gW, _⟩ := wsW
  generalize ht3 : (T.fmod 3).toNat = t3 at *
  have hT3' : T.fmod 3 = (t3 : Int) := by omega
  have ht2 : t3 ≤ 2 := by omega
  rw [go_apart H.h0.1 H.h1.1 H.h2.1] at gA
  rw [go_whole] at gW
  obtain ⟨rfl, bA, nA, tA⟩ : cA = bump3 x0.length x1.length x2.length ∧ aA.b = (t3 : Int) ∧ aA.n = ((x0.length + x1.length + x2.length + t3 : Nat) : Int) ∧ aA.nt = 3 := by
    have := gA
    simp only [Prod.mk.injEq] at this
    exact ⟨this.1.symm, this.2.1.symm, this.2.2.1.symm, this.2.2.2.symm⟩
  obtain ⟨rfl, bW, nW, tW⟩ : cW = [] ∧ aW.b = ((x0.length + x1.length + x2.length + t3 : Nat) : Int) ∧ aW.n = ((x0.length + x1.length + x2.length + t3 : Nat) : Int) ∧ aW.nt = 0 := by
    have := gW
    simp only [Prod.mk.injEq] at this
    exact ⟨this.1.symm, this.2.1.symm, this.2.2.1.symm, this.2.2.2.symm⟩
  clear gA gW N7 F7 F6
  have N8' : News h₀ L h8 ((rw', W.listOf #[.ref ra, .ref rb, .ref rc] kw) :: (ra, W.listOf (List.toArray va) ka) :: (rb, W.listOf (List.toArray vb) kb) :: (rc, W.listOf (List.toArray vc) kc) :: (L + 1 + 1 + 1 + 1, o4) :: (L + 1, o7) :: (L + 1 + 1 + 1 + 1 + 1 + 1, c2) :: (L + 1 + 1 + 1 + 1 + 1 + 1 + 1, c1) :: (L + 1 + 1 + 1 + 1 + 1, o3) :: (rl, W.listOf (List.toArray vl) kl) :: (153, tabObj #[]) :: (wsLed w aA ++ wsLed w aW)) := cb_drop N8 (by kcj_all)
  have off5 : ∀ p ∈ (L + 1 + 1 + 1 + 1 + 1 + 1 + 1, c1) :: (L + 1 + 1 + 1 + 1 + 1, o3) :: (rl, W.listOf (List.toArray vl) kl) :: (153, tabObj #[]) :: (wsLed w aA ++ wsLed w aW), p.1 ≠ L + 1 + 1 + 1 + 1 + 1 + 1 := by
    refine List.forall_mem_cons.2 ⟨by k_ne, List.forall_mem_cons.2 ⟨by k_ne, ?_⟩⟩
    refine off_cell N8' (.tail _ (.tail _ (.tail _ (.tail _ (.tail _ (.tail _ (.head _))))))) d2 (fun p hp => ?_) (noCell_cons (by intro v h; cases h) (noCell_cons (by intro v h; cases h) (noCell_app (noCell_ws w aA) (noCell_ws w aW))))
    exact .tail _ (.tail _ (.tail _ (.tail _ (.tail _ (.tail _ (.tail _ (.tail _ (.tail _ hp))))))))
  refine law_5 w mean mg mb h₀ L _ fa ccd A _ x0 x1 x2 T m8 aA.r aW.r hx0 hx1 hx2 rw' ra rb rc kw ka kb kc va vb vc tt c2 o4 o7 F8 N8' d2 e4 e7 off5 ia ib ic Q E ?_
  clear N8' off5 N8
  intro h9 tk9 te o2 m9 F9 N9 e2
  try dsimp only
  rw [ht3] at e2
  generalize heE : x0.length + x1.length + x2.length + t3 = e at *
  have he : 1 ≤ e ∧ e ≤ 40 := by omega
  have nc6 : NoCell ((153, tabObj #[]) :: (wsLed w aA ++ wsLed w aW)) := noCell_cons (by intro v h; cases h) (noCell_app (noCell_ws w aA) (noCell_ws w aW))
  refine law_6 w mean mg mb h₀ L _ fa ccd A _ x0 x1 x2 T e he m9 aA.r aW.r hx0 hx1 hx2 rw' ra rb rc kw ka kb kc va vb vc rl vl kl tt te c1 o2 o3 o4 o7 F9 N9 e2 e4 e7 ia ib ic nc6 Q E ?_
  clear N9 F9
  intro h10 tk10 rR vR kR tl m10 F10 N10 sub10 nc10 D10
  try dsimp only
  rw [hT3'] at D10
  have hls : 1 ≤ ls.length ∧ ls.length ≤ 12 := H.hn
  have N10' : News h₀ L h10 ((L + 1 + 1 + 1 + 1 + 1 + 1 + 1, c1) :: (L + 1 + 1 + 1 + 1 + 1, o3) :: (rl, W.listOf (List.toArray vl) kl) :: (L + 1 + 1 + 1 + 1 + 1 + 1, o2) :: (rR, W.listOf (List.toArray vR) kR) :: tl) := cb_drop N10 (by kcj_all)
  have off7 : ∀ p ∈ (rR, W.listOf (List.toArray vR) kR) :: tl, p.1 ≠ L + 1 + 1 + 1 + 1 + 1 + 1 + 1 := off_cell N10' (.head _) d1 (fun p hp => .tail _ (.tail _ (.tail _ (.tail _ hp)))) (noCell_cons (by intro v h; cases h) nc10)
  refine law_7 w mean mg mb h₀ L _ fa ccd A _ ls hls m10 rR aA.r aW.r rl vl kl c1 o2 o3 F10 N10' d1 e3 off7 il Q E ?_
  clear N10' N10 F10 off7
  intro h11 tk11 rv vv kv o1 m11 F11 N11 e1 iv
  try dsimp only
  have hw1A : ∀ p ∈ wsLed w aA, p ∈ (rR, W.listOf (List.toArray vR) kR) :: tl := fun p hp => .tail _ (sub10 p (.tail _ (List.mem_append_left _ hp)))
  have hw1W : ∀ p ∈ wsLed w aW, p ∈ (rR, W.listOf (List.toArray vR) kR) :: tl := fun p hp => .tail _ (sub10 p (.tail _ (List.mem_append_right _ hp)))
  obtain ⟨hks, hds, hne1⟩ := divs_bd H
  have zA : (bump3 x0.length x1.length x2.length).length ≤ 64 := by
    exact Nat.le_trans (bump3_le H).2 (by decide)
  have zW : ([] : List Int).length ≤ 64 := Nat.zero_le _
  have lA : 0 ≤ lon aA.b (bump3 x0.length x1.length x2.length) ∧ lon aA.b (bump3 x0.length x1.length x2.length) ≤ 60 := by
    rw [bA]; exact lon_apart H ht2
  have lW : 0 ≤ lon aW.b [] ∧ lon aW.b [] ≤ 60 := by
    have := lon_whole H ht2
    rw [heE] at this
    rw [bW]; exact this
  have q1 := eq_named (t := t3) H
  have q2 := eq_rows (t := t3) H
  have q3 := eq_kept (t := t3) H
  rw [heE] at q1 q2 q3
  refine law_8 w mean mg mb h₀ L _ fa ccd A _ (divs ls.length) hds e m11 rR rv vv kv te o1 o2 aA aW (bump3 x0.length x1.length x2.length) [] hw1A hw1W iA iW zA zW lA lW (by rw [bA, bW, tA, tW]; exact q1) F11 N11 e1 e2 iv Q E ?_
  clear N11 F11
  intro h12 tk12 rn' vn kn' tl2 m12 F12 N12 sub12 D12
  try dsimp only
  have hTab : (153, tabObj #[]) ∈ tl2 := sub12 _ (.tail _ (sub10 _ (.head _)))
  have on9 : ∀ p ∈ tl2, p.2.data ≠ .fields #[] → p ∈ tl2.filter fun p => decide (p.1 ≠ 153) := fun p hp hd =>
    List.mem_filter.2 ⟨hp, decide_eq_true (ne_153 N12 (.tail _ (.tail _ (.tail _ hTab))) (.tail _ (.tail _ (.tail _ hp))) hd)⟩
  have onS : ∀ p ∈ tl2, IsSeq p.2 → p ∈ tl2.filter fun p => decide (p.1 ≠ 153) := fun p hp ⟨c, vs, n, e⟩ => on9 p hp (by rw [e]; intro h; cases h)
  have hno9 : ∀ p ∈ tl2.filter (fun p => decide (p.1 ≠ 153)), p.1 ≠ 153 := fun p hp => of_decide_eq_true (List.mem_filter.1 hp).2
  have N12' : News h₀ L h12 ((153, tabObj #[]) :: (rn', W.listOf (List.toArray vn) kn') :: (rv, W.listOf (List.toArray vv) kv) :: (L + 1 + 1 + 1 + 1 + 1 + 1 + 1, o1) :: tl2.filter fun p => decide (p.1 ≠ 153)) := fun p hp => by
    rcases List.mem_cons.1 hp with rfl | hp
    · exact N12 _ (.tail _ (.tail _ (.tail _ hTab)))
    · rcases List.mem_cons.1 hp with rfl | hp
      · exact N12 _ (.head _)
      · rcases List.mem_cons.1 hp with rfl | hp
        · exact N12 _ (.tail _ (.head _))
        · rcases List.mem_cons.1 hp with rfl | hp
          · exact N12 _ (.tail _ (.tail _ (.head _)))
          · exact N12 _ (.tail _ (.tail _ (.tail _ (List.mem_filter.1 hp).1)))
  have D12' := Mine.DatAll.onto onS D12
  have D10' : DatAll (tl2.filter fun p => decide (p.1 ≠ 153)) vR _ := Mine.DatAll.onto onS (D10.mono fun p hp => sub12 p (.tail _ hp))
  have hw2A : ∀ p ∈ wsLed w aA, p ∈ tl2.filter fun p => decide (p.1 ≠ 153) := fun p hp => on9 p (sub12 p (hw1A p hp)) (ws_seq w aA p hp)
  have hw2W : ∀ p ∈ wsLed w aW, p ∈ tl2.filter fun p => decide (p.1 ≠ 153) := fun p hp => on9 p (sub12 p (hw1W p hp)) (ws_seq w aW p hp)
  have hrR : (rR, W.listOf (List.toArray vR) kR) ∈ tl2.filter fun p => decide (p.1 ≠ 153) := on9 _ (sub12 _ (.head _)) (by intro h; cases h)
  generalize tl2.filter (fun p => decide (p.1 ≠ 153)) = nw at *
  refine law_9 w mean mg mb h₀ L ⟨h12, s.gens, s.drawn, tk12, s.os⟩ fa ccd A nw (divs ls.length) hds hks hne1 e m12 rn' rR aA.r aW.r rv vv vn kv kn' o1 F12 N12' e1 hno9 hg iv D12' Q E ?_
  clear N12' N12 F12
  intro s13 ps13 m13 F13 N13 G13 os13
  dsimp only at os13
  have hw3A : ∀ p ∈ wsLed w aA, p ∈ (153, tabObj ps13) :: nw := fun p hp => .tail _ (hw2A p hp)
  have hw3W : ∀ p ∈ wsLed w aW, p ∈ (153, tabObj ps13) :: nw := fun p hp => .tail _ (hw2W p hp)
  have D13 := D10'.mono (news' := (153, tabObj ps13) :: nw) fun p hp => .tail _ hp
  have N13' : News h₀ L s13.heap ((rR, W.listOf (List.toArray vR) kR) :: (rv, W.listOf (List.toArray vv) kv) :: (L + 1 + 1 + 1 + 1 + 1 + 1 + 1, o1) :: (153, tabObj ps13) :: nw) := fun p hp => by
    rcases List.mem_cons.1 hp with rfl | hp
    · exact N13 _ (.tail _ (.tail _ (.tail _ hrR)))
    · rcases List.mem_cons.1 hp with rfl | hp
      · exact N13 _ (.tail _ (.head _))
      · rcases List.mem_cons.1 hp with rfl | hp
        · exact N13 _ (.tail _ (.tail _ (.head _)))
        · rcases List.mem_cons.1 hp with rfl | hp
          · exact N13 _ (.head _)
          · exact N13 _ (.tail _ (.tail _ (.tail _ hp)))
  refine law_10 w mean mg mb h₀ L _ fa ccd A _ m13 rR rv vv vR kv kR o1 aA aW (bump3 x0.length x1.length x2.length) [] hw3A hw3W iA iW zA zW lA lW ((rangeKs 1 (e + 1)).map (rowD (x0.length : Int) (x1.length : Int) (x2.length : Int) (t3 : Int) (e : Int))) (fun d hd => by obtain ⟨k, _, rfl⟩ := List.mem_map.1 hd; rfl) (by rw [bA, bW, tA, tW]; exact q2) F13 N13' D13 Q E ?_
  intro h14 tk14 m14 F14 N14
  try dsimp only
  refine law_11 w mean mg mb h₀ L _ fa ccd A _ m14 rR rv vv vR kv kR o1 aA aW (bump3 x0.length x1.length x2.length) [] hw3A hw3W iA iW zA zW lA lW (rangeKs 1 (e + 1)) (divs ls.length) _ (e : Int) (by simp [rangeKs]; omega) (by rw [bA, bW, tA, tW]; exact q3) F14 N14 e1 iv D13 Q E ?_
  intro h15 tk15 m15 F15 N15
  try dsimp only
  refine law_12 w mean mg mb h₀ L _ fa ccd A _ m15 aA aW (bump3 x0.length x1.length x2.length) [] hw3A hw3W iA iW (nA.trans nW.symm) (fun h => by have := congrArg List.length h; rw [bump3_len] at this; simp at this) F15 N15 Q E ?_
  intro h16 tk16 m16 F16 N16
  exact fin _ m16 F16 ⟨ps13, (N16 _ (.head _)).1⟩ G13 os13
end Mine
end

section
open PySem PySem.W PyProof.Rows PySem.Calls PyProof.V PySem.Spec
set_option maxRecDepth 100000
set_option linter.unusedVariables false
namespace Mine
theorem part46 : True := by
  k_with_none
  w_top off
  exact True.intro



theorem pairs_rows {w : World} : ∀ {es : List DictEntry} {rows : List (Int × Str)}, es.map rowOf = rows.map some → ∃ kvs : List (Int × Value), (∀ e ∈ es, ∃ k, (intKind pw w).is k e.key = true ∧ e.hash = (intKind pw w).hash k) ∧ Pairs (intKind pw w) es kvs ∧ kvs.map (·.1) = rows.map (·.1) ∧
    FlatPairs PyData.int kvs (rows.map fun r => (PyData.int r.1, PyData.str r.2))
  | [], [], _ => ⟨[], (fun _ h => nomatch h), .nil, rfl, .nil⟩
  | [], _ :: _, h => by cases h
  | _ :: _, [], h => by cases h
  | e :: es, r :: rows, h => by
    rw [List.map_cons, List.map_cons] at h
    injection h with h1 h2
    obtain ⟨kvs, a, b, c, d⟩ := pairs_rows (w := w) h2
    obtain ⟨g1, t, u, g2, g3⟩ := rowOf_some h1
    refine ⟨(r.1, e.val) :: kvs, ?_, ?_, ?_, ?_⟩
    · intro x hx
      rcases List.mem_cons.1 hx with rfl | hx
      · exact ⟨r.1, by rw [g2]; exact intKind_is pw w _ _, g1⟩
      · exact a x hx
    · exact .cons (by rw [g2]; exact intKind_is pw w _ _) rfl b
    · rw [List.map_cons, List.map_cons, c]
    · rw [List.map_cons]
      refine .cons ?_ d
      rw [g3]
      exact .str _ _
theorem tab_told {w : World} {h : Heap} (hT : ∃ o, TableIs o ∧ h.get? 33 = some o) : IntTab pw w h 33 tabD := by
  obtain ⟨o, ⟨es, ep, rfl, he⟩, hg⟩ := hT
  obtain ⟨kvs, a, b, c, d⟩ := pairs_rows (w := w) he
  refine ⟨by decide, kvs, ⟨_, es, ep, hg, ⟨rfl, rfl, rfl⟩, rfl, fun e h => a e (by simpa using h), b, ?_⟩, by unfold tabD; exact d⟩
  rw [c]
  exact b3rows_nodup
noncomputable abbrev tabs0 : List (Addr × Addr) := [(157, 153)]
theorem tabsAt_of {P : Params} {h : Heap} (X : (KK P).In h) (h153 : h.get? 153 = some (tabObj #[])) : TabsAt tabs0 h := fun q hq => by
  rw [List.mem_singleton.1 hq]
  exact ⟨⟨_, _, _, _, _, _, _, _, _, X 157 (f157 P) rfl, rfl, rfl, rfl, rfl, rfl, rfl, rfl, rfl, by decide⟩, h153⟩
theorem law_only : (recsOf qv).map (·.name) = [Str.ofString "law"] := by rfl
theorem ghost_Top {P : Params} {h : Heap} {mean : ExcName → Option Value} {mg mb : Str → Option Value} (hT : TabsAt tabs0 h) (X : (KK P).In h) (T : Top qv (looseW qv looseV) mean mg mb h) :
    Top qv (looseW qv looseV) mean mg mb (ghostOf h tabs0) where
  g := ghost_ns hT T.g
  b := ghost_ns hT T.b
  nolimit := let ⟨mc, a, r⟩ := T.nolimit; ⟨mc, ghost_ns hT a, r⟩
  nodigits := let ⟨mc, a, r⟩ := T.nodigits; ⟨mc, ghost_ns hT a, r⟩
  fn := fun d hd => by
    obtain ⟨a, o, pm, code, doc, h1, h2, h3, c, oc, vs, t, h4, h5, h6, h7⟩ := T.fn d hd
    refine ⟨a, o, pm, code, doc, h1, ghost_get hT h2 (fun q => by rw [q] at h3; cases h3), h3, c, oc, vs, t, h4, ghost_get hT h5 (fun q => ?_), h6, h7⟩
    rw [q] at h6
    cases h6
    cases h7
  own := fun o ho => absurd (show o ∈ ([] : List OwnSpec) from ho) List.not_mem_nil
  const := T.const
  free := T.free
  builtins := T.builtins
  tab := fun d hd => by
    obtain ⟨a, o, fd, c, P', h1, h2, h3, h4, h5, h6⟩ := T.tab d hd
    have hn : d.name = Str.ofString "law" := by
      have : d.name ∈ (recsOf qv).map (·.name) := List.mem_map_of_mem hd
      rw [law_only] at this
      exact List.mem_singleton.1 this
    have e1 : mg (Str.ofString "law") = some (.ref 203) := mg_of X T.g (by k_is)
    rw [hn, e1] at h1
    cases h1
    rw [X 203 (f203 P) rfl] at h2
    cases h2
    cases h3
    cases h4
    have h6' := h6
    obtain ⟨⟨oc, vs, g1, g2, g3, g4⟩, g5⟩ := h6'
    rw [X 202 (f202 P) rfl] at g1
    cases g1
    cases g3
    have hP : P' ≠ 153 := fun q => by
      rw [q] at g4
      exact absurd g4 (by decide)
    have nb : P' ∉ tabs0.map (·.2) := fun hm => hP (List.mem_singleton.1 hm)
    have kP : ∀ o, h.get? P' = some o → (ghostOf h tabs0).get? P' = some o := fun o e => ghost_ne e nb
    have kc : ∀ o, h.get? 202 = some o → (ghostOf h tabs0).get? 202 = some o := fun o e => ghost_ne e (fun hm => absurd (List.mem_singleton.1 hm) (by decide))
    refine ⟨203, f203 P, _, 202, P', by rw [hn]; exact e1, ghost_get hT (X 203 (f203 P) rfl) (fun q => by cases q), rfl, rfl, h5.at2 kc kP, ?_⟩
    obtain ⟨⟨oc, vs, g1, g2, g3, g4⟩, g5⟩ := h6
    exact ⟨⟨oc, vs, kc _ g1, g2, g3, g4⟩, kP _ g5⟩
  bmain := let ⟨bm, ob, a1, a2, a3, a4, r⟩ := T.bmain; ⟨bm, ob, a1, a2, ghost_get hT a3 (fun q => by rw [q] at a4; cases a4), a4, r⟩
  seer := fun hi => by
    obtain ⟨⟨mc, a1, a2⟩, ⟨mm, b1, b2⟩, ⟨mb', c1, c2⟩, ⟨mg', bm, ob, d1, d2, d3, d4, d5⟩⟩ := T.seer hi
    exact ⟨⟨mc, ghost_ns hT a1, a2⟩, ⟨mm, ghost_ns hT b1, b2⟩, ⟨mb', ghost_ns hT c1, c2⟩, ⟨mg', bm, ob, ghost_ns hT d1, d2, ghost_get hT d3 (fun q => by rw [q] at d4; cases d4), d4, d5⟩⟩
end Mine
end

section
open PySem PySem.W PyProof.Rows PySem.Calls PyProof.V PySem.Spec
set_option maxRecDepth 100000
set_option linter.unusedVariables false
namespace Mine
theorem part47 : True := by
  k_with_none
  w_top off
  exact True.intro



noncomputable def lawD : DefRec := ⟨Str.ofString "law", q17P, q17B, q17S, ((recsOf qv)[0]?.map (·.pos)).getD default⟩
theorem hdef : defOf qv theRow.name = some (lawD, []) := by kernel_rfl
theorem hprog : theRow.prog.theDef theRow.name = some (lawD.params, lawD.body, lawD.scope) := by kernel_rfl
theorem hkw : kwWritten? lawD.params.kwonlyargs lawD.params.kw_defaults = some [] := by kernel_rfl
theorem hprom : lawRow.promised := by w_witness2
theorem law_old {g h : Heap} {L : Addr} {m : Str → Option Value} (hT : TabsAt tabs0 g) (F : Fr (ghostOf g tabs0) L h m) (G : GrownAt 153 h) : OldK g h := by
  have hq := hT (157, 153) (.head _)
  refine ⟨fun b o e => ?_, fun b o e => ?_⟩
  · by_cases hb : b = 153
    · subst hb
      obtain ⟨ps, hP⟩ := G
      have e2 := hq.2
      rw [e] at e2
      cases e2
      exact .inr (.inl ⟨(hq.1.tab hq.2).isCodeTable, rfl, #[], ps, rfl, by rw [Array.empty_append]; exact hP⟩)
    · exact .inl (F.keep b o (ghost_ne e (fun hm => hb (List.mem_singleton.1 hm))))
  · by_cases hb : b = 153
    · subst hb
      obtain ⟨ps, hP⟩ := G
      exact ⟨_, hP⟩
    · exact ⟨o, F.keep b o (ghost_ne e (fun hm => hb (List.mem_singleton.1 hm)))⟩
theorem noTabs_KK (P : Params) : noTabs (KK P) = true := by kernel_rfl
set_option maxHeartbeats 1000000 in
theorem law_walk : WalkO qv looseV (XL qv []) Told2 lawRow lawD [] (fun f vs => PySem.call f vs) := by
  intro w s₀ s₁ mg mb G Y fa o pm cd doc dV kV ho hd hcd hD hmg hg args vals as hpre hlay hrd hwl hlo
  refine Ground.open G ?_
  intro T B D TE TW
  clear B D TE TW G
  wrow_args hpre hlay hrd hwl hlo
  all_goals (
    refine enter_call ?_
    have he := Dflts.none hD rfl; subst he; have he := Dflts.noKw hD; subst he
    refine call_cellsN (by decide) ho (fd_plain hd) (Top.nolimit T) hcd rfl (kinds_of (by kinds_ok)) (by decide) fun h₁ tk₁ cells F N0 X0 => ?_
    cells_open X0)
  rename Heap.IsList _ _ _ => hL
  rename IntsAre _ _ => hI
  rename ¬ _ < _ => hz
  have hT := tabsAt_of Y.1.1 Y.2
  have F' := ghost_fr hT F
  have N' := ghost_news hT F N0
  refine law_all w (ExcName.means s₀.heap) mg mb (ghostOf s₁.heap tabs0) s₁.heap.objs.size { s₁ with heap := h₁, toks := tk₁ } fa cd ?A _ _ _ _ _ _ _ _ _ _ ?F (ghost_list hT hL) hI (by omega) N' (by assumption) (by assumption) (by assumption) (by assumption) (by assumption) (by assumption) (by assumption) hg _ _ ?fin
  case A => exact ⟨tab_told (let ⟨o, a, b⟩ := Y.1.2; ⟨o, a, ghost_get hT b (fun q => by obtain ⟨_, _, rfl, _⟩ := a; cases q)⟩), ghost_K hT Y.1.1 (noTabs_KK _), ghost_Top hT Y.1.1 T, below_caller _, Heap.lt_size Y.2⟩
  case F =>
    exact F'
  case fin =>
    intro s' m' F2 G2 g2 o2
    refine ⟨.inl ⟨_, .bool true, [], rfl, raisesW_false (by wrow_none_raised), ReadsW.bool _, ?_, fun _ => ⟨List.nodup_nil, fun _ hm => (nomatch hm)⟩⟩, law_old hT F2 G2, o2, g2⟩
    wrow_post
theorem the_holds (said : theRow.wellSaid = true) : theRow.Holds := holds_of_walk2 said hprom hdef hprog hkw law_walk
end Mine
end

theorem PySem.Challenge.cw_ta0082_01_holds : PySem.Challenge.rw_ta0082_01.Holds := by
  exact holds_law (by kernel_rfl) Mine.the_holds
