import PyProof.Rows.All
import Wide.All
import OpenK.AllK
import Wide.FinOn
import PySem.Challenge.RW_ij0068_01
set_option Elab.async false

open PySem PySem.W PyProof.Rows
namespace Mine
set_option maxRecDepth 100000 in
set_option maxHeartbeats 8000000 in
open_top hd for PySem.Challenge.rw_ij0068_01
end Mine

namespace Mine
open PySem PySem.W PySem.Calls PyProof.Rows

section
variable {M : Model} {A : Around} {R : GenEnd} {Y : Protocol} {n : Nat} {s₀ : Shared} {c : Code} {fs : List Frame} {s : Shared} {env : Env}
  {K : Flow → Sem Fin} {H : Value → Sem Fin} {gd : Bool → Bool} {lv : List Value → List Value}

/-- what stands behind a `for` in a generator's frame -/
def forBack (env : Env) (K : Flow → Sem Fin) (H : Value → Sem Fin) (gd : Bool → Bool) (lv : List Value → List Value) (r : Result) : Sem Fin :=
  ((match r with | .ok f => (.pure f : Sem Flow) | .error e => .raise e).onRaise fun (x : Value) => do
        if (← field x 1) == Value.none then unsupported "frame.own-activation:exception-without-traceback"
        setFlight x env.frame).wrap K H gd lv

theorem forBack_ok (f : Flow) : forBack env K H gd lv (.ok f) = K f := rfl

theorem seg_for {target iter : Expr} {body : List Stmt} {pos : Pos}
    (hs : ∀ x, foldedSetIterable iter env x = pure x)
    (h : wpAny M (A.over c fs) (eval iter env) (fun xv s₁ => wpAny M (A.over c fs) (pyIter xv) (fun it s₂ => ∀ p, Seg M A R Y n s₀ (.forLoop target it body [] env) (M.den (.forLoop target it body [] env))
        (.ret (forBack env K H gd lv) none (gd false) (lv []) c p [] :: fs) s₂) (fun x s' => Seg M A R Y n s₀ c (H x) fs s') s₁) (fun x s' => Seg M A R Y n s₀ c (H x) fs s') s) :
    Seg M A R Y n s₀ c ((exec (.For target iter body [] pos) env).wrap K H gd lv) fs s := by
  have e : exec (.For target iter body [] pos) env = (do
      standAt pos
      let x ← foldedSetIterable iter env (← eval iter env)
      standAt iter.pos
      runOwn (.forLoop target (← holding [x] (pyIter x)) body [] env) env) := rfl
  rw [e]
  refine seg_bind_wrap (wpAny_standAt ?_)
  refine seg_bind_wrap (wpAny_mono h (fun xv s₁ h₁ => ?_) fun _ _ x => x)
  refine seg_bind_wrap (wpAny_of_eq (hs xv) ?_)
  refine seg_bind_wrap (wpAny_standAt ?_)
  refine seg_bind_wrap (wpAny_holding (wpAny_mono h₁ (fun it s₂ h₂ => ?_) fun _ _ x => x))
  exact seg_call h₂

theorem seg_if {test : Expr} {body orelse : List Stmt} {pos : Pos}
    (h : wpAny M (A.over c fs) (isTrue test env (eval test env)) (fun b s₁ => if b = true then Seg M A R Y n s₀ c ((execs body env).wrap K H gd lv) fs s₁
      else Seg M A R Y n s₀ c ((execs orelse env).wrap K H gd lv) fs s₁) (fun x s' => Seg M A R Y n s₀ c (H x) fs s') s) :
    Seg M A R Y n s₀ c ((exec (.If test body orelse pos) env).wrap K H gd lv) fs s := by
  rw [exec_If]
  refine seg_bind_wrap (wpAny_standAt ?_)
  refine seg_bind_wrap (wpAny_mono h (fun b s₁ h₁ => ?_) fun _ _ x => x)
  cases b with
  | true => rw [if_pos rfl] at h₁ ⊢; exact h₁
  | false => rw [if_neg Bool.false_ne_true] at h₁ ⊢; exact h₁

theorem seg_plain {st : Stmt}
    (h : wpAny M (A.over c fs) (exec st env) (fun f s₁ => Seg M A R Y n s₀ c (K f) fs s₁) (fun x s' => Seg M A R Y n s₀ c (H x) fs s') s) :
    Seg M A R Y n s₀ c ((exec st env).wrap K H gd lv) fs s := seg_wrap h
end

section
variable {prog : Program} {w : World} {A : Around} {R : GenEnd} {Y : Protocol} {n : Nat} {s₀ : Shared} {fs : List Frame} {s : Shared} {env : Env}

/-- behind a turn's body -/
def turnBack (target : Expr) (it : Value) (body : List Stmt) (env : Env) (f : Flow) : Sem Fin := match f with
  | .next | .cont => .pure (.again (.forLoop target it body [] env))
  | .brk => .pure (.done .next)
  | .ret v => .pure (.done (.ret v))

theorem seg_turn {x : Str} {px : Pos} {it : Value} {body : List Stmt} {H' : Value → Sem Fin}
    (hH : H' = fun e => (do noteFrame e env; theTreesLotGoes e : Sem Unit).wrap (fun _ => .raise e) .raise id id)
    (h : wpAny (model prog w) (A.over (.forLoop (.Name x px) it body [] env) fs) (pyNext it) (fun r s₁ => match r with
        | none => Seg (model prog w) A R Y n s₀ (.forLoop (.Name x px) it body [] env) (.pure (.again (.block [] env))) fs s₁
        | some v => wpAny (model prog w) (A.over (.forLoop (.Name x px) it body [] env) fs) (storeName env x v) (fun _ s₂ =>
            Seg (model prog w) A R Y n s₀ (.forLoop (.Name x px) it body [] env) ((execs body env).wrap (turnBack (.Name x px) it body env) H' id id) fs s₂)
            (fun e s' => False) s₁) (fun e s' => False) s) :
    Seg (model prog w) A R Y n s₀ (.forLoop (.Name x px) it body [] env) ((model prog w).den (.forLoop (.Name x px) it body [] env)) fs s := by
  show Seg _ A R Y n s₀ _ ((forTurn (.Name x px) it body [] env).onRaise (fun x => do noteFrame x env; theTreesLotGoes x)) fs s
  have e : forTurn (.Name x px) it body [] env = (do
      standAt px
      match ← (pyNext it).onRaise (fun _ => standAt { px with line := 0 }) with
      | none => again (.block [] env)
      | some v =>
        letOwnedTupleGo (.Name x px) it v
        assign (.Name x px) env v
        match ← execs body env with
        | .next | .cont => again (.forLoop (.Name x px) it body [] env)
        | .brk => pure (.done .next)
        | .ret v => pure (.done (.ret v))) := rfl
  rw [e, Sem.onRaise_eq_wrap]
  refine seg_bind_wrap (wpAny_standAt ?_)
  refine seg_bind_wrap (wpAny_onRaise (wpAny_mono h (fun r s₁ h₁ => ?_) fun _ _ x => x.elim))
  cases r with
  | none => exact h₁
  | some v =>
    refine seg_bind_wrap (wpAny_of_eq (rfl : letOwnedTupleGo (.Name x px) it v = pure ()) ?_)
    refine seg_bind_wrap (wpAny_assign_Name (wpAny_mono h₁ (fun _ s₂ h₂ => ?_) fun _ _ x => x.elim))
    rw [Sem.bind_eq_wrap', Sem.wrap_wrap]
    rw [hH] at h₂
    rw [Sem.wrap_congr (execs body env) _ _ (K' := turnBack (.Name x px) it body env) (H' := fun e => (do noteFrame e env; theTreesLotGoes e : Sem Unit).wrap (fun _ => .raise e) .raise id id)
      (fun f => by cases f <;> rfl) (fun e => by first | exact Sem.bind_eq_wrap _ _ | (show (do noteFrame e env; theTreesLotGoes e : Sem Unit).bind (fun _ => .raise e) = _; rw [Sem.bind_eq_wrap]))]
    exact h₂

theorem seg_block_nil {k h g l c₁ p₁ kp} {c : Code} (hk : Seg (model prog w) A R Y n s₀ c₁ (k (.ok .next)) fs s) :
    Seg (model prog w) A R Y n s₀ c (.pure (.again (.block [] env))) (.ret k h g l c₁ p₁ kp :: fs) s := by
  refine seg_again rfl ?_
  show Seg _ A R Y n s₀ _ ((do return .done (← (execs [] env).onRaise (fun x => do noteFrame x env; theTreesLotGoes x)) : Sem Fin)) _ s
  exact seg_leaf (.ok .next) hk
end
end Mine

namespace Mine
open PySem PySem.W PySem.Calls PyProof.Rows

/-- from one state to a later one: what was there below `N` stands, but for the generator's locals `C` and the slots of the caller's frame `L` -/
structure Mv (N C L g : Nat) (s s' : Shared) : Prop where
  old : ∀ b o, b < N → b ≠ C → b ≠ L → s.heap.get? b = some o → s'.heap.get? b = some o
  loc : ∀ m, s.heap.Ns L m → s'.heap.Ns L m
  gens : GenOnly g s.gens s'.gens
  os : s'.os = s.os

theorem Mv.refl {N C L g : Nat} {s : Shared} : Mv N C L g s s := ⟨fun _ _ _ _ _ e => e, fun _ h => h, ⟨rfl, fun _ _ => rfl⟩, rfl⟩
theorem Mv.trans {N C L g : Nat} {s s' s'' : Shared} (x : Mv N C L g s s') (y : Mv N C L g s' s'') : Mv N C L g s s'' :=
  ⟨fun b o h1 h2 h3 e => y.old b o h1 h2 h3 (x.old b o h1 h2 h3 e), fun m h => y.loc m (x.loc m h), x.gens.trans y.gens, y.os.trans x.os⟩
theorem Mv.heap {N C L g : Nat} {s : Shared} {h' : Heap} {tk : Nat} (k : ∀ b o, b < N → s.heap.get? b = some o → h'.get? b = some o) (hL : L < N) : Mv N C L g s { s with heap := h', toks := tk } :=
  ⟨fun b o h1 _ _ e => k b o h1 e, fun _ h => let ⟨o, es, ep, e, r⟩ := h; ⟨o, es, ep, k L o hL e, r⟩, ⟨rfl, fun _ _ => rfl⟩, rfl⟩

structure Feeds (prog : Program) (w : World) (A : Around) (a S N C L g n : Nat) (P : Nat → Value → Prop) (St : Nat → Shared → Prop) : Prop where
  gen : ∀ i s, St i s → s.heap.IsGen a g
  frame : ∀ i (s : Shared) h', St i s → (∀ b o, b ≠ S → s.heap.get? b = some o → h'.get? b = some o) → (h'.get? S).isSome = true → St i { s with heap := h' }
  item : ∀ i (s : Shared) (Q : Option Value → Shared → Prop) (E : Value → Shared → Prop), i < n → St i s → (s.heap.get? S).isSome = true →
    (∀ v s', P i v → St (i + 1) s' → Mv N C L g s s' → (∀ o, s.heap.get? S = some o → s'.heap.get? S = some o) → Q (some v) s') → wpAny (model prog w) A (pyNext (.ref a)) Q E s
  done : ∀ (s : Shared) (Q : Option Value → Shared → Prop) (E : Value → Shared → Prop), St n s → (s.heap.get? S).isSome = true →
    (∀ s', Mv N C L g s s' → (∀ o, s.heap.get? S = some o → s'.heap.get? S = some o) → s'.gens[g]? = some .finished → Q none s') → wpAny (model prog w) A (pyNext (.ref a)) Q E s

abbrev lob (acc : Array Value) (c : Nat) : Obj := { cls := .type "list", dict := none, data := .seq acc c, slots := #[] }

section
variable {prog : Program} {w : World} {A : Around} {R : Result → Shared → Prop} {a S N C L g n : Nat} {P : Nat → Value → Prop} {St : Nat → Shared → Prop}

theorem feed_loop (F : Feeds prog w A.in1 a S N C L g n P St) (hNS : N ≤ S) (hL : L < N) (hn : n ≤ sizeLine) (res : Value) : ∀ (k i : Nat) (s : Shared) (acc : Array Value) (c : Nat), n - i = k → i ≤ n → St i s →
    s.heap.get? S = some (lob acc c) → ItemsOf P acc i →
    (∀ s' acc' c', Mv N C L g s s' → s'.heap.get? S = some (lob acc' c') → ItemsOf P acc' n → s'.gens[g]? = some .finished → R (.ok (.ret res)) s') →
    codeAny (model prog w) A (.builtin "list.extend.loop" ⟨[.ref S, .ref a, res], []⟩) R s := by
  intro k
  induction k with
  | zero =>
    intro i s acc c hk hi hst hS hacc hR
    obtain rfl : i = n := by omega
    refine codeAny_builtin PySem.F.entry_extend_loop ?_
    rw [Around.under_plainId PySem.F.plain_extend_loop _]
    show wpAny _ A.in1 (pyNext (.ref a) >>= _) _ _ s
    refine wpAny_bind (F.done s _ _ hst (by rw [hS]; rfl) fun s' hm hS' hg => ?_)
    exact wpAny_pure (hR s' acc c hm (hS' _ hS) hacc hg)
  | succ k ih =>
    intro i s acc c hk hi hst hS hacc hR
    have hlt : i < n := by omega
    refine codeAny_builtin PySem.F.entry_extend_loop ?_
    rw [Around.under_plainId PySem.F.plain_extend_loop _]
    show wpAny _ A.in1 (pyNext (.ref a) >>= _) _ _ s
    refine wpAny_bind (F.item i s _ _ hlt hst (by rw [hS]; rfl) fun v s' hP hst' hm hkS => ?_)
    have hS' := hkS _ hS
    show wpAny _ A.in1 (updateSeq S (·.push v) >>= _) _ _ _
    have oth : ∀ b o, b ≠ S → s'.heap.get? b = some o → (s'.heap.update S (Obj.mapSeq (·.push v))).get? b = some o :=
      fun b o hb e => (Heap.get?_update_other _ _ (Ne.symm hb)).trans e
    have hself := Heap.get?_update_self (Obj.mapSeq (·.push v)) hS' rfl
    refine wpAny_bind ?_
    refine wpAny_updateSeq hS' rfl (wpAny_pure ⟨plainId_quiet PySem.F.plain_extend_loop _, ih (i + 1) _ (acc.push v) _ (by omega) hlt
      (F.frame (i + 1) s' _ hst' oth (by rw [hself]; rfl)) hself (hacc.push hP) fun s'' acc' c' hm'' hS'' hacc' hg => ?_⟩)
      (by rw [hacc.1]; omega) (by show (acc.push v).size ≤ sizeLine + 1; rw [Array.size_push, hacc.1]; omega)
    exact hR s'' acc' c' ((hm.trans (Mv.heap (tk := s'.toks) (fun b o hb e => oth b o (by omega) e) hL)).trans hm'') hS'' hacc' hg

theorem feed_init (F : Feeds prog w A.in1 a S N C L g n P St) (hNS : N ≤ S) (hL : L < N) (hn : n ≤ sizeLine) (haS : a ≠ S) {s : Shared} (hst : St 0 s) (hS : s.heap.get? S = some (lob #[] 0))
    (hR : ∀ s' acc' c', Mv N C L g s s' → s'.heap.get? S = some (lob acc' c') → ItemsOf P acc' n → s'.gens[g]? = some .finished → R (.ok (.ret .none)) s') :
    wpAny (model prog w) A.in1 (Builtin.«list.__init__» ⟨[.ref S, .ref a], []⟩)
      (fun fin s' => match fin with | .done f => R (.ok f) s' | .again c' => c'.quiet = true ∧ codeAny (model prog w) A c' R s') (fun e s' => R (.error e) s') s := by
  show wpAny _ A.in1 (do let old ← Builtin.List.listItems (.ref S); Builtin.List.listUpdate (.ref S) (fun _ => #[]); letGo old.toList.reverse; Builtin.List.listExtendWith (.ref S) (.ref a) .none) _ _ s
  refine wpAny_bind ?_
  unfold Builtin.List.listItems
  refine wpAny_bind (wpAny_seqItems hS rfl (wpAny_pure ?_))
  show wpAny _ A.in1 (updateSeq S (fun _ => #[]) >>= fun _ => letGo (#[] : Array Value).toList.reverse >>= fun _ => Builtin.List.listExtendWith (.ref S) (.ref a) .none) _ _ s
  have up : ∀ (h : Heap) (f : Array Value → Array Value) b o, b ≠ S → h.get? b = some o → (h.update S (Obj.mapSeq f)).get? b = some o := fun h f b o hb e => (Heap.get?_update_other _ _ (Ne.symm hb)).trans e
  refine wpAny_bind (wpAny_updateSeq hS rfl ?_)
  have hS1 := Heap.get?_update_self (Obj.mapSeq (fun _ => (#[] : Array Value))) hS rfl
  have st1 := F.frame 0 s _ hst (up s.heap (fun _ => #[])) (by rw [hS1]; rfl)
  refine wpAny_bind (wpAny_letGo ?_)
  unfold Builtin.List.listExtendWith
  refine wpAny_bind (wpAny_typeOf (F.gen 0 _ st1).typeIs ?_)
  have h1 : Builtin.List.listSameRef (.ref S) (.ref a) = false := by simp [Builtin.List.listSameRef, Ne.symm haS]
  have h2 : (Value.type "generator" == Value.type "list") = false := by decide
  have h3 : (Value.type "generator" == Value.type "tuple") = false := by decide
  simp only [h1, h2, h3, Bool.or_false, Bool.false_eq_true, if_false]
  refine wpAny_bind (wpAny_pyIter_gen (F.gen 0 _ st1) ?_)
  refine wpAny_bind (wpAny_holding ?_)
  unfold Builtin.List.listLengthHint
  refine wpAny_bind (wpAny_specialOf (F.gen 0 _ st1).typeIs PySem.F.gen_no_len ?_)
  show wpAny _ A.in1 (specialOf (Value.ref a) (Str.ofString "__length_hint__") >>= _) _ _ _
  refine wpAny_bind (wpAny_specialOf (F.gen 0 _ st1).typeIs PySem.F.gen_no_hint ?_)
  refine wpAny_pure ?_
  show wpAny _ A.in1 (rule "list.extend.makes-room" >>= fun _ => Builtin.List.listTouch (.ref S) >>= fun _ =>
    again (.builtin "list.extend.loop" ⟨[.ref S, .ref a, .none], []⟩)) _ _ _
  refine wpAny_bind (wpAny_rule ?_)
  refine wpAny_bind ?_
  show wpAny _ A.in1 (updateSeq S (·.push .none) >>= fun _ => updateSeq S (·.pop)) _ _ _
  refine wpAny_bind (wpAny_updateSeq hS1 rfl ?_)
  have hS2 := Heap.get?_update_self (Obj.mapSeq (·.push Value.none)) hS1 rfl
  refine wpAny_updateSeq (hz := by seq_fits) hS2 rfl ?_
  have hS3 := Heap.get?_update_self (Obj.mapSeq (·.pop)) hS2 rfl
  have k : ∀ b o, b ≠ S → s.heap.get? b = some o → ((((s.heap.update S (Obj.mapSeq (fun _ => (#[] : Array Value)))).update S (Obj.mapSeq (·.push Value.none)))).update S (Obj.mapSeq (·.pop))).get? b = some o :=
    fun b o hb e => up _ _ b o hb (up _ _ b o hb (up _ _ b o hb e))
  refine wpAny_pure ⟨plainId_quiet PySem.F.plain_extend_loop _, feed_loop F hNS hL hn _ n 0 _ #[] _ rfl (Nat.zero_le _) (F.frame 0 s _ hst k (by rw [hS3]; rfl)) hS3 (ItemsOf.nil P)
    fun s' acc' c' hm hS' hacc hg => hR s' acc' c' ((Mv.heap (tk := s.toks) (fun b o hb e => k b o (by omega) e) hL).trans hm) hS' hacc hg⟩

end

section
variable {prog : Program} {w : World} {A : Around} {E : Value → Shared → Prop} {s : Shared} {a N C L g n : Nat} {P : Nat → Value → Prop} {St : Nat → Shared → Prop}

theorem feed_list {Q : Value → Shared → Prop} (F : Feeds prog w A.in1.in1 a s.heap.objs.size N C L g n P St) (hN : N ≤ s.heap.objs.size) (hL : L < N) (hn : n ≤ sizeLine) (haS : a ≠ s.heap.objs.size)
    (hst : ∀ s₁ : Shared, s₁ = { s with heap := s.heap.push (lob #[] 0) } → St 0 s₁)
    (hQ : ∀ s' acc' c', Mv N C L g s s' → s'.heap.get? s.heap.objs.size = some (lob acc' c') → ItemsOf P acc' n → s'.gens[g]? = some .finished → Q (.ref s.heap.objs.size) s') :
    wpAny (model prog w) A (call (.type "list") [.ref a]) Q E s := by
  refine callType_codes (Q₁ := fun obj s₁ => obj = .ref s.heap.objs.size ∧ s₁ = { s with heap := s.heap.push (lob #[] 0) }) PySem.F.called_list (PySem.F.typeCall_list_1 _) PySem.F.entry_list_init
    (code_list_new _ ⟨rfl, rfl⟩) fun obj s₁ h₁ => ?_
  obtain ⟨rfl, rfl⟩ := h₁
  have hS : (s.heap.push (lob #[] 0)).get? s.heap.objs.size = some (lob #[] 0) := Heap.get?_push_size _ rfl
  refine ⟨⟨_, hS, rfl⟩, PySem.F.args_list_init_2 _ _, feed_init F hN hL hn haS (hst _ rfl) hS fun s' acc' c' hm hS' hacc hg => ?_⟩
  exact ⟨rfl, hQ s' acc' c' ((Mv.heap (tk := s.toks) (fun b o _ e => Heap.get?_push_of_some _ e) hL).trans hm) hS' hacc hg⟩
end
end Mine

namespace Mine
open PySem PySem.W PySem.Calls PyProof.Rows
set_option maxRecDepth 100000

abbrev bmObj (id : String) (D : Addr) : Obj := { cls := .type "builtin_function_or_method", data := .fields #[.builtin id, .ref D] }

theorem slot_md_get : Slot "method_descriptor" "__get__" "method_descriptor.__get__" :=
  .of (owner := "method_descriptor") (n := "__get__") (by rw [typeLookup_type, builtinLookup_eq_fast]; kernel_rfl) (by decide +kernel) (by decide +kernel) (by decide +kernel)
    (by first | exact .inl (by decide +kernel) | exact .inr (by decide +kernel)) (by rw [isSubtype_type]; kernel_rfl)
theorem entry_md_get : entryFor table "method_descriptor.__get__" = some Builtin.«method_descriptor.__get__» := entryFor_of_tree (by kernel_rfl)
theorem args_md_get (a b c : Value) : argsOk "method_descriptor.__get__" ⟨[a, b, c], []⟩ := by unfold argsOk; kernel_rfl
theorem md_set_none : typeLookup (.type "method_descriptor") "__set__" = pure none := by rw [typeLookup_type, builtinLookup_eq_fast]; kernel_rfl
theorem md_del_none : typeLookup (.type "method_descriptor") "__delete__" = pure none := by rw [typeLookup_type, builtinLookup_eq_fast]; kernel_rfl
theorem type_set_contains : typeOf (.builtin "set.__contains__") = pure (.type "method_descriptor") := by show builtinType _ = _; rw [builtinType_eq_fast]; kernel_rfl
theorem sub_set_set : isSubtype (.type "set") (.type "set") = pure true := by rw [isSubtype_type]; kernel_rfl
theorem set_getattr_none : typeLookup (.type "set") "__getattr__" = pure none := by rw [typeLookup_type, builtinLookup_eq_fast]; kernel_rfl

/-- a name of a method of set -/
structure SetMeth (name : Str) (id : String) : Prop where
  slot : Slot "set" name id
  type : typeOf (.builtin id) = pure (.type "method_descriptor")
  told : Manifest.toldItsClass.contains id = false
  owner : ".".intercalate (id.cutAt '.').dropLast = "set"
  copied : (["__module__", "__name__", "__qualname__", "__doc__", "__annotations__"] : List Str).contains name = false

theorem setMeth_add : SetMeth "add" "set.add" := ⟨PySem.F.slot_set_add, PySem.F.type_set_add, by decide +kernel, by decide +kernel, by decide +kernel⟩
theorem setMeth_contains : SetMeth "__contains__" "set.__contains__" := ⟨PySem.F.slot_set_contains, type_set_contains, by decide +kernel, by decide +kernel, by decide +kernel⟩

section
variable {prog : Program} {w : World} {A : Around} {E : Value → Shared → Prop} {h : Heap} {g : Array GenState} {d : Drawn} {t : Nat} {os : OsState} {D : Addr} {o : Obj} {name : Str} {id : String}

theorem md_get {R : Result → Shared → Prop} (S : SetMeth name id) (hx : h.get? D = some o) (hc : o.cls = .type "set")
    (hq : R (.ok (.ret (.ref h.objs.size))) ⟨h.push (bmObj id D), g, d, t, os⟩) :
    codeAny (model prog w) A (.call (.builtin "method_descriptor.__get__") ⟨[.builtin id, .ref D, .type "set"], []⟩) R ⟨h, g, d, t, os⟩ := by
  have hT : (⟨h, g, d, t, os⟩ : Shared).TypeIs (.ref D) "set" := ⟨_, hx, hc⟩
  have hT5 : (⟨h, g, d, t, os⟩ : Shared).TypeIs (.builtin id) "method_descriptor" := S.type
  have f1 := S.told
  have f2 : isSubtype (.type "set") (.type (".".intercalate (id.cutAt '.').dropLast)) = pure true := by rw [S.owner]; exact sub_set_set
  refine codeAny_call_builtin slot_md_get.plain entry_md_get (slot_md_get.check _ _ _ _ _ _ _ _ hT5 (args_md_get _ _ _) ?_)
  repeat (any_goals (first | assumption | wp_step))
  rw [if_neg (by rw [f1]; exact Bool.false_ne_true)]
  repeat (any_goals (first | assumption | wp_step))

theorem ga_set {tk : Tok} {R : Result → Shared → Prop} {es : Array (Int × Value)} {ep : Nat} {tb : SetTable} (S : SetMeth name id)
    (hx : h.get? D = some { cls := .type "set", dict := none, data := .set es ep tb, slots := #[] })
    (hq : R (.ok (.ret (.ref h.objs.size))) ⟨h.push (bmObj id D), g, d, t, os⟩) :
    codeAny (model prog w) A (.call (.builtin "set.__getattribute__") ⟨[.ref D, .str name tk], []⟩) R ⟨h, g, d, t, os⟩ := by
  have hT : (⟨h, g, d, t, os⟩ : Shared).TypeIs (.ref D) "set" := ⟨_, hx, rfl⟩
  have f4 := S.slot.lookup
  have f5 := S.type
  have f6 := slot_md_get.lookup
  have f7 := md_set_none
  have f8 := md_del_none
  have f9 := S.copied
  refine codeAny_call_builtin PySem.F.slot_set_getattribute.plain PySem.F.entry_set_ga (PySem.F.slot_set_getattribute.check _ _ _ _ _ _ _ _ hT (PySem.F.args_set_getattribute_2 _ _) ?_)
  unfold Builtin.«object.__getattribute__»
  repeat (any_goals (first | assumption | wp_step))
  simp only [f9, Bool.false_eq_true, if_false]
  repeat (any_goals (first | assumption | wp_step))
  exact md_get S hx rfl (wpAny_pure hq)

theorem getAttr_set {Q : Value → Shared → Prop} {es : Array (Int × Value)} {ep : Nat} {tb : SetTable} (S : SetMeth name id)
    (hx : h.get? D = some { cls := .type "set", dict := none, data := .set es ep tb, slots := #[] })
    (hid : (withoutEnding? id "#data").isSome = false)
    (hq : Q (.ref h.objs.size) ⟨h.push (bmObj id D), g, d, t + 1, os⟩) :
    wpAny (model prog w) A (getAttr (.ref D) name true) Q E ⟨h, g, d, t, os⟩ := by
  have hT : ∀ t, (⟨h, g, d, t, os⟩ : Shared).TypeIs (.ref D) "set" := fun t => ⟨_, hx, rfl⟩
  have hT1 := hT (t + 1)
  have f2 := PySem.F.slot_set_getattribute.lookup
  have f3 := PySem.F.slot_set_getattribute.bind (.ref D)
  unfold getAttr getAttrBy
  refine wpAny_bind (wpAny_mkText ?_)
  repeat (any_goals (first | assumption | wp_step))
  refine ga_set S hx ?_
  repeat (any_goals (first | assumption | wp_step))

/-- the check of a bound method's arguments -/
def boundOk (id : String) (args : Args) : Prop := (match Manifest.signature? id with | some sig => Bind.checkArgs id { sig with full := s!"{Bind.lastOf "set"}.{Bind.lastOf id}" } args | none => pure ()) = (pure () : Sem Unit)
theorem boundOk_add (a b : Value) : boundOk "set.add" ⟨[a, b], []⟩ := by unfold boundOk; kernel_rfl
theorem boundOk_contains (a b : Value) : boundOk "set.__contains__" ⟨[a, b], []⟩ := by unfold boundOk; kernel_rfl
theorem sub_set_module : isSubtype (.type "set") (.type "module") = pure false := by rw [isSubtype_type]; kernel_rfl
theorem sub_set_type : isSubtype (.type "set") (.type "type") = pure false := by rw [isSubtype_type]; kernel_rfl
theorem bkind_add : builtinKind "set.add" = some .method := by decide +kernel
theorem bkind_contains : builtinKind "set.__contains__" = some .method := by decide +kernel
theorem vararg_add : Manifest.varargsMethods.contains "set.add" = false := by decide +kernel
theorem vararg_contains : Manifest.varargsMethods.contains "set.__contains__" = false := by decide +kernel

theorem bound_call {v : Value} {R : Result → Shared → Prop} {s : Shared} {m D : Addr} {id : String} {b : Builtin} {es : Array (Int × Value)} {ep : Nat} {tb : SetTable} (hm : s.heap.get? m = some (bmObj id D)) (hx : s.heap.get? D = some { cls := .type "set", dict := none, data := .set es ep tb, slots := #[] }) (hk : builtinKind id = some .method)
    (hv : Manifest.varargsMethods.contains id = false) (hok : boundOk id ⟨[.ref D, v], []⟩) (hpl : plainId id = true) (he : entryFor table id = some b)
    (h : wpAny (model prog w) A.in1 (b ⟨[.ref D, v], []⟩) (fun fin s' => match fin with | .done f => R (.ok f) s' | .again c' => c'.quiet = true ∧ codeAny (model prog w) A c' R s') (fun e s' => R (.error e) s') s) :
    codeAny (model prog w) A (.call (.ref m) ⟨[v], []⟩) R s := by
  have f1 := sub_set_module
  have hD : s.TypeIs (.ref D) "set" := ⟨_, hx, rfl⟩
  refine codeAny_of_tree ?_
  show wpAny _ _ (callAny (.ref m) _) _ _ s
  simp only [callAny]
  refine wpAny_bind (wpAny_load hm ?_)
  show wpAny _ _ (checkBoundCall id ⟨[.ref D, v], []⟩ >>= fun _ => again (.builtin id ⟨[.ref D, v], []⟩)) _ _ s
  have fin : wpAny (model prog w) (A.under (.call (.ref m) ⟨[v], []⟩)) (again (.builtin id ⟨[.ref D, v], []⟩)) (fun fin s' => match fin with | .done f => R (.ok f) s' | .again c' => c'.quiet = true ∧ codeAny (model prog w) A c' R s') (fun e s' => R (.error e) s') s := by
    refine wpAny_pure ⟨plainId_quiet hpl _, codeAny_builtin he ?_⟩
    rw [Around.under_plainId hpl _]
    exact h
  refine wpAny_bind ?_
  unfold boundOk at hok
  unfold checkBoundCall
  cases hsig : Manifest.signature? id with
  | none => exact wpAny_pure fin
  | some sig =>
    rw [hsig] at hok
    simp only [hk]
    rw [if_neg (by decide)]
    refine wpAny_bind (wpAny_isInstance hD f1 ?_)
    rw [if_neg (by rw [hv]; decide)]
    refine wpAny_bind ?_
    have hty : ∀ {Q : Bool → Shared → Prop} {E : Value → Shared → Prop}, Q false s → wpAny (model prog w) (A.under (.call (.ref m) ⟨[v], []⟩)) (isType (.ref D)) Q E s := fun hq => by
      show wpAny _ _ (do return match (← loadHead D).data with | .cls _ => true | _ => false) _ _ _
      exact wpAny_bind (wpAny_loadPart hx (wpAny_pure hq))
    refine hty ?_
    rw [if_neg (by decide)]
    refine wpAny_bind (wpAny_typeOf hD ?_)
    exact wpAny_of_eq hok fin

variable {K : Type} [DecidableEq K] {knd : KeyKind prog w K} {S : K → Bool} {n : Nat} {k : K} {key : Value}

theorem setOf_shape {s : Shared} {D : Addr} (hS : s.heap.SetOf knd D S n) : ∃ es ep tb, s.heap.get? D = some { cls := .type "set", dict := none, data := .set es ep tb, slots := #[] } := by
  obtain ⟨o, es, ep, tb, ho, ⟨h1, h2, h3⟩, hd, _⟩ := hS
  obtain ⟨c, dd, dt, sl⟩ := o
  simp only at h1 h2 h3 hd
  subst h1 h2 h3 hd
  exact ⟨es, ep, tb, ho⟩

theorem bound_add {Q : Value → Shared → Prop} {s : Shared} {m D : Addr} (hm : s.heap.get? m = some (bmObj "set.add" D)) (hS : s.heap.SetOf knd D S n) (hkey : knd.is k key = true) (hsc : key.scannable = true) (hroom : n + 1 < scanBound)
    (h : ∀ h', Heap.SameBut D s.heap h' → h'.SetOf knd D (fun k' => S k' || decide (k' = k)) (if S k then n else n + 1) → Q .none { s with heap := h', toks := s.toks + 1 }) :
    wpAny (model prog w) A (call (.ref m) [key]) Q E s := by
  obtain ⟨_, _, _, hx⟩ := setOf_shape hS
  refine wpAny_call (bound_call hm hx bkind_add vararg_add (boundOk_add _ _) PySem.F.slot_set_add.plain PySem.F.entry_set_add ?_)
  unfold Builtin.«set.add» Builtin.Frozenset.oneOther
  simp only [List.isEmpty_nil, bind_assoc]
  unfold Builtin.Frozenset.addrOf setAdd
  refine wpAny_bind (wpAny_pure ?_)
  try dsimp only
  refine wpAny_bind (wpAny_pure ?_)
  try dsimp only
  refine wpAny_bind (wpAny_holding (wpAny_bind (knd.pyHash hkey ?_)))
  refine wpAny_setAddHashed_of (s := { s with toks := s.toks + 1 }) hkey hsc hS hroom fun h' hsb hS' => ?_
  show wpAny _ _ (ret Value.none) _ _ _
  exact wpAny_pure (h h' hsb hS')

theorem bound_contains {Q : Value → Shared → Prop} {s : Shared} {m D : Addr} (hm : s.heap.get? m = some (bmObj "set.__contains__" D)) (hS : s.heap.SetOf knd D S n) (hkey : knd.is k key = true) (hsc : key.scannable = true)
    (h : Q (.bool (S k)) { s with toks := s.toks + 1 }) : wpAny (model prog w) A (call (.ref m) [key]) Q E s := by
  obtain ⟨_, _, _, hx⟩ := setOf_shape hS
  refine wpAny_call (bound_call hm hx bkind_contains vararg_contains (boundOk_contains _ _) PySem.F.slot_set_contains.plain entry_set_contains ?_)
  unfold Builtin.«frozenset.__contains__» Builtin.Frozenset.oneOther
  simp only [List.isEmpty_nil, bind_assoc]
  unfold Builtin.Frozenset.addrOf Builtin.Frozenset.withSetAsKey setContains
  refine wpAny_bind (wpAny_pure ?_)
  try dsimp only
  refine wpAny_bind (wpAny_pure ?_)
  try dsimp only
  refine wpAny_bind (wpAny_tryCatch (wpAny_holding (wpAny_bind (knd.pyHash hkey ?_))))
  refine wpAny_bind (wpAny_setFind_of (s := { s with toks := s.toks + 1 }) hkey hsc hS fun r hr => ?_)
  refine wpAny_pure ?_
  show wpAny _ _ (ret (Value.bool r.isSome)) _ _ _
  rw [hr]
  exact wpAny_pure h
end
end Mine

namespace Mine
open PySem PySem.W PySem.Calls PyProof.Rows
set_option maxRecDepth 100000

/-! the generator function's pieces, read off the row -/
def ueDef : Stmt := PySem.Challenge.pw_ij0068_01.main.body.getD 3 (.Pass default)
def ueBody : List Stmt := match ueDef with | .FunctionDef _ _ b _ _ _ _ _ _ _ => b | _ => []
def ueScope : Scope := match ueDef with | .FunctionDef _ _ _ _ _ _ sc _ _ _ => sc | _ => default
def ueArms : List Stmt × List Stmt := match ueBody.getD 2 (.Pass default) with | .If _ a b _ => (a, b) | _ => ([], [])
def forParts (st : Stmt) : Pos × List Stmt := match st with | .For (.Name _ p) _ b _ _ => (p, b) | _ => (default, [])
def keyFor : Pos × List Stmt := forParts (ueArms.2.getD 0 (.Pass default))
def noneFor : Pos × List Stmt := forParts (ueArms.1.getD 0 (.Pass default))
abbrev uenv (C : Addr) : Env := envOf (Str.ofString "unique_everseen") ueScope C 59 (.ref 58)

/-! a source of numbers -/
structure Src (prog : Program) (w : World) (B : Heap) (ib : Addr) (xs : List Int) : Prop where
  iter : ∀ (A : Around) (s : Shared) (Q : Value → Shared → Prop) (E : Value → Shared → Prop), A.handled = none → (∀ b o, B.get? b = some o → s.heap.get? b = some o) →
    (∀ (fp wr : List Addr) (St : Nat → Heap → Prop) (h' : Heap), (∀ A' : Around, A'.handled = none → Walks prog w A' s.heap.objs.size fp wr xs.length (fun i v => ∃ t, v = .int (xs.getD i 0) t) St) →
      (∀ b ∈ fp, b = s.heap.objs.size ∨ (B.get? b).isSome = true) → (∀ b ∈ wr, b = s.heap.objs.size) →
      (∀ b o, s.heap.get? b = some o → h'.get? b = some o) → h'.objs.size = s.heap.objs.size + 1 → St 0 h' → Q (.ref s.heap.objs.size) { s with heap := h' }) →
    wpAny (model prog w) A (pyIter (.ref ib)) Q E s

theorem Walks.item_imp {prog : Program} {w : World} {A : Around} {I : Addr} {fp wr : List Addr} {n : Nat} {P P' : Nat → Value → Prop} {St : Nat → Heap → Prop} (W : PySem.Walks prog w A I fp wr n P St)
    (h : ∀ i v, i < n → P i v → P' i v) : PySem.Walks prog w A I fp wr n P' St where
  sub := W.sub
  frame := W.frame
  item := fun i s Q E hi st k => W.item i s Q E hi st fun v h' tk hP => k v h' tk (h i v hi hP)
  done := W.done
  self := W.self

theorem src_list {prog : Program} {w : World} {B : Heap} {l : Addr} {vs : List Value} {xs : List Int} (hl : B.IsList l vs.toArray) (hi : IntsAre vs xs) : Src prog w B l xs where
  iter := fun A s Q E hh hk h => by
    have hl' : s.heap.IsList l vs.toArray := let ⟨o, e, r⟩ := hl; ⟨o, hk _ _ e, r⟩
    have hlt : l < s.heap.objs.size := by obtain ⟨_, e, _⟩ := hl'; exact Heap.lt_size e
    refine wpAny_pyIter_list hl' (h [s.heap.objs.size, l] [s.heap.objs.size] (fun i h => h.IsListIter s.heap.objs.size l i ∧ h.IsList l vs.toArray) _ (fun A' hA => ?_) ?_ ?_ (fun b o e => Heap.get?_push_of_some _ e) (by rw [Heap.size_push])
      ⟨⟨_, Heap.get?_push_size _ rfl, rfl, rfl⟩, let ⟨o, e, r⟩ := hl'; ⟨o, Heap.get?_push_of_some _ e, r⟩⟩)
    · have W := Walks.list (prog := prog) (w := w) hA s.heap.objs.size l (Nat.ne_of_lt hlt) vs.toArray
      have e : vs.toArray.size = xs.length := by rw [List.size_toArray]; exact hi.length
      rw [e] at W
      refine Walks.item_imp W fun i v hlt hv => ?_
      obtain ⟨k, t, e1, e2⟩ := IntsAre.at hi i v (by simpa using hv)
      exact ⟨t, by rw [e1]; congr 1; simp [List.getD, e2]⟩
    · intro b hb
      rcases List.mem_cons.mp hb with rfl | hb
      · exact .inl rfl
      · obtain ⟨o, e, _⟩ := hl
        rw [List.mem_singleton.mp hb, e]; exact .inr rfl
    · intro b hb; exact List.mem_singleton.mp hb

/-- the numbers from lo up to hi -/
def intsR (lo hi : Int) : List Int := (List.range (hi - lo).toNat).map fun (i : Nat) => lo + (i : Int)
theorem intsR_length (lo hi : Int) : (intsR lo hi).length = (hi - lo).toNat := by simp [intsR]

theorem src_range {prog : Program} {w : World} {B : Heap} {r : Addr} {lo hi : Int} {t u v : Tok} (hr : IsRange B r lo hi 1 t u v) (hs : Builtin.Range.small lo hi 1 = true) :
    Src prog w B r (intsR lo hi) where
  iter := fun A s Q E hh hk h => by
    have hr' : IsRange s.heap r lo hi 1 t u v := hk _ _ hr
    refine wpAny_pyIter_range hr' hs (h [s.heap.objs.size] [s.heap.objs.size] (fun i h => IsRangeIter h s.heap.objs.size (lo + (i : Nat) * 1) (((hi - lo).toNat : Int) - (i : Nat)) 1) _ (fun A' hA => ?_) ?_ ?_ (fun b o e => Heap.get?_push_of_some _ e) (by rw [Heap.size_push]) ?_)
    · have W := Walks.range (prog := prog) (w := w) hA s.heap.objs.size lo 1 (hi - lo).toNat
      rw [intsR_length]
      refine Walks.item_imp W fun i v hlt hv => ?_
      obtain ⟨t, rfl⟩ := hv
      exact ⟨t, by congr 1; simp [intsR, List.getD, hlt]⟩
    · intro b hb; exact .inl (List.mem_singleton.mp hb)
    · intro b hb; exact List.mem_singleton.mp hb
    · have e : Builtin.Range.rangeSize lo hi 1 = (((hi - lo).toNat : Nat) : Int) - ((0 : Nat) : Int) := by rw [rangeSize_nat]; simp
      show (s.heap.push _).get? s.heap.objs.size = _
      rw [e]
      simpa using Heap.get?_push_size _ rfl
end Mine

namespace Mine
open PySem PySem.W PySem.Calls PyProof.Rows
set_option maxRecDepth 100000

/-- what is told of a list, by the keys `f` not seen before -/
def ded (f : Int → Int) : List Int → List Int → List Int
  | _, [] => []
  | seen, x :: xs => if f x ∈ seen then ded f seen xs else x :: ded f (f x :: seen) xs

theorem ded_length (f : Int → Int) : ∀ (xs seen : List Int), (ded f seen xs).length ≤ xs.length
  | [], _ => by simp [ded]
  | x :: xs, seen => by
    unfold ded
    split
    · exact Nat.le_succ_of_le (ded_length f xs seen)
    · simp only [List.length_cons]; exact Nat.succ_le_succ (ded_length f xs _)

/-- since a generator woke: all stands that lies at or below `S`, but for its own locals `C` and the slots of the caller's frame `L` -/
structure Sin (S C L : Nat) (s₀ s : Shared) : Prop where
  old : ∀ b o, b ≤ S → b ≠ C → b ≠ L → s₀.heap.get? b = some o → s.heap.get? b = some o
  loc : ∀ m, s₀.heap.Ns L m → s.heap.Ns L m
  gens : s.gens = s₀.gens
  os : s.os = s₀.os
theorem Sin.refl {S C L : Nat} {s : Shared} : Sin S C L s s := ⟨fun _ _ _ _ _ e => e, fun _ h => h, rfl, rfl⟩
theorem Sin.step {S C L : Nat} {s₀ s : Shared} {h' : Heap} {tk : Nat} (x : Sin S C L s₀ s) (k : ∀ b o, b ≤ S → b ≠ C → s.heap.get? b = some o → h'.get? b = some o) (hL : L ≤ S) (hLC : L ≠ C) : Sin S C L s₀ { s with heap := h', toks := tk } :=
  ⟨fun b o h1 h2 h3 e => k b o h1 h2 (x.old b o h1 h2 h3 e), fun m h => let ⟨o, es, ep, e, r⟩ := x.loc m h; ⟨o, es, ep, k L o hL hLC e, r⟩, x.gens, x.os⟩

def uePro (S C L : Nat) (out : List Int) : Protocol := fun m s₀ v s kap =>
  (∃ t, v = .int (out.getD (out.length - 1 - m) 0) t) ∧ Sin S C L s₀ s ∧
    ∀ s'' : Shared, (∀ b o, b ≠ S → s.heap.get? b = some o → s''.heap.get? b = some o) → (s''.heap.get? S).isSome = true → kap (.send .none) s''
def ueEnd (S C L : Nat) : GenEnd := fun n s₀ r s₁ => r = .ok (.ret .none) ∧ (n = 0 ∧ Sin S C L s₀ s₁)

/-- a function of the heap that reckons `f` and leaves all else as it was -/
def KeyOk (prog : Program) (w : World) (B : Heap) (kf : Addr) (f : Int → Int) (xs : List Int) : Prop :=
  FnAt kf B ∧ ∀ (A : Around) (u : Shared) (E : Value → Shared → Prop) (Q : Value → Shared → Prop) (x : Int) (t : Tok), A.handled = none → A.depth ≤ 500 → x ∈ xs →
    (∀ b o, B.get? b = some o → u.heap.get? b = some o) →
    (∀ h' tk t', (∀ b o, u.heap.get? b = some o → h'.get? b = some o) → Q (.int (f x) t') { u with heap := h', toks := tk }) → wpAny (model prog w) A (call (.ref kf) [.int x t]) Q E u

theorem callWith_B {M : Model} {A : Around} {E : Value → Shared → Prop} {s : Shared} {env : Env} {pos : Pos} {first : List Value} {Q : Value → Shared → Prop} {q : Addr} {id : String} {D : Addr} {e : Expr} {rest : List Expr}
    (h : wpAny M A (spliced (backTo pos (starEach (e :: rest) env))) (fun vs s₁ => s₁.heap.get? q = some (bmObj id D) ∧ wpAny M A (call (.ref q) (first ++ vs)) Q E s₁) E s)
    (he : starEach (e :: rest) env = (false, eval e env) :: starEach rest env := by rfl) (hplain : (backTo pos (starEach rest env)).any (·.1) = false := by rfl) :
    wpAny M A (callWith pos (.ref q) first (backTo pos (starEach (e :: rest) env)) []) Q E s := by
  rw [he] at h ⊢
  refine callWith_of (P := fun h => h.get? q = some (bmObj id D)) (by show ((false || (backTo pos (starEach rest env)).any (·.1)) || false) = false; rw [hplain]; rfl)
    (fun h hq => ⟨.machine, .inr (.inl rfl), ?_⟩) (evalArgs_plain h)
  exact (Looks.ld (part := none) hq).andThen .now

theorem drop_step {out d : List Int} {x : Int} (h : out.drop (out.length - (d.length + 1)) = x :: d) (hl : d.length + 1 ≤ out.length) :
    out.getD (out.length - 1 - d.length) 0 = x ∧ out.drop (out.length - d.length) = d := by
  have e : out.length - 1 - d.length = out.length - (d.length + 1) := by omega
  have e2 : out.length - d.length = out.length - (d.length + 1) + 1 := by omega
  refine ⟨?_, ?_⟩
  · have := congrArg (fun l => l[0]?) h
    simp only [List.getElem?_drop, Nat.add_zero, List.getElem?_cons_zero] at this
    rw [e, List.getD_eq_getElem?_getD, this]; rfl
  · rw [e2, ← List.drop_drop, h]; rfl

theorem SetOf.kept {prog : Program} {w : World} {K : Type} [DecidableEq K] {knd : KeyKind prog w K} {h h' : Heap} {D : Addr} {S : K → Bool} {n : Nat} (x : h.SetOf knd D S n) (k : ∀ o, h.get? D = some o → h'.get? D = some o) : h'.SetOf knd D S n :=
  let ⟨o, es, ep, tb, ho, r⟩ := x; ⟨o, es, ep, tb, k o ho, r⟩

section
variable {prog : Program} {w : World} {A : Around} {B : Heap} {S C L : Nat} {p : Program} {loose : List Str} {mg mb : Str → Option Value}

structure LocK (m : Str → Option Value) (kf D m2 : Addr) : Prop where
  key : m "key" = some (.ref kf)
  seen : m "seen" = some (.ref D)
  add : m "seen_add" = some (.ref m2)

theorem key_loop (hh : A.handled = none) (hd : A.depth ≤ 450) {kf D m2 I : Addr} {f : Int → Int} {xs out : List Int} {fp wr : List Addr} {St : Nat → Heap → Prop} (T : TopRead p loose mg mb B)
    (hk : KeyOk prog w B kf f xs) (hB : B.objs.size ≤ C) (hCS : C < S) (hL : L < B.objs.size) (hSD : S < D) (hSm : S < m2) (hSI : S < I) (hDm : D ≠ m2) (hDI : D ≠ I) (hmI : m2 ≠ I) (hxs : xs.length < 4000)
    (W : ∀ A' : Around, A'.handled = none → PySem.Walks prog w A' I fp wr xs.length (fun i v => ∃ t, v = .int (xs.getD i 0) t) St) (hfp : ∀ b ∈ fp, b = I ∨ (B.get? b).isSome = true) (hwr : ∀ b ∈ wr, b = I)
    {k₀ : Result → Sem Fin} {pf : Pos} {c₀ : Code} (hk₀ : k₀ (.ok .next) = .pure (.done (.ret .none))) (hc₀ : c₀ = .func ueBody (uenv C)) :
    ∀ (j i : Nat) (seen : List Int) (n : Nat) (s₀ s : Shared) (m : Str → Option Value), xs.length - i = j → i ≤ xs.length → LocK m kf D m2 → Fr B C s.heap m → St i s.heap →
      s.heap.SetOf (PySem.intKind prog w) D (fun k => decide (k ∈ seen)) n → n ≤ i → s.heap.get? m2 = some (bmObj "set.add" D) → (s.heap.get? S).isSome = true →
      out.drop (out.length - (ded f seen (xs.drop i)).length) = ded f seen (xs.drop i) → (ded f seen (xs.drop i)).length ≤ out.length → Sin S C L s₀ s →
      Seg (model prog w) A (ueEnd S C L) (uePro S C L out) (ded f seen (xs.drop i)).length s₀ (.forLoop (.Name (Str.ofString "element") keyFor.1) (.ref I) keyFor.2 [] (uenv C))
        ((model prog w).den (.forLoop (.Name (Str.ofString "element") keyFor.1) (.ref I) keyFor.2 [] (uenv C))) [.ret k₀ none false [] c₀ pf []] s := by
  subst hc₀
  have hLC : L ≠ C := by omega
  have hLS : L ≤ S := by omega
  have hCI : C ≠ I := by have : (S : Nat) < I := hSI; show (C : Nat) ≠ I; omega
  have lowB : ∀ (b : Nat) o, B.get? b = some o → b < B.objs.size := fun b o e => Heap.lt_size e
  have hIB : ∀ (b : Nat) o, B.get? b = some o → b ≠ C := fun b o e => by have := lowB b o e; omega
  have infp : ∀ b : Nat, b ∈ fp → b = I ∨ b < B.objs.size := fun b hb => (hfp b hb).imp id fun h => by
    obtain ⟨o, ho⟩ := Option.isSome_iff_exists.mp h; exact lowB b o ho
  have hCfp : C ∉ fp := fun hm => by have := infp C hm; omega
  have hSfp : S ∉ fp := fun hm => by have := infp S hm; omega
  have hDfp : D ∉ fp := fun hm => by
    rcases infp D hm with h | h
    · exact hDI h
    · have : (S : Nat) < D := hSD
      omega
  have inwr : ∀ b : Nat, b ≤ S → b ∉ wr := fun b hb hm => by
    have h1 : b = I := hwr b hm
    have h2 : (S : Nat) < I := hSI
    omega
  intro j
  induction j with
  | zero =>
    intro i seen n s₀ s m hj hi hm F hst hset hn hm2 hS hout hlen hsin
    obtain rfl : i = xs.length := by omega
    refine seg_turn rfl ?_
    refine (W _ ?_).done s _ _ hst fun h' tk hk' => ?_
    · exact hh
    · simp only [List.drop_length, ded, List.length_nil]
      refine seg_block_nil ?_
      rw [hk₀]
      refine seg_end (.ok (.ret .none)) ⟨rfl, rfl, hsin.step (fun b o hb _ e => hk' b o (inwr b hb) e) hLS hLC⟩
  | succ j ih =>
    intro i seen n s₀ s m hj hi hm F hst hset hn hm2 hS hout hlen hsin
    have hlt : i < xs.length := by omega
    have hdrop : xs.drop i = xs.getD i 0 :: xs.drop (i + 1) := by rw [List.drop_eq_getElem_cons hlt]; simp [List.getD, hlt]
    have hmem : xs.getD i 0 ∈ xs := by simp [List.getD, hlt]
    refine seg_turn rfl ?_
    have hO : (A.over (.forLoop (.Name (Str.ofString "element") keyFor.1) (.ref I) keyFor.2 [] (uenv C)) [.ret k₀ none false [] (.func ueBody (uenv C)) pf []]).handled = none := hh
    have hOd : (A.over (.forLoop (.Name (Str.ofString "element") keyFor.1) (.ref I) keyFor.2 [] (uenv C)) [.ret k₀ none false [] (.func ueBody (uenv C)) pf []]).depth ≤ 500 := by
      show A.depth + 1 + 0 ≤ 500
      omega
    refine (W _ hO).item i s _ _ hlt hst fun v h₁ tk₁ hv hst₁ hk₁ => ?_
    obtain ⟨t, rfl⟩ := hv
    dsimp only
    generalize xs.getD i 0 = x at *
    have F₁ : Fr B C h₁ m := ⟨F.ns.at' (fun o e => hk₁ C o (inwr C (by omega)) e), fun b o e => hk₁ b o (inwr b (by have := lowB b o e; omega)) (F.keep b o e), F.above⟩
    refine wpAny_storeName_local (by rfl) F₁.ns (fun h₂ hn₂ hs₂ => ?_) (by rfl)
    have F₂ := F₁.set hn₂ hs₂
    refine seg_execs_cons ?_
    refine seg_plain (wpAny_Assign_Name ?_)
    refine wpAny_Call_NameR (ld F₂ (v := .ref kf) (by rw [if_neg (by decide)]; exact hm.key) ?_)
    have kB : ∀ b o, B.get? b = some o → h₂.get? b = some o := F₂.keep
    have nC : ∀ (b : Nat), b ≠ C → (∀ o, h₁.get? b = some o → h₂.get? b = some o) := fun b hb o e => (hs₂.2 b hb).trans e
    have k12 : ∀ (b : Nat), b ≠ C → b ≠ I → ∀ o, s.heap.get? b = some o → h₂.get? b = some o := fun b hb hI o e => nC b hb o (hk₁ b o (fun hm => hI (hwr b hm)) e)
    have hst₂ : St (i + 1) h₂ := (W _ hO).frame (i + 1) h₁ h₂ hst₁ fun b hb o e => nC b (fun h => hCfp (h ▸ hb)) o e
    have sin₂ : ∀ tk, Sin S C L s₀ { s with heap := h₂, toks := tk } := fun tk => hsin.step (fun b o hb hC e => k12 b hC (by have : (S : Nat) < I := hSI; show (b : Nat) ≠ I; omega) o e) hLS hLC
    have fk : ∀ {h : Heap}, (∀ b o, B.get? b = some o → h.get? b = some o) → FnAt kf h := fun k => let ⟨oc, od, fd, sl, e⟩ := hk.1; ⟨oc, od, fd, sl, k _ _ e⟩
    refine callWith_F (fk F₂.keep) ?_
    refine wpAny_items_cons (ld F₂ (v := .int x t) (if_pos rfl) ?_)
    refine wpAny_items_nil ⟨fk F₂.keep, ?_⟩
    refine hk.2 _ _ _ _ x t hO hOd hmem F₂.keep fun h₃ tk₃ t₃ hk₃ => ?_
    have F₃ : Fr B C h₃ _ := F₂.kept hk₃
    refine wpAny_storeName_local (by rfl) F₃.ns (fun h₄ hn₄ hs₄ => ?_) (by rfl)
    have F₄ := F₃.set hn₄ hs₄
    have nC4 : ∀ (b : Nat), b ≠ C → (∀ o, h₂.get? b = some o → h₄.get? b = some o) := fun b hb o e => (hs₄.2 b hb).trans (hk₃ b o e)
    have k14 : ∀ (b : Nat), b ≠ C → b ≠ I → ∀ o, s.heap.get? b = some o → h₄.get? b = some o := fun b hb hI o e => nC4 b hb o (k12 b hb hI o e)
    have hst₄ : St (i + 1) h₄ := (W _ hO).frame (i + 1) h₂ h₄ hst₂ fun b hb o e => nC4 b (fun h => hCfp (h ▸ hb)) o e
    have hDC : D ≠ C := by have : (S : Nat) < D := hSD; show @Ne Nat D C; omega
    have hmC : m2 ≠ C := by have : (S : Nat) < m2 := hSm; show @Ne Nat m2 C; omega
    have hSC : (S : Nat) ≠ C := by omega
    have hSI' : S ≠ I := by have : (S : Nat) < I := hSI; show (S : Nat) ≠ I; omega
    have set₄ : h₄.SetOf (PySem.intKind prog w) D (fun k => decide (k ∈ seen)) n := SetOf.kept hset (k14 D hDC hDI)
    have m₄ : h₄.get? m2 = some (bmObj "set.add" D) := k14 m2 hmC hmI _ hm2
    have S₄ : (h₄.get? S).isSome = true := by obtain ⟨o, ho⟩ := Option.isSome_iff_exists.mp hS; rw [k14 S hSC hSI' o ho]; rfl
    have sin₄ : ∀ tk, Sin S C L s₀ { s with heap := h₄, toks := tk } := fun tk => hsin.step (fun b o hb hC e => k14 b hC (by have : (S : Nat) < I := hSI; show (b : Nat) ≠ I; omega) o e) hLS hLC
    refine seg_execs_cons ?_
    refine seg_if ?_
    refine wpAny_isTrue_Compare1 (ld F₄ (v := .int (f x) t₃) (if_pos rfl) ?_)
    refine ld F₄ (v := .ref D) (by rw [if_neg (by decide), if_neg (by decide)]; exact hm.seen) ?_
    refine wpAny_notInSet_of (knd := PySem.intKind prog w) (k := f x) (intKind_is prog w _ _) rfl set₄ (wpAny_truthy_bool ?_)
    by_cases hin : f x ∈ seen
    · rw [decide_eq_true hin]
      rw [if_neg (by decide)]
      refine seg_execs_nil ?_
      show Seg _ _ _ _ _ _ _ (.pure (.again _)) _ _
      have hded : ded f seen (x :: xs.drop (i + 1)) = ded f seen (xs.drop (i + 1)) := by rw [ded, if_pos hin]
      rw [hdrop, hded] at hout hlen ⊢
      refine seg_again rfl (ih (i + 1) seen n s₀ _ _ (by omega) hlt ?_ F₄ hst₄ set₄ (by omega) m₄ S₄ hout hlen (sin₄ _))
      exact ⟨by rw [if_neg (by decide), if_neg (by decide)]; exact hm.key, by rw [if_neg (by decide), if_neg (by decide)]; exact hm.seen, by rw [if_neg (by decide), if_neg (by decide)]; exact hm.add⟩
    · rw [decide_eq_false hin]
      rw [if_pos (by decide)]
      have hded : ded f seen (x :: xs.drop (i + 1)) = x :: ded f (f x :: seen) (xs.drop (i + 1)) := by rw [ded, if_neg hin]
      rw [hdrop, hded] at hout hlen ⊢
      rw [List.length_cons] at hout hlen ⊢
      obtain ⟨hget, hout'⟩ := drop_step hout hlen
      refine seg_execs_cons ?_
      refine seg_plain (wpAny_Expr ?_)
      refine wpAny_Call_NameR (ld F₄ (v := .ref m2) (by rw [if_neg (by decide), if_neg (by decide)]; exact hm.add) ?_)
      refine callWith_B (q := m2) (id := "set.add") (D := D) ?_
      refine wpAny_items_cons (ld F₄ (v := .int (f x) t₃) (if_pos rfl) ?_)
      refine wpAny_items_nil ⟨m₄, ?_⟩
      refine bound_add (knd := PySem.intKind prog w) (k := f x) m₄ set₄ (intKind_is prog w _ _) rfl (by have : scanBound = 4096 := rfl; omega) fun h₅ hs₅ set₅ => ?_
      have hDs : (S : Nat) < D := hSD
      have k45 : ∀ (b : Nat), b ≠ D → (∀ o, h₄.get? b = some o → h₅.get? b = some o) := fun b hb o e => (hs₅.2 b hb).trans e
      have F₅ := F₄.change hs₅ hDC (by
        cases e : B.get? D with
        | none => rfl
        | some o => exact absurd (lowB D o e) (by omega))
      have hst₅ : St (i + 1) h₅ := (W _ hO).frame (i + 1) h₄ h₅ hst₄ fun b hb o e => k45 b (fun h => hDfp (h ▸ hb)) o e
      have m₅ : h₅.get? m2 = some (bmObj "set.add" D) := k45 m2 (Ne.symm hDm) _ m₄
      have sin₅ : ∀ tk, Sin S C L s₀ { s with heap := h₅, toks := tk } := fun tk => hsin.step (fun b o hb hC e => k45 b (by show @Ne Nat b D; omega) o (k14 b hC (by have : (S : Nat) < I := hSI; show (b : Nat) ≠ I; omega) o e)) hLS hLC
      refine seg_execs_cons ?_
      refine seg_Expr_Yield rfl rfl rfl (ld F₅ (v := .int x t) (by rw [if_neg (by decide)]; exact if_pos rfl) ?_)
      intro kap hkap
      refine ⟨⟨t, by rw [hget]⟩, sin₅ _, fun s'' hk'' hS'' => hkap _ s'' ?_⟩
      have kC : ∀ (b : Nat), b ≠ S → ∀ o, h₅.get? b = some o → s''.heap.get? b = some o := fun b hb o e => hk'' b o hb e
      refine seg_execs_nil ?_
      show Seg _ _ _ _ _ _ _ (.pure (.again _)) _ _
      have hle : (ded f (f x :: seen) (xs.drop (i + 1))).length ≤ out.length := by omega
      have F₆ : Fr B C s''.heap _ := ⟨F₅.ns.at' (fun o e => kC C (by omega) o e), fun b o e => kC b (by have := lowB b o e; omega) o (F₅.keep b o e), F₅.above⟩
      refine seg_again rfl (ih (i + 1) (f x :: seen) (n + 1) s'' s'' _ (by omega) hlt ?_ F₆ ?_ ?_ (by omega) ?_ hS'' hout' hle Sin.refl)
      · exact ⟨by rw [if_neg (by decide), if_neg (by decide)]; exact hm.key, by rw [if_neg (by decide), if_neg (by decide)]; exact hm.seen, by rw [if_neg (by decide), if_neg (by decide)]; exact hm.add⟩
      · exact (W _ hO).frame (i + 1) h₅ s''.heap hst₅ fun b hb o e => kC b (fun h => hSfp (h ▸ hb)) o e
      · have e : (fun k => decide (k ∈ f x :: seen)) = (fun k' => decide (k' ∈ seen) || decide (k' = f x)) := by
          funext k'; rw [Bool.eq_iff_iff]; simp [or_comm]
        rw [e]
        have := SetOf.kept (h' := s''.heap) set₅ (fun o e => kC D (by show @Ne Nat D S; omega) o e)
        rw [decide_eq_false hin] at this
        exact this
      · exact kC m2 (by have : (S : Nat) < m2 := hSm; show @Ne Nat m2 S; omega) _ m₅
end
end Mine

namespace Mine
open PySem PySem.W PySem.Calls PyProof.Rows
set_option maxRecDepth 100000

section
variable {prog : Program} {w : World} {A : Around} {B : Heap} {S C L : Nat} {p : Program} {loose : List Str} {mg mb : Str → Option Value} {K : Frag}

theorem key_start (hh : A.handled = none) (hd : A.depth ≤ 450) {kf ib : Addr} {f : Int → Int} {xs : List Int} (X : K.In B) (T : TopRead p loose mg mb B) (hset : nsIn K mainGlobals (Str.ofString "set") = some none)
    (hk : KeyOk prog w B kf f xs) (hsrc : Src prog w B ib xs) (hB : B.objs.size ≤ C) (hCS : C < S) (hL : L < B.objs.size) (hxs : xs.length < 4000) :
    ∀ (s : Shared) (m : Str → Option Value), Fr B C s.heap m → m "iterable" = some (.ref ib) → m "key" = some (.ref kf) → (s.heap.get? S).isSome = true →
      Seg (model prog w) A (ueEnd S C L) (uePro S C L (ded f [] xs)) (ded f [] xs).length s (.func ueBody (uenv C)) ((model prog w).den (.func ueBody (uenv C))) [] s := by
  intro s₀ m F hmi hmk hS
  have hLC : L ≠ C := by omega
  have hLS : L ≤ S := by omega
  have lowB : ∀ (b : Nat) o, B.get? b = some o → b < B.objs.size := fun b o e => Heap.lt_size e
  refine seg_func ?_
  refine seg_execs_cons ?_
  refine seg_plain (wpAny_Assign_Name ?_)
  refine wpAny_Call_NameR (name_B F X T hset (by rfl) (by decide) ?_)
  refine callWith_type0 (call_set_0 fun led => ?_)
  have hSlt : S < s₀.heap.objs.size := by obtain ⟨o, ho⟩ := Option.isSome_iff_exists.mp hS; exact Heap.lt_size ho
  generalize hD : s₀.heap.objs.size = D at *
  have F₁ : Fr B C (s₀.heap.push { cls := .type "set", dict := none, data := .set #[] 0 (.fresh 0 0 led) }) m := F.push _
  refine wpAny_storeName_local (by rfl) F₁.ns (fun h₂ hn₂ hs₂ => ?_) (by rfl)
  have F₂ := F₁.set hn₂ hs₂
  refine seg_execs_cons ?_
  refine seg_plain (wpAny_Assign_Name ?_)
  refine Attribute_name (ld F₂ (v := .ref D) (if_pos rfl) ?_)
  have hCD : C < D := by omega
  have e₁ : (s₀.heap.push { cls := .type "set", dict := none, data := .set #[] 0 (.fresh 0 0 led) }).get? D = some { cls := .type "set", dict := none, data := .set #[] 0 (.fresh 0 0 led), slots := #[] } := hD ▸ Heap.get?_push_size _ rfl
  have e₂ : h₂.get? D = some { cls := .type "set", dict := none, data := .set #[] 0 (.fresh 0 0 led), slots := #[] } := (hs₂.2 D (by show @Ne Nat D C; omega)).trans e₁
  refine getAttr_set setMeth_add e₂ (by decide +kernel) ?_
  have hz : h₂.objs.size = D + 1 := by rw [hs₂.1, Heap.size_push, hD]
  rw [hz]
  have F₃ := F₂.push (bmObj "set.add" D)
  refine wpAny_storeName_local (by rfl) F₃.ns (fun h₄ hn₄ hs₄ => ?_) (by rfl)
  have F₄ := F₃.set hn₄ hs₄
  have k04 : ∀ (b : Nat), b ≠ C → ∀ o, s₀.heap.get? b = some o → h₄.get? b = some o := fun b hb o e =>
    (hs₄.2 b hb).trans (Heap.get?_push_of_some _ ((hs₂.2 b hb).trans (Heap.get?_push_of_some _ e)))
  have eD : h₄.get? D = some { cls := .type "set", dict := none, data := .set #[] 0 (.fresh 0 0 led), slots := #[] } := (hs₄.2 D (by show @Ne Nat D C; omega)).trans (Heap.get?_push_of_some _ e₂)
  have eM : h₄.get? (D + 1 : Nat) = some (bmObj "set.add" D) := (hs₄.2 _ (by show @Ne Nat (D + 1) C; omega)).trans (hz ▸ Heap.get?_push_size _ rfl)
  have z₄ : h₄.objs.size = D + 2 := by rw [hs₄.1, Heap.size_push, hz]
  have sk : ∀ tk, Sin S C L s₀ { s₀ with heap := h₄, toks := tk } := fun tk => Sin.refl.step (fun b o hb hC e => k04 b hC o e) hLS hLC
  refine seg_execs_cons ?_
  refine seg_if ?_
  refine wpAny_isTrue_Compare1 (ld F₄ (v := .ref kf) (by rw [if_neg (by decide), if_neg (by decide)]; exact hmk) ?_)
  refine wpAny_Constant_none (is_none (wpAny_truthy_bool ?_))
  rw [if_neg (by exact Bool.false_ne_true)]
  refine seg_execs_cons ?_
  refine seg_for (fun _ => by rfl) ?_
  refine ld F₄ (v := .ref ib) (by rw [if_neg (by decide), if_neg (by decide)]; exact hmi) ?_
  refine hsrc.iter _ _ _ _ hh F₄.keep fun fp wr St h₅ W hfp hwr hk₅ hz₅ hst₅ pf => ?_
  dsimp only at W hfp hwr hz₅ hk₅
  rw [z₄] at W hfp hwr hz₅ ⊢
  have F₅ := F₄.kept hk₅
  refine key_loop hh hd (D := D) (m2 := (D + 1 : Nat)) (I := (D + 2 : Nat)) T hk hB hCS hL hSlt (by show S < D + 1; omega) (by show S < D + 2; omega) (by show @Ne Nat D (D + 1); omega) (by show @Ne Nat D (D + 2); omega)
    (by show @Ne Nat (D + 1) (D + 2); omega) hxs W hfp hwr (c₀ := .func ueBody (uenv C)) ?_ rfl xs.length 0 [] 0 s₀ _ _ (Nat.sub_zero _) (Nat.zero_le _) ?_ F₅ hst₅ ?_ (Nat.zero_le _) (hk₅ _ _ eM) ?_ ?_ ?_ ?_
  · rfl
  · exact ⟨by rw [if_neg (by decide), if_neg (by decide)]; exact hmk, by rw [if_neg (by decide)]; exact if_pos rfl, if_pos rfl⟩
  · have : (fun k : Int => decide (k ∈ ([] : List Int))) = fun _ => false := by funext k; simp
    rw [this]
    exact (setObjOf_fresh led).setOf (hk₅ _ _ eD) (by decide)
  · obtain ⟨o, ho⟩ := Option.isSome_iff_exists.mp hS
    show (h₅.get? S).isSome = true
    rw [hk₅ _ _ (k04 S (by omega) o ho)]; rfl
  · simp
  · simp
  · exact Sin.refl.step (fun b o hb hC e => hk₅ b o (k04 b hC o e)) hLS hLC
end
end Mine

namespace Mine
open PySem PySem.W PySem.Calls PyProof.Rows
set_option maxRecDepth 100000

def ueParams : Arguments := match ueDef with | .FunctionDef _ a _ _ _ _ _ _ _ _ => a | _ => default

/-- what the written heap holds of the function -/
structure UeFn (K : Frag) : Prop where
  fn : ∃ oc od sl doc pm ct, K.lookup 59 = some ⟨oc, od, .func (fnOf (Str.ofString "unique_everseen") (Str.ofString "unique_everseen") ueParams ueBody ueScope (.ref 52) .none doc pm none (.ref 58) ct), sl⟩
  code : codeIn K (.ref 58) (Str.ofString "unique_everseen") = true
  dflt : ∃ o n, K.lookup 52 = some o ∧ o.data = .seq #[.none] n
  set : nsIn K mainGlobals (Str.ofString "set") = some none

theorem ue_nocell : ∀ x ∈ ueScope.names, x.2 ≠ .cell := by decide +kernel
theorem ueFn_at (P : _) : UeFn (hd.heap_39 P) := ⟨⟨_, _, _, _, _, _, rfl⟩, by rfl, ⟨_, _, rfl, rfl⟩, by rfl⟩

section
variable {prog : Program} {w : World} {A : Around} {E : Value → Shared → Prop} {B : Heap} {N S C L : Nat} {p : Program} {loose : List Str} {mg mb : Str → Option Value} {K : Frag}

theorem ue_made (U : UeFn K) {s : Shared} (X : K.In s.heap) (hlim : s.heap.NoLimit) (hd : A.depth < recursionLimit) {ib : Value} {kv : Value} {vs : List Value} (hv : vs = [ib, kv] ∨ (vs = [ib] ∧ kv = .none)) {Q : Value → Shared → Prop}
    (h : ∀ (h' : Heap) (m : Str → Option Value) (tk : Nat), h'.Ns s.heap.objs.size m → m (Str.ofString "iterable") = some ib → m (Str.ofString "key") = some kv → (∀ b o, s.heap.get? b = some o → h'.get? b = some o) →
      h'.IsGen (s.heap.objs.size + 1 : Nat) s.gens.size → h'.objs.size = s.heap.objs.size + 2 →
      Q (.ref (s.heap.objs.size + 1 : Nat)) { s with heap := h', toks := tk, gens := s.gens.push (.fresh (.func ueBody (uenv s.heap.objs.size))) }) :
    wpAny (model prog w) A (call (.ref 59) vs) Q E s := by
  obtain ⟨oc, od, sl, doc, pm, ct, ho⟩ := U.fn
  obtain ⟨o, n, ho52, hs52⟩ := U.dflt
  have hb : BindsTo s (fnOf (Str.ofString "unique_everseen") (Str.ofString "unique_everseen") ueParams ueBody ueScope (.ref 52) .none doc pm none (.ref 58) ct) ⟨vs, []⟩ [(Str.ofString "iterable", ib), (Str.ofString "key", kv)] := by
    rcases hv with rfl | ⟨rfl, rfl⟩
    · exact BindsTo.of_defaults rfl (X _ _ ho52) hs52 rfl rfl
    · exact BindsTo.of_defaults rfl (X _ _ ho52) hs52 rfl rfl
  refine wpAny_call (codeAny_call_generator hd (X _ _ ho) rfl (by rfl) (by rfl) rfl (codeRec_of X U.code) ?_)
  refine hb _ _ _ _ ?_
  refine wpAny_newFunctionEnv ue_nocell ?_ (fun h' hn hs => ?_) (by rfl)
  · intro x hx
    rcases List.mem_cons.mp hx with rfl | hx
    · rfl
    · rcases List.mem_cons.mp hx with rfl | hx
      · rfl
      · cases hx
  · have kk : ∀ b o, s.heap.get? b = some o → h'.get? b = some o := fun b o e => (hs.2 b (Nat.ne_of_lt (Heap.lt_size e))).trans (Heap.get?_push_of_some _ e)
    have hz : h'.objs.size = s.heap.objs.size + 1 := by rw [hs.1, Heap.size_push]
    refine ⟨hlim.keeps kk, ?_⟩
    have := h (h'.push { cls := .type "generator", data := .fields #[.int s.gens.size 0, .str (Str.ofString "unique_everseen") (s.toks + 2), .str (Str.ofString "unique_everseen") (s.toks + 2 + 1)] }) _ (s.toks + 2 + 1 + 1) (hn.push _) rfl rfl
      (fun b o e => Heap.get?_push_of_some _ (kk b o e)) ⟨_, _, _, hz ▸ Heap.get?_push_size _ rfl, rfl, rfl, rfl⟩ (by rw [Heap.size_push, hz])
    rw [← hz] at this
    exact this

/-- a list of the numbers told, as the caller finds it; `L` its own frame -/
structure Told (L : Nat) (s s' : Shared) (l : Addr) (xs : List Int) : Prop where
  old : ∀ b o, b ≠ L → s.heap.get? b = some o → s'.heap.get? b = some o
  loc : ∀ m, s.heap.Ns L m → s'.heap.Ns L m
  list : ∃ acc c, s'.heap.get? l = some (lob acc c) ∧ IntsAre acc.toList xs
  new : s.heap.objs.size ≤ l
  gens : AllBare s.gens → AllBare s'.gens
  os : s'.os = s.os

theorem items_ints_list : ∀ (l : List Value) (out : List Int), l.length = out.length → (∀ (j : Nat) v, l[j]? = some v → ∃ t, v = .int (out.getD j 0) t) → IntsAre l out
  | [], [], _, _ => .nil
  | [], _ :: _, h, _ => by simp at h
  | _ :: _, [], h, _ => by simp at h
  | v :: vs, n :: ns, h, hv => by
    obtain ⟨t, rfl⟩ := hv 0 v rfl
    exact .cons n t (items_ints_list vs ns (by simpa using h) fun j u hu => by
      have := hv (j + 1) u (by simpa using hu)
      simpa using this)
theorem items_ints {out : List Int} {acc : Array Value} (h : ItemsOf (fun i v => ∃ t, v = .int (out.getD i 0) t) acc out.length) : IntsAre acc.toList out :=
  items_ints_list _ _ (by rw [Array.length_toList]; exact h.1) fun j v e => h.2 j v (by simpa using e)

section
variable {out : List Int} {g : Nat} {a : Nat}

def ueSt (prog : Program) (w : World) (A : Around) (a : Addr) (S C L g : Nat) (out : List Int) (i : Nat) (s : Shared) : Prop :=
  s.heap.IsGen a g ∧ s.heap.NoLimit ∧ ∃ gs, s.gens[g]? = some gs ∧ ∀ s'' : Shared, (∀ b o, b ≠ S → s.heap.get? b = some o → s''.heap.get? b = some o) → (s''.heap.get? S).isSome = true →
    gs.Goes (model prog w) A.in1 (ueEnd S C L) (uePro S C L out) (out.length - i) (.send .none) s''

theorem ue_feeds (hh : A.handled = none) (hd : A.depth < recursionLimit) (hNS : N ≤ S) (haS : a < S) (haC : a ≠ C) (haL : a ≠ L) (hCS : C < S) (hLS : L < S) (hst : 2 < S) (hsC : 2 ≠ C) (hsL : 2 ≠ L) :
    Feeds prog w A a S N C L g out.length (fun i v => ∃ t, v = .int (out.getD i 0) t) (ueSt prog w A a S C L g out) where
  gen := fun i s x => x.1
  frame := fun i s h' x hk hS => by
    obtain ⟨hg, hl, gs, hgs, hgo⟩ := x
    obtain ⟨o, nm, qn, ho, r⟩ := hg
    exact ⟨⟨o, nm, qn, hk _ _ (by show @Ne Nat a S; omega) ho, r⟩, hl.at fun o e => hk _ _ (by show @Ne Nat 2 S; omega) e, gs, hgs, fun s'' hk'' hS'' => hgo s'' (fun b o hb e => hk'' b o hb (hk b o hb e)) hS''⟩
  item := fun i s Q E hi x hS hQ => by
    obtain ⟨hg, hl, gs, hgs, hgo⟩ := x
    obtain ⟨k, hk⟩ : ∃ k, out.length - i = k + 1 := ⟨out.length - i - 1, by omega⟩
    refine wpAny_pyNext_gen (n := out.length - i) (P := fun n s₀ s₁ => n = 0 ∧ Sin S C L s₀ s₁) (Y := uePro S C L out) hh hl hd hg hgs (hgo _ (fun b o _ e => e) hS) (fun v s₁ gs' hy => ?_) (fun s₁ hp => absurd hp.1 (by omega))
    rw [hk] at hy
    obtain ⟨⟨t, hv⟩, hsin, hkap⟩ := hy
    have hv' : v = .int (out.getD i 0) t := by rw [hv]; congr 2; omega
    have keepS : ∀ o, s.heap.get? S = some o → s₁.heap.get? S = some o := fun o e => hsin.old S o (Nat.le_refl _) (by omega) (by omega) e
    refine hQ v _ ⟨t, hv'⟩ ⟨?_, ?_, gs', ?_, ?_⟩ ?_ keepS
    · obtain ⟨o, nm, qn, ho, r⟩ := hg
      exact ⟨o, nm, qn, hsin.old a o (by omega) haC haL ho, r⟩
    · exact hl.at fun o e => hsin.old cStatics o (by show 2 ≤ S; omega) hsC hsL e
    · refine setGen_self (gs := .running) ?_
      rw [hsin.gens]; exact setGen_self hgs
    · intro s'' hk'' hS''
      have := hkap s'' hk'' hS''
      rw [show out.length - (i + 1) = k by omega]
      exact this
    · refine ⟨fun b o h1 h2 h3 e => hsin.old b o (by omega) h2 h3 e, hsin.loc, ?_, hsin.os⟩
      have h1 := GenOnly.setGen s g .running
      have h2 := GenOnly.setGen s₁ g gs'
      rw [← hsin.gens] at h1
      exact h1.trans h2
  done := fun s Q E x hS hQ => by
    obtain ⟨hg, hl, gs, hgs, hgo⟩ := x
    obtain ⟨oS, hoS⟩ := Option.isSome_iff_exists.mp hS
    rw [Nat.sub_self] at hgo
    refine wpAny_pyNext_gen (n := 0) (P := fun n s₀ s₁ => n = 0 ∧ Sin S C L s₀ s₁) (Y := uePro S C L out) hh hl hd hg hgs (hgo _ (fun b o _ e => e) hS) (fun v s₁ gs' hy => ?_) (fun s₁ hp h' hk' => ?_)
    · obtain ⟨_, hsin, hkap⟩ := hy
      exact (hkap s₁ (fun b o _ e => e) (by rw [hsin.old S oS (Nat.le_refl _) (by omega) (by omega) hoS]; rfl)).elim
    · obtain ⟨_, hsin⟩ := hp
      refine hQ _ ⟨fun b o h1 h2 h3 e => hk' b o (hsin.old b o (by omega) h2 h3 e), fun m h => let ⟨o, es, ep, e, r⟩ := hsin.loc m h; ⟨o, es, ep, hk' _ _ e, r⟩, ?_, hsin.os⟩ (fun o e => hk' _ _ (hsin.old S o (Nat.le_refl _) (by omega) (by omega) e)) ?_
      · have h1 := GenOnly.setGen s g .running
        have h2 := GenOnly.setGen s₁ g .finished
        rw [← hsin.gens] at h1
        exact h1.trans h2
      · refine setGen_self (gs := .running) ?_
        rw [hsin.gens]; exact setGen_self hgs

theorem hide_Fr {h : Heap} {L C : Nat} {h' : Heap} {m : Str → Option Value} (hC : h.objs.size ≤ C) (hn : h'.Ns C m) (hk : ∀ b o, b ≠ L → h.get? b = some o → h'.get? b = some o) : Fr (h.hide L) C h' m :=
  ⟨hn, fun b o e => hk b o (fun q => by rw [show (b : Nat) = L from q, Heap.hide_self] at e; cases e) (Heap.of_hide e), by rw [Heap.hide_size]; exact hC⟩

theorem ue_told (hh : A.handled = none) (hd : A.depth < recursionLimit) (U : UeFn K) {s : Shared} (X : K.In (s.heap.hide L)) (hlim : s.heap.NoLimit) (hL : L < s.heap.objs.size) (hL2 : 2 ≠ L) (h2 : 2 < s.heap.objs.size) (hout : out.length ≤ sizeLine) {mL : Str → Option Value} (hmL : s.heap.Ns L mL)
    {ib : Value} {kv : Value} {vs : List Value} (hv : vs = [ib, kv] ∨ (vs = [ib] ∧ kv = .none)) {Q : Value → Shared → Prop}
    (start : ∀ (s' : Shared) (m : Str → Option Value), Fr (s.heap.hide L) s.heap.objs.size s'.heap m → s'.heap.Ns L mL → m (Str.ofString "iterable") = some ib → m (Str.ofString "key") = some kv → (s'.heap.get? (s.heap.objs.size + 2 : Nat)).isSome = true →
      Seg (model prog w) A.in1.in1.in1 (ueEnd (s.heap.objs.size + 2) s.heap.objs.size L) (uePro (s.heap.objs.size + 2) s.heap.objs.size L out) out.length s' (.func ueBody (uenv s.heap.objs.size)) ((model prog w).den (.func ueBody (uenv s.heap.objs.size))) [] s')
    (h : ∀ s' l, Told L s s' l out → Q (.ref l) s') :
    wpAny (model prog w) A (call (.ref 59) vs) (fun v s₁ => wpAny (model prog w) A (call (.type "list") [v]) Q E s₁) E s := by
  refine ue_made U (X.keeps fun b o e => Heap.of_hide e) hlim hd hv fun h' m tk hn hm1 hm2 hk hg hz => ?_
  have F := ue_feeds (prog := prog) (w := w) (A := A.in1.in1) (N := s.heap.objs.size) (S := s.heap.objs.size + 2) (C := s.heap.objs.size) (L := L) (out := out) (g := s.gens.size) (a := s.heap.objs.size + 1) hh hd (by omega) (by omega) (by omega) (by omega) (by omega) (by omega) (by omega) (by omega) hL2
  rw [← hz] at F
  refine feed_list F (by show s.heap.objs.size ≤ h'.objs.size; omega) hL hout (by show @Ne Nat (s.heap.objs.size + 1) h'.objs.size; omega) (fun s₁ e => ?_) (fun s' acc' c' hm hl hi hgen => ?_)
  · subst e
    refine ⟨hg.push _, (hlim.keeps hk).push _, .fresh (.func ueBody (uenv s.heap.objs.size)), by simp, fun s'' hk'' hS'' => ⟨rfl, ?_⟩⟩
    dsimp only at hk'' hS'' ⊢
    rw [hz] at hk'' hS'' ⊢
    refine start s'' m (hide_Fr (Nat.le_refl _) ?_ fun b o hb e => ?_) ?_ hm1 hm2 hS''
    · exact hn.at' fun o e => hk'' _ o (by show @Ne Nat s.heap.objs.size (s.heap.objs.size + 2); omega) (Heap.get?_push_of_some _ e)
    · exact hk'' _ o (by have : (b : Nat) < s.heap.objs.size := Heap.lt_size e; show @Ne Nat b (s.heap.objs.size + 2); omega) (Heap.get?_push_of_some _ (hk b o e))
    · exact hmL.at' fun o e => hk'' _ o (by show @Ne Nat L (s.heap.objs.size + 2); omega) (Heap.get?_push_of_some _ (hk _ _ e))
  · dsimp only at hm hl
    refine h s' _ ⟨fun b o hb e => ?_, fun m' hn' => hm.loc m' (let ⟨o, es, ep, e, r⟩ := hn'; ⟨o, es, ep, hk _ _ e, r⟩), ⟨acc', c', hl, items_ints hi⟩, by show s.heap.objs.size ≤ h'.objs.size; omega, fun hb => ?_, hm.os⟩
    · have : (b : Nat) < s.heap.objs.size := Heap.lt_size e
      exact hm.old b o this (by show @Ne Nat b s.heap.objs.size; omega) hb (hk b o e)
    · intro y hy
      obtain ⟨i, hi', rfl⟩ := Array.mem_iff_getElem.mp hy
      by_cases hig : i = s.gens.size
      · subst hig
        have : s'.gens[s.gens.size] = .finished := by rw [Array.getElem?_eq_getElem hi'] at hgen; exact Option.some.inj hgen
        rw [this]; rfl
      · have e := hm.gens.2 i hig
        have hsz : s'.gens.size = s.gens.size + 1 := by rw [hm.gens.1]; simp
        rw [Array.getElem?_eq_getElem hi', Array.getElem?_push_lt (by omega)] at e
        rw [Option.some.inj e]
        exact hb _ (Array.getElem_mem _)
end
end
end Mine

namespace Mine
open PySem PySem.W PySem.Calls PyProof.Rows
set_option maxRecDepth 100000

section
variable {prog : Program} {w : World} {A : Around} {E : Value → Shared → Prop} {L : Nat} {p : Program} {loose : List Str} {mg mb : Str → Option Value} {K : Frag}

theorem told_key (hh : A.handled = none) (hd : A.depth ≤ 440) (U : UeFn K) {s : Shared} (X : K.In (s.heap.hide L)) (T : TopRead p loose mg mb (s.heap.hide L)) (hlim : s.heap.NoLimit) (hL : L < s.heap.objs.size) (hL2 : 2 ≠ L) (h2 : 2 < s.heap.objs.size) {mL : Str → Option Value} (hmL : s.heap.Ns L mL)
    {ib kf : Addr} {f : Int → Int} {xs : List Int} (hk : KeyOk prog w (s.heap.hide L) kf f xs) (hsrc : Src prog w (s.heap.hide L) ib xs) (hxs : xs.length < 4000) {Q : Value → Shared → Prop}
    (h : ∀ s' l, Told L s s' l (ded f [] xs) → Q (.ref l) s') :
    wpAny (model prog w) A (call (.ref 59) [.ref ib, .ref kf]) (fun v s₁ => wpAny (model prog w) A (call (.type "list") [v]) Q E s₁) E s := by
  have hlen := ded_length f xs []
  have hz : (ded f [] xs).length ≤ sizeLine := by
    have : sizeLine ≥ 5000 := by decide
    omega
  refine ue_told hh (by have : recursionLimit = 1000 := rfl; omega) U X hlim hL hL2 h2 hz hmL (.inl rfl) (fun s' m F _ hm1 hm2 hS => ?_) h
  exact key_start (A := A.in1.in1.in1) hh (by show A.depth ≤ 450; omega) X T U.set hk hsrc (by rw [Heap.hide_size]; exact Nat.le_refl _) (by omega) (by rw [Heap.hide_size]; exact hL) hxs s' m F hm1 hm2 hS
end
end Mine

namespace Mine
open PySem PySem.W PySem.Calls PyProof.Rows
set_option maxRecDepth 100000

/-! the class's pieces, read off the row -/
def ffCls : List Stmt := match PySem.Challenge.pw_ij0068_01.main.body.getD 1 (.Pass default) with | .ClassDef _ _ _ b _ _ _ _ _ _ _ => b | _ => []
def ffDef (i : Nat) : Stmt := ffCls.getD i (.Pass default)
def dParams (st : Stmt) : Arguments := match st with | .FunctionDef _ a _ _ _ _ _ _ _ _ => a | _ => default
def dBody (st : Stmt) : List Stmt := match st with | .FunctionDef _ _ b _ _ _ _ _ _ _ => b | _ => []
def dScope (st : Stmt) : Scope := match st with | .FunctionDef _ _ _ _ _ _ sc _ _ _ => sc | _ => default

structure FfK (K : Frag) : Prop where
  name : nsIn K mainGlobals (Str.ofString "filterfalse") = some (some (.ref 47))
  keep : keepIn K (.ref 47) = true
  makes : makesIn K 47 = true
  init : findIn K (.ref 47) "__init__" = some (some (.ref 29))
  initF : isFn K (.ref 29) = true
  iter : findIn K (.ref 47) "__iter__" = some (some (.ref 36))
  iterF : isFn K (.ref 36) = true
  next : findIn K (.ref 47) "__next__" = some (some (.ref 43))
  nextF : isFn K (.ref 43) = true
  setattr : findIn K (.ref 47) "__setattr__" = some (some (.builtin "object.__setattr__"))
  over : plainOver K 47 = true
  takeIt : takerIn K 47 (Str.ofString "_it") = some (some (.ref 49))
  takeFn : takerIn K 47 (Str.ofString "_func") = some (some (.ref 48))
  tyIt : typeIn K (.ref 49) = some (.type "member_descriptor")
  tyFn : typeIn K (.ref 48) = some (.type "member_descriptor")
  slotIt : slotIn K 49 47 = some 1
  slotFn : slotIn K 48 47 = some 0
  plain : ∀ name, plainGet K 47 name = true
  cls : isClsIn K 47 = true
  findIt : findIn K (.ref 47) (Str.ofString "_it") = some (some (.ref 49))
  findFn : findIn K (.ref 47) (Str.ofString "_func") = some (some (.ref 48))
  getIt : specialIn K (.ref 49) "__get__" = some (some (.builtin "member_descriptor.__get__"))
  getFn : specialIn K (.ref 48) "__get__" = some (some (.builtin "member_descriptor.__get__"))
  takesIt : takesIn K (.ref 49) = some true
  takesFn : takesIn K (.ref 48) = some true
  fn29 : ∃ oc od sl doc pm ct, K.lookup 29 = some ⟨oc, od, .func (fnOf (Str.ofString "__init__") (Str.ofString "filterfalse.__init__") (dParams (ffDef 1)) (dBody (ffDef 1)) (dScope (ffDef 1)) .none .none doc pm none (.ref 28) ct), sl⟩
  fn36 : ∃ oc od sl doc pm ct, K.lookup 36 = some ⟨oc, od, .func (fnOf (Str.ofString "__iter__") (Str.ofString "filterfalse.__iter__") (dParams (ffDef 2)) (dBody (ffDef 2)) (dScope (ffDef 2)) .none .none doc pm none (.ref 35) ct), sl⟩
  fn43 : ∃ oc od sl doc pm ct, K.lookup 43 = some ⟨oc, od, .func (fnOf (Str.ofString "__next__") (Str.ofString "filterfalse.__next__") (dParams (ffDef 3)) (dBody (ffDef 3)) (dScope (ffDef 3)) .none .none doc pm none (.ref 42) ct), sl⟩
  cd28 : codeIn K (.ref 28) (Str.ofString "filterfalse.__init__") = true
  cd35 : codeIn K (.ref 35) (Str.ofString "filterfalse.__iter__") = true
  cd42 : codeIn K (.ref 42) (Str.ofString "filterfalse.__next__") = true
  nIter : nsIn K mainGlobals (Str.ofString "iter") = some none
  nNext : nsIn K mainGlobals (Str.ofString "next") = some none
  nBool : nsIn K mainGlobals (Str.ofString "bool") = some none

theorem ffK_at (P : _) : FfK (hd.heap_39 P) where
  name := by rfl
  keep := by rfl
  makes := by rfl
  init := by rfl
  initF := by rfl
  iter := by rfl
  iterF := by rfl
  next := by rfl
  nextF := by rfl
  setattr := by rfl
  over := by rfl
  takeIt := by rfl
  takeFn := by rfl
  tyIt := by rfl
  tyFn := by rfl
  slotIt := by rfl
  slotFn := by rfl
  plain := fun _ => by rfl
  cls := by rfl
  findIt := by rfl
  findFn := by rfl
  getIt := by rfl
  getFn := by rfl
  takesIt := by rfl
  takesFn := by rfl
  fn29 := ⟨_, _, _, _, _, _, rfl⟩
  fn36 := ⟨_, _, _, _, _, _, rfl⟩
  fn43 := ⟨_, _, _, _, _, _, rfl⟩
  cd28 := by rfl
  cd35 := by rfl
  cd42 := by rfl
  nIter := by rfl
  nNext := by rfl
  nBool := by rfl

section
variable {prog : Program} {w : World} {A : Around} {E : Value → Shared → Prop} {B : Heap} {p : Program} {loose : List Str} {mg mb : Str → Option Value} {K : Frag}

theorem call_iter_list {s : Shared} {l : Addr} {items : Array Value} {Q : Value → Shared → Prop} (hl : s.heap.IsList l items)
    (h : Q (.ref s.heap.objs.size) { s with heap := s.heap.push { cls := .type "list_iterator", data := .fields #[.ref l, .int 0 0] } }) : wpAny (model prog w) A (call (.builtin "iter") [.ref l]) Q E s := by
  refine call_function_entry (by decide +kernel) (by decide +kernel) kdk_entry_iter (kdk_args_iter _) ?_
  unfold Builtin.«iter»
  refine wpAny_bind (m := someArgs "iter" 1 2 _) (wpAny_of_eq (a := [Value.ref l]) (by first | rfl | kernel_rfl!) ?_)
  show wpAny _ _ (pyIter (.ref l) >>= _) _ _ _
  refine wpAny_bind (wpAny_pyIter_list hl ?_)
  exact wpAny_pure ⟨_, rfl, h⟩

abbrev ffObj (dx m3 I : Addr) : Obj := { cls := .ref 47, dict := some dx, data := .plain, slots := #[some (.ref m3), some (.ref I)] }

theorem ff_nocell (i : Nat) (hi : i < 4) : ∀ x ∈ (dScope (ffDef i)).names, x.2 ≠ .cell := by
  match i, hi with
  | 0, _ => decide +kernel
  | 1, _ => decide +kernel
  | 2, _ => decide +kernel
  | 3, _ => decide +kernel

theorem ff_make (W : FfK K) {s : Shared} (hs : ∀ b o, B.get? b = some o → s.heap.get? b = some o) (X : K.In B) (T : TopRead p loose mg mb B) (hd : A.depth ≤ 600) {m3 l : Addr} {items : Array Value} (hl : s.heap.IsList l items) {Q : Value → Shared → Prop}
    (h : ∀ (h' : Heap) (tk : Nat) (I : Nat), (∀ b o, s.heap.get? b = some o → h'.get? b = some o) → s.heap.objs.size + 1 < I → h'.get? (s.heap.objs.size + 1 : Nat) = some (ffObj s.heap.objs.size m3 I) → h'.get? s.heap.objs.size = some (dictOf [] 0) →
      h'.IsListIter I l 0 → Q (.ref (s.heap.objs.size + 1 : Nat)) { s with heap := h', toks := tk }) :
    wpAny (model prog w) A (call (.ref 47) [.ref m3, .ref l]) Q E s := by
  obtain ⟨oc, od, sl, doc, pm, ct, ho⟩ := W.fn29
  obtain ⟨g, gens, dr, tk, os⟩ := s
  dsimp only at hs hl h ⊢
  have XK : K.In g := X.keeps hs
  refine wpAny_call (make_core (makes_of XK W.makes) (looks_findIn XK W.init) (fun self => bind_fn XK self (beq_iff_eq.mp W.initF)) (.inl rfl) ?_)
  generalize hN : g.objs.size = N at *
  generalize hR : (fun (r : Result) s' => match r with | .ok (.ret v) => Q v s' | .ok _ => False | .error e => E e s') = R
  have hk₁ : ∀ b o, g.get? b = some o → ((g.push emptyDict).push (instObj 47 N)).get? b = some o := fun b o e => Heap.get?_push_of_some _ (Heap.get?_push_of_some _ e)
  have hz₁ : ((g.push emptyDict).push (instObj 47 N)).objs.size = N + 2 := by rw [Heap.size_push, Heap.size_push, hN]
  have hx₁ : ((g.push emptyDict).push (instObj 47 N)).get? (N + 1 : Nat) = some (instObj 47 N) := by
    have := Heap.get?_push_size (g.push emptyDict) (o := instObj 47 N) rfl
    rw [Heap.size_push, hN] at this; exact this
  have hd₁ : ((g.push emptyDict).push (instObj 47 N)).get? N = some emptyDict := Heap.get?_push_of_some _ (hN ▸ Heap.get?_push_size g (o := emptyDict) rfl)
  generalize ((g.push emptyDict).push (instObj 47 N)) = g₁ at *
  have XK₁ : K.In g₁ := XK.keeps hk₁
  have lowB : ∀ (b : Nat) o, B.get? b = some o → b < N := fun b o e => hN ▸ Heap.lt_size (hs b o e)
  have kh : ∀ (b : Nat) o, B.get? b = some o → (g₁.hide (N + 1 : Nat)).get? b = some o := fun b o e => (Heap.hide_ne _ (by have := lowB b o e; show @Ne Nat b (N + 1); omega)).trans (hk₁ _ _ (hs b o e))
  have XB : K.In (g₁.hide (N + 1 : Nat)) := X.keeps kh
  have TB := T.keeps kh
  refine codeAny_call_def (fd := fnOf (Str.ofString "__init__") (Str.ofString "filterfalse.__init__") (dParams (ffDef 1)) (dBody (ffDef 1)) (dScope (ffDef 1)) .none .none doc pm none (.ref 28) ct) (body := dBody (ffDef 1))
    (binds := [(Str.ofString "self", .ref (N + 1 : Nat)), (Str.ofString "function", .ref m3), (Str.ofString "iterable", .ref l)]) ?_ (XK₁ _ _ ho) rfl (T.nolimit.keeps fun b o e => hk₁ _ _ (hs b o e)) (codeRec_of XK₁ W.cd28) rfl (BindsTo.of_eq rfl) ?_ ?_ (fun g₂ hn₂ hk₂ => ?_) (by rfl) (by rfl) (by rfl)
  · show A.depth + 1 < recursionLimit
    have : recursionLimit = 1000 := rfl
    omega
  · exact ff_nocell 1 (by decide)
  · intro y hy
    rcases List.mem_cons.mp hy with rfl | hy
    · rfl
    · rcases List.mem_cons.mp hy with rfl | hy
      · rfl
      · rcases List.mem_cons.mp hy with rfl | hy
        · rfl
        · cases hy
  · dsimp only at hn₂ hk₂ ⊢
    rw [hz₁] at hn₂ ⊢
    generalize hE : (fun (e : Value) (s' : Shared) => wpAny (model prog w) _ (leaving _ e) _ _ s') = E₂
    show wpAny _ _ (execs (dBody (ffDef 1)) (envOf (Str.ofString "filterfalse.__init__") (dScope (ffDef 1)) (N + 2 : Nat) 29 (.ref 28))) _ _ _
    generalize (tk + _ : Nat) = tk₂
    have F₂ : Fr (g₁.hide (N + 1 : Nat)) (N + 2 : Nat) g₂ _ := ⟨hn₂, fun b o e => hk₂ b o (Heap.of_hide e), by rw [Heap.hide_size, hz₁]; exact Nat.le_refl _⟩
    have N₂ : News (g₁.hide (N + 1 : Nat)) (N + 2 : Nat) g₂ [((N + 1 : Nat), instObj 47 N)] := fun q hq => by
      rw [List.mem_singleton.mp hq]
      exact ⟨hk₂ _ _ hx₁, by show @Ne Nat (N + 1) (N + 2); omega, Heap.hide_self _ _⟩
    refine wpAny_execs_cons ?_
    refine plainObj_wpAny_Assign_Attribute ?_
    refine wpAny_Call_NameR (name_B F₂ XB TB W.nIter (by rfl) (by decide) ?_)
    refine callWith_builtin1 (wpAny_items_cons (ld F₂ (v := .ref l) (by rfl) (wpAny_items_nil ?_)))
    have hl₂ : g₂.IsList l items := let ⟨o, e, r⟩ := hl; ⟨o, hk₂ _ _ (hk₁ _ _ e), r⟩
    refine call_iter_list hl₂ ?_
    have F₃ := F₂.push { cls := .type "list_iterator", data := .fields #[.ref l, .int 0 0] }
    have N₃ := N₂.push F₂ { cls := .type "list_iterator", data := .fields #[.ref l, .int 0 0] }
    have hlt : N + 2 < g₂.objs.size := hn₂.lt
    have hit : (g₂.push { cls := .type "list_iterator", data := .fields #[.ref l, .int 0 0] }).get? g₂.objs.size = some { cls := .type "list_iterator", data := .fields #[.ref l, .int 0 0] } := Heap.get?_push_size _ rfl
    have hx₃ : (g₂.push { cls := .type "list_iterator", data := .fields #[.ref l, .int 0 0] }).get? (N + 1 : Nat) = some (instObj 47 N) := Heap.get?_push_of_some _ (hk₂ _ _ hx₁)
    have hk₃ : ∀ b o, g₁.get? b = some o → (g₂.push { cls := .type "list_iterator", data := .fields #[.ref l, .int 0 0] }).get? b = some o := fun b o e => Heap.get?_push_of_some _ (hk₂ b o e)
    dsimp only
    generalize (g₂.push { cls := .type "list_iterator", data := .fields #[.ref l, .int 0 0] }) = g₃ at *
    generalize g₂.objs.size = I at *
    refine ld F₃ (v := .ref (N + 1 : Nat)) (by rfl) ?_
    have I₃ : PySem.W.InstAt g₃ (N + 1 : Nat) (instObj 47 N) 47 (some (dictOf [] 0)) := ⟨hx₃, rfl, rfl, hk₃ _ _ hd₁⟩
    refine set_slot F₃ XB N₃ I₃ W.setattr W.over W.takeIt W.tyIt W.slotIt (by decide) rfl rfl (.tail (by show @Ne Nat I (N + 1); omega) (.head (by intro q hq; cases hq))) (fun g₄ F₄ N₄ => ?_)
    refine wpAny_execs_cons ?_
    refine plainObj_wpAny_Assign_Attribute ?_
    refine ld F₄ (v := .ref m3) (by rfl) ?_
    refine ld F₄ (v := .ref (N + 1 : Nat)) (by rfl) ?_
    have hd₄ : g₄.get? N = some (dictOf [] 0) := F₄.keep _ _ ((Heap.hide_ne _ (by show @Ne Nat N (N + 1); omega)).trans hd₁)
    have I₄ : PySem.W.InstAt g₄ (N + 1 : Nat) { cls := .ref 47, dict := some N, data := .plain, slots := #[none, some (.ref I)] } 47 (some (dictOf [] 0)) := ⟨(N₄ _ (.tail _ (.head _))).1, rfl, rfl, hd₄⟩
    refine set_slot (ox' := ffObj N m3 I) F₄ XB N₄ I₄ W.setattr W.over W.takeFn W.tyFn W.slotFn (by decide) rfl rfl (.tail (by show @Ne Nat I (N + 1); omega) (.head (by intro q hq; cases hq))) (fun g₅ F₅ N₅ => ?_)
    refine wpAny_execs_nil ?_
    refine ⟨rfl, ?_⟩
    refine h g₅ _ I (fun b o e => F₅.keep b o ((Heap.hide_ne _ ?_).trans (hk₁ b o e))) (by omega) (N₅ _ (.tail _ (.head _))).1 (F₅.keep _ _ ((Heap.hide_ne _ (by show @Ne Nat N (N + 1); omega)).trans hd₁)) ⟨_, (N₅ _ (.head _)).1, rfl, rfl⟩
    have hb : (b : Nat) < g.objs.size := Heap.lt_size e
    rw [hN] at hb
    exact Nat.ne_of_lt (Nat.lt_succ_of_lt hb)
end
end Mine

namespace Mine
open PySem PySem.W PySem.Calls PyProof.Rows
set_option maxRecDepth 100000

theorem get?_above {h : Heap} {b : Nat} (hb : h.objs.size ≤ b) : h.get? b = none := by
  cases q : h.get? b with
  | none => rfl
  | some o => exact absurd (show b < h.objs.size from Heap.lt_size q) (Nat.not_lt.mpr hb)

section
variable {prog : Program} {w : World} {A : Around} {E : Value → Shared → Prop}

theorem call_next_item {s : Shared} {it l : Addr} {i : Nat} {items : Array Value} {x : Value} {Q : Value → Shared → Prop} (hit : s.heap.IsListIter it l i) (hl : s.heap.IsList l items) (hx : items[i]? = some x)
    (hQ : ∀ h', h'.IsListIter it l (i + 1) → Heap.SameBut it s.heap h' → Q x { s with heap := h' }) : wpAny (model prog w) A (call (.builtin "next") [.ref it]) Q E s := by
  refine call_function_entry (by decide +kernel) (by decide +kernel) kdk_entry_next (kdk_args_next _) ?_
  unfold Builtin.«next»
  refine wpAny_bind (m := someArgs "next" 1 2 _) (wpAny_of_eq (a := [Value.ref it]) (by first | rfl | kernel_rfl!) ?_)
  dsimp only
  refine wpAny_bind (wpAny_specialOf (name := Str.ofString "__next__") hit.typeIs slot_listiter_next.lookup ?_)
  refine wpAny_ite_split (fun hab => absurd hab (by decide)) (fun _ => ?_)
  obtain ⟨o, ho, hc, hd⟩ := id hit
  obtain ⟨ol, hol, _, nl, hdl⟩ := hl
  refine wpAny_bind (wpAny_callSpecial?_slot (name := Str.ofString "__next__") hit.typeIs slot_listiter_next
    (wpAny_call_entry slot_listiter_next hit.typeIs entry_listiter_next ?_ (args_listiter_next _)))
  show wpAny _ _ (field (.ref it) 0 >>= _) _ _ s
  refine wpAny_bind (wpAny_field ho hd (x := .ref l) rfl ?_)
  show wpAny _ _ (if (Value.ref l == Value.none) = true then _ else _) _ _ s
  rw [if_neg (show ¬ ((Value.ref l == Value.none) = true) from Bool.false_ne_true)]
  show wpAny _ _ (field (.ref it) 1 >>= _) _ _ s
  refine wpAny_bind (wpAny_field ho hd (x := .int i 0) rfl ?_)
  show wpAny _ _ (seqItems? (.ref l) >>= _) _ _ s
  refine wpAny_bind (wpAny_seqItems hol hdl ?_)
  simp only [Int.toNat_natCast, hx]
  refine wpAny_bind (wpAny_setField ho hd (by simp) (wpAny_pure ⟨x, rfl, wpAny_pure ⟨x, rfl, hQ _ ?_ (Heap.SameBut.update ..)⟩⟩))
  exact ⟨_, Heap.get?_update_self _ ho (Obj.isFreed_of_fields (Obj.data_mapFields hd _)), (Obj.cls_mapFields ..).trans hc, by
    rw [Obj.data_mapFields hd]; simp [rawInt]⟩

theorem call_next_end {s : Shared} {it l : Addr} {i : Nat} {items : Array Value} {Q : Value → Shared → Prop} (hh : A.handled = none) (hit : s.heap.IsListIter it l i) (hl : s.heap.IsList l items) (hx : items[i]? = none)
    (hE : ∀ h₁ h' e, Heap.SameBut it s.heap h₁ → Heap.MadeExcOf h₁ h' e (.type "StopIteration") [] → E (.ref e) { s with heap := h' }) : wpAny (model prog w) A (call (.builtin "next") [.ref it]) Q E s := by
  refine call_function_entry (by decide +kernel) (by decide +kernel) kdk_entry_next (kdk_args_next _) ?_
  unfold Builtin.«next»
  refine wpAny_bind (m := someArgs "next" 1 2 _) (wpAny_of_eq (a := [Value.ref it]) (by first | rfl | kernel_rfl!) ?_)
  dsimp only
  refine wpAny_bind (wpAny_specialOf (name := Str.ofString "__next__") hit.typeIs slot_listiter_next.lookup ?_)
  refine wpAny_ite_split (fun hab => absurd hab (by decide)) (fun _ => ?_)
  obtain ⟨o, ho, hc, hd⟩ := id hit
  obtain ⟨ol, hol, _, nl, hdl⟩ := hl
  refine wpAny_bind (wpAny_callSpecial?_slot (name := Str.ofString "__next__") hit.typeIs slot_listiter_next
    (wpAny_call_entry slot_listiter_next hit.typeIs entry_listiter_next ?_ (args_listiter_next _)))
  show wpAny _ _ (field (.ref it) 0 >>= _) _ _ s
  refine wpAny_bind (wpAny_field ho hd (x := .ref l) rfl ?_)
  show wpAny _ _ (if (Value.ref l == Value.none) = true then _ else _) _ _ s
  rw [if_neg (show ¬ ((Value.ref l == Value.none) = true) from Bool.false_ne_true)]
  show wpAny _ _ (field (.ref it) 1 >>= _) _ _ s
  refine wpAny_bind (wpAny_field ho hd (x := .int i 0) rfl ?_)
  show wpAny _ _ (seqItems? (.ref l) >>= _) _ _ s
  refine wpAny_bind (wpAny_seqItems hol hdl ?_)
  simp only [Int.toNat_natCast, hx]
  refine wpAny_bind (wpAny_rule (wpAny_bind (wpAny_setField ho hd (by simp) ?_)))
  show wpAny _ _ (newExc (.type "StopIteration") [] >>= _) _ _ _
  refine wpAny_bind ?_
  simp only [newExc, newTuple]
  refine wpAny_bind (wpAny_newObj_type ?_ (by size_fits))
  refine wpAny_bind (m := firstArgMember _ _) (wpAny_of_eq (a := Value.none) (by first | rfl | (simp only [firstArgMember]; rfl)) ?_)
  refine wpAny_newObj_type ?_ (by size_fits)
  simp only [raiseNew]
  refine wpAny_bind (wpAny_handled ?_)
  first | rw [show A.in1.in1.handled = none from hh] | rw [show A.in1.handled = none from hh] | rw [hh]
  refine wpAny_bind (wpAny_pure (wpAny_throw ?_))
  refine hE _ _ _ (Heap.SameBut.update ..) ⟨fun b o e => Heap.get?_push_of_some _ (Heap.get?_push_of_some _ e), ?_, ⟨_, Heap.get?_push_size _ rfl, ?_, Heap.get?_push_of_some _ (Heap.get?_push_size _ rfl)⟩⟩
  · exact get?_above (by rw [Heap.size_push]; exact Nat.le_succ _)
  · exact get?_above (Nat.le_refl _)
end

section
variable {prog : Program} {w : World} {A : Around} {E : Value → Shared → Prop} {B : Heap} {p : Program} {loose : List Str} {mg mb : Str → Option Value} {K : Frag} {C L : Nat} {m : Str → Option Value}

theorem ff_iter (W : FfK K) {s : Shared} (F : Fr B C s.heap m) (X : K.In B) (T : TopRead p loose mg mb B) (hd : A.depth ≤ 600) {x dx m3 I : Nat} (hx : s.heap.get? x = some (ffObj dx m3 I)) (hdx : s.heap.get? dx = some (dictOf [] 0)) {Q : Value → Shared → Prop}
    (h : ∀ (h' : Heap) (tk : Nat), (∀ b o, s.heap.get? b = some o → h'.get? b = some o) → Q (.ref x) { s with heap := h', toks := tk }) :
    wpAny (model prog w) A (pyIter (.ref x)) Q E s := by
  obtain ⟨oc, od, sl, doc, pm, ct, ho⟩ := W.fn36
  have I₀ : PySem.W.InstAt s.heap x (ffObj dx m3 I) 47 (some (dictOf [] 0)) := ⟨hx, rfl, rfl, hdx⟩
  have XK : K.In s.heap := X.keeps F.keep
  refine owit_iter F X I₀ W.iter W.iterF (wpAny_call ?_)
  refine codeAny_call_def (fd := fnOf (Str.ofString "__iter__") (Str.ofString "filterfalse.__iter__") (dParams (ffDef 2)) (dBody (ffDef 2)) (dScope (ffDef 2)) .none .none doc pm none (.ref 35) ct) (body := dBody (ffDef 2))
    (binds := [(Str.ofString "self", .ref x)]) ?_ (XK _ _ ho) rfl (T.nolimit.keeps F.keep) (codeRec_of XK W.cd35) rfl (BindsTo.of_eq rfl) (ff_nocell 2 (by decide)) ?_ (fun g₂ hn₂ hk₂ => ?_) (by rfl) (by rfl) (by rfl)
  · have : recursionLimit = 1000 := rfl
    omega
  · intro y hy
    rcases List.mem_cons.mp hy with rfl | hy
    · rfl
    · cases hy
  · generalize hE : (fun (e : Value) (s' : Shared) => wpAny (model prog w) _ (leaving _ e) _ _ s') = E₂
    show wpAny _ _ (execs (dBody (ffDef 2)) (envOf (Str.ofString "filterfalse.__iter__") (dScope (ffDef 2)) s.heap.objs.size 36 (.ref 35))) _ _ _
    have F₂ : Fr s.heap s.heap.objs.size g₂ _ := ⟨hn₂, hk₂, Nat.le_refl _⟩
    refine wpAny_execs_cons (wpAny_Return_some (ld F₂ (v := .ref x) (by rfl) ?_))
    have F₃ : Fr B C g₂ m := F.kept hk₂
    have I₃ : PySem.W.InstAt g₂ x (ffObj dx m3 I) 47 (some (dictOf [] 0)) := ⟨hk₂ _ _ hx, rfl, rfl, hk₂ _ _ hdx⟩
    exact owit_it (s := { s with heap := g₂, toks := _ }) F₃ X I₃ W.next (h g₂ _ hk₂)

/-- the rows the loop of `__next__` meets -/
structure FfAt (prog : Program) (w : World) (h : Heap) (x dx m3 D I l : Nat) (items : Array Value) (i : Nat) (seen : List Int) (n : Nat) : Prop where
  obj : h.get? x = some (ffObj dx m3 I)
  dict : h.get? dx = some (dictOf [] 0)
  bound : h.get? m3 = some (bmObj "set.__contains__" D)
  set : h.SetOf (PySem.intKind prog w) D (fun k => decide (k ∈ seen)) n
  list : h.IsList l items
  it : h.IsListIter I l i
  ne : x ≠ I ∧ dx ≠ I ∧ m3 ≠ I ∧ D ≠ I ∧ l ≠ I

theorem FfAt.on {h h' : Heap} {x dx m3 D I l : Nat} {items : Array Value} {i i' : Nat} {seen : List Int} {n : Nat} (a : FfAt prog w h x dx m3 D I l items i seen n) (k : ∀ b o, b ≠ I → h.get? b = some o → h'.get? b = some o) (hi : h'.IsListIter I l i') : FfAt prog w h' x dx m3 D I l items i' seen n where
  obj := k _ _ a.ne.1 a.obj
  dict := k _ _ a.ne.2.1 a.dict
  bound := k _ _ a.ne.2.2.1 a.bound
  set := SetOf.kept a.set (k _ · a.ne.2.2.2.1)
  list := let ⟨o, e, r⟩ := a.list; ⟨o, k _ _ a.ne.2.2.2.2 e, r⟩
  it := hi
  ne := a.ne

def ffWhile : Expr × List Stmt := match (dBody (ffDef 3)).getD 1 (.Pass default) with | .While a b _ _ => (a, b) | _ => (.Constant .none 0 default, [])
abbrev nenv (N : Nat) : Env := envOf (Str.ofString "filterfalse.__next__") (dScope (ffDef 3)) N 43 (.ref 42)

theorem ff_loop (W : FfK K) {s : Shared} (F : Fr B C s.heap m) (X : K.In B) (T : TopRead p loose mg mb B) (hh : A.handled = none) {env₁ env₂ : Env} {N : Nat} (hN : s.heap.objs.size = N) (hfr : A.frames = some [nenv N, env₁, env₂]) (hf₁ : env₁.frame = some C) (hf₂ : env₂.frame = some L)
    (hk₁ : env₁.scope.kind ≠ .module) (hk₂ : env₂.scope.kind ≠ .module) {mL : Str → Option Value} (NL : s.heap.Ns L mL) {x dx m3 D I l : Nat} {vs : List Value} {xs : List Int} (hints : IntsAre vs xs) {i : Nat} {seen : List Int} {n : Nat}
    (hIB : B.get? I = none) (hIC : I ≠ C) (hIL : I ≠ L) (hIN : I < N) (a₀ : FfAt prog w s.heap x dx m3 D I l vs.toArray i seen n) {Qf : Flow → Shared → Prop} {Rr : Value → Shared → Prop} {E₁ : Value → Shared → Prop}
    (hitem : ∀ (i' : Nat) (y : Int) (t : Tok) (h' : Heap) (tk : Nat), i' ≤ xs.length → y ∉ seen → y ∈ xs → ded (fun x => x) seen (xs.drop i) = y :: ded (fun x => x) (y :: seen) (xs.drop i') → h'.IsListIter I l i' →
      (∀ b o, b ≠ I → s.heap.get? b = some o → h'.get? b = some o) → Qf (.ret (.int y t)) { s with heap := h', toks := tk })
    (hdone : ded (fun x => x) seen (xs.drop i) = [] → ∀ (h' : Heap) (tk : Nat) (e : Addr), (∃ o, h'.get? e = some o ∧ o.cls = .type "StopIteration") → (∀ b o, b ≠ I → b ≠ C → b ≠ L → s.heap.get? b = some o → h'.get? b = some o) → (∀ m, s.heap.Ns L m → h'.Ns L m) → Rr (.ref e) { s with heap := h', toks := tk })
    (k : Nat) (s' : Shared) (hI : ∃ i' h' tk m', s' = { s with heap := h', toks := tk } ∧ xs.length - i' = k ∧ i' ≤ xs.length ∧ FfAt prog w h' x dx m3 D I l vs.toArray i' seen n ∧ ded (fun x => x) seen (xs.drop i') = ded (fun x => x) seen (xs.drop i) ∧
      Fr (s.heap.hide I) N h' m' ∧ m' (Str.ofString "self") = some (.ref x) ∧ m' (Str.ofString "func") = some (.ref m3)) :
    codeAny (model prog w) A (.whileLoop ffWhile.1 ffWhile.2 [] (nenv N)) (fun r s' => match r with | .ok f => Qf f s' | .error e => cameBackBy (model prog w) A (nenv N) (fun e s' => wpAny (model prog w) A (leaving (nenv N) e) (fun _ s'' => Rr e s'') E₁ s') e s') s' := by
  have kh : ∀ (b : Addr) o, B.get? b = some o → (s.heap.hide I).get? b = some o := fun b o e => (Heap.hide_ne _ (fun q => by rw [q, hIB] at e; cases e)).trans (F.keep b o e)
  have XB : K.In (s.heap.hide I) := X.keeps kh
  have TB := T.keeps kh
  refine codeAny_whileLoop (fun k s' => ∃ i' h' tk m', s' = { s with heap := h', toks := tk } ∧ xs.length - i' = k ∧ i' ≤ xs.length ∧ FfAt prog w h' x dx m3 D I l vs.toArray i' seen n ∧ ded (fun x => x) seen (xs.drop i') = ded (fun x => x) seen (xs.drop i) ∧
      Fr (s.heap.hide I) N h' m' ∧ m' (Str.ofString "self") = some (.ref x) ∧ m' (Str.ofString "func") = some (.ref m3)) (fun k s' hI => ?_) k hI
  obtain ⟨i₁, g₁, tk₁, m₁, rfl, hk, hi₁, a₁, hded, F₁, hs₁, hf₁'⟩ := hI
  refine wpAny_isTrue_value (wpAny_Constant_bool (wpAny_truthy_bool ?_))
  rw [if_pos rfl]
  refine wpAny_passesOwn PassesOwn.leaving ?_
  refine wpAny_execs_cons (wpAny_Assign_Name ?_)
  refine wpAny_Call_NameR (name_B F₁ XB TB W.nNext (by rfl) (by decide) ?_)
  refine callWith_builtin1 (wpAny_items_cons (Attribute_name (ld F₁ (v := .ref x) hs₁ ?_)))
  have I₁ : PySem.W.InstAt g₁ x (ffObj dx m3 I) 47 (some (dictOf [] 0)) := ⟨a₁.obj, rfl, rfl, a₁.dict⟩
  refine get_slot F₁ XB I₁ (W.plain _) W.cls W.findIt W.getIt W.takesIt W.slotIt rfl rfl (wpAny_items_nil ?_)
  dsimp only
  have hIN' : I ≠ N := by omega
  have kB : ∀ b o, b ≠ I → s.heap.get? b = some o → g₁.get? b = some o := fun b o hb e => F₁.keep b o ((Heap.hide_ne _ hb).trans e)
  by_cases hlt : i₁ < xs.length
  · obtain ⟨v, hv⟩ : ∃ v, vs[i₁]? = some v := ⟨vs[i₁]'(by rw [hints.length]; exact hlt), by simp⟩
    obtain ⟨y, t, rfl, hy⟩ := IntsAre.at hints i₁ v hv
    have hdrop : xs.drop i₁ = y :: xs.drop (i₁ + 1) := by
      rw [List.drop_eq_getElem_cons hlt]
      rw [List.getElem?_eq_getElem hlt] at hy
      rw [Option.some.inj hy]
    refine call_next_item a₁.it a₁.list (x := .int y t) (by simpa using hv) fun g₂ hit₂ hs₂ => ?_
    have a₂ := a₁.on (fun b o hb e => (hs₂.2 b hb).trans e) hit₂
    have F₂ := F₁.change hs₂ hIN' (Heap.hide_self _ _)
    refine wpAny_storeName_local (by rfl) F₂.ns (fun g₃ hn₃ hs₃ => ?_) (by rfl)
    have F₃ := F₂.set hn₃ hs₃
    have kN : ∀ b o, (b : Nat) ≠ N → g₂.get? b = some o → g₃.get? b = some o := fun b o hb e => (hs₃.2 b hb).trans e
    have lt : ∀ {b : Nat} {o : Obj}, s.heap.get? b = some o → b ≠ N := fun e => by have := Heap.lt_size e; rw [hN] at this; exact Nat.ne_of_lt this
    have hit₃ : g₃.IsListIter I l (i₁ + 1) := let ⟨o, e, r⟩ := hit₂; ⟨o, kN _ _ hIN' e, r⟩
    have k₃ : ∀ b o, b ≠ I → s.heap.get? b = some o → g₃.get? b = some o := fun b o hb e => kN b o (lt e) ((hs₂.2 b hb).trans (kB b o hb e))
    have a₃ := a₀.on k₃ hit₃
    refine wpAny_execs_cons (wpAny_If (wpAny_isTrue_BoolOp (wpAny_allTrue_Or_cons ?_)))
    refine wpAny_isTrue_Compare1 (ld F₃ (v := .ref m3) (by rw [if_neg (by decide)]; exact hf₁') ?_)
    refine wpAny_Constant_none (is_none (wpAny_truthy_bool ?_))
    rw [if_neg (by exact Bool.false_ne_true)]
    refine wpAny_allTrue_Or_cons (wpAny_isTrue_Compare1 (ld F₃ (v := .ref m3) (by rw [if_neg (by decide)]; exact hf₁') ?_))
    refine name_B F₃ XB TB W.nBool (v := .type "bool") (by rfl) (by decide) ?_
    refine wpAny_is_other rfl (by nofun) (wpAny_truthy_bool ?_)
    rw [if_neg (by exact Bool.false_ne_true)]
    refine wpAny_allTrue_Or_nil ?_
    rw [if_neg (by exact Bool.false_ne_true)]
    refine wpAny_execs_cons (wpAny_If (wpAny_isTrue_Not (wpAny_isTrue_value ?_)))
    refine wpAny_Call_NameR (ld F₃ (v := .ref m3) (by rw [if_neg (by decide)]; exact hf₁') ?_)
    refine callWith_B (q := m3) (id := "set.__contains__") (D := D) ?_
    refine wpAny_items_cons (ld F₃ (v := .int y t) (if_pos rfl) ?_)
    refine wpAny_items_nil ⟨a₃.bound, ?_⟩
    refine bound_contains (knd := PySem.intKind prog w) (k := y) a₃.bound a₃.set (intKind_is prog w _ _) rfl (wpAny_truthy_bool ?_)
    by_cases hin : y ∈ seen
    · rw [decide_eq_true hin]
      rw [if_neg (by decide)]
      refine wpAny_execs_nil (wpAny_execs_nil (wpAny_execs_nil ?_))
      refine ⟨xs.length - (i₁ + 1), by omega, i₁ + 1, g₃, _, _, rfl, rfl, hlt, a₃, ?_, F₃, by rw [if_neg (by decide)]; exact hs₁, by rw [if_neg (by decide)]; exact hf₁'⟩
      rw [← hded, hdrop, ded, if_pos hin]
    · rw [decide_eq_false hin]
      rw [if_pos (by decide)]
      refine wpAny_execs_cons (wpAny_Return_some (ld F₃ (v := .int y t) (if_pos rfl) ?_))
      refine hitem (i₁ + 1) y t g₃ _ hlt hin (by rw [List.getElem?_eq_getElem hlt] at hy; rw [← Option.some.inj hy]; exact List.getElem_mem _) ?_ hit₃ k₃
      rw [← hded, hdrop, ded, if_neg hin]
  · obtain rfl : i₁ = xs.length := by omega
    have hlen : vs.length = xs.length := hints.length
    refine call_next_end hh a₁.it a₁.list (by simp [hlen]) fun g₂ g₃ e hs₂ hx => ?_
    have hd0 : ded (fun x => x) seen (xs.drop i) = [] := by rw [← hded]; simp [ded]
    have F₂ := F₁.change hs₂ hIN' (Heap.hide_self _ _)
    have lt : ∀ {b : Nat} {o : Obj}, s.heap.get? b = some o → b ≠ N := fun e => by have := Heap.lt_size e; rw [hN] at this; exact Nat.ne_of_lt this
    have k₂ : ∀ b o, b ≠ I → s.heap.get? b = some o → g₂.get? b = some o := fun b o hb e => (hs₂.2 b hb).trans (kB b o hb e)
    have nC : ∀ {a : Addr} {mm : Str → Option Value}, a ≠ I → s.heap.Ns a mm → g₂.Ns a mm := fun ha hn => let ⟨o, es, ep, e, r⟩ := hn; ⟨o, es, ep, k₂ _ _ ha e, r⟩
    obtain ⟨oN, esN, epN, eN, dN, _⟩ := F₂.ns
    obtain ⟨oC, esC, epC, eC, dC, _⟩ := nC (Ne.symm hIC) F.ns
    obtain ⟨oL, esL, epL, eL, dL, _⟩ := nC (Ne.symm hIL) NL
    refine wpAny_leaves_madeW (base := hideAll g₂ [N, C, L]) (h := g₂) hfr rfl (fun b o e => of_hideAll _ e) ?_ hx (fun g₄ t hfl ht htn hup => ?_)
    · refine ⟨by show ScopeKind.function ≠ _; decide, ⟨N, oN, rfl, hideAll_none _ (.head _), eN, fun vs q => by rw [dN] at q; cases q⟩, hk₁, ⟨C, oC, hf₁, hideAll_none _ (.tail _ (.head _)), eC, fun vs q => by rw [dC] at q; cases q⟩, hk₂, ⟨L, oL, hf₂, hideAll_none _ (.tail _ (.tail _ (.head _))), eL, fun vs q => by rw [dL] at q; cases q⟩, trivial⟩
    · refine hdone hd0 g₄ _ e hfl.there (fun b o h1 h2 h3 q => hfl.1 b o (hideAll_get _ (k₂ b o h1 q) ?_)) (fun mm hn => ?_)
      · intro hm
        rcases List.mem_cons.mp hm with rfl | hm
        · exact lt q rfl
        · rcases List.mem_cons.mp hm with rfl | hm
          · exact h2 rfl
          · exact h3 (List.mem_singleton.mp hm)
      · have h1 := nC (Ne.symm hIL) hn
        exact hup.ns (let ⟨o, es, ep, e, r⟩ := h1; ⟨o, es, ep, hx.keeps _ _ e, r⟩)

theorem ff_next (W : FfK K) {s : Shared} (F : Fr B C s.heap m) (X : K.In B) (T : TopRead p loose mg mb B) (hh : A.handled = none) (hd : A.depth ≤ 600) {env₁ env₂ : Env} (hfr : A.frames = some [env₁, env₂]) (hf₁ : env₁.frame = some C) (hf₂ : env₂.frame = some L)
    (hk₁ : env₁.scope.kind ≠ .module) (hk₂ : env₂.scope.kind ≠ .module) {mL : Str → Option Value} (NL : s.heap.Ns L mL) {x dx m3 D I l : Nat} {vs : List Value} {xs : List Int} (hints : IntsAre vs xs) {i : Nat} (hi : i ≤ xs.length) {seen : List Int} {n : Nat}
    (hIB : B.get? I = none) (hIC : I ≠ C) (hIL : I ≠ L) (a : FfAt prog w s.heap x dx m3 D I l vs.toArray i seen n) {Q : Option Value → Shared → Prop}
    (hitem : ∀ (i' : Nat) (y : Int) (t : Tok) (h' : Heap) (tk : Nat), i' ≤ xs.length → y ∉ seen → y ∈ xs → ded (fun x => x) seen (xs.drop i) = y :: ded (fun x => x) (y :: seen) (xs.drop i') → h'.IsListIter I l i' →
      (∀ b o, b ≠ I → s.heap.get? b = some o → h'.get? b = some o) → Q (some (.int y t)) { s with heap := h', toks := tk })
    (hdone : ded (fun x => x) seen (xs.drop i) = [] → ∀ (h' : Heap) (tk : Nat), (∀ b o, b ≠ I → b ≠ C → b ≠ L → s.heap.get? b = some o → h'.get? b = some o) → (∀ m, s.heap.Ns L m → h'.Ns L m) → Q none { s with heap := h', toks := tk }) :
    wpAny (model prog w) A (pyNext (.ref x)) Q E s := by
  obtain ⟨oc, od, sl, doc, pm, ct, ho⟩ := W.fn43
  have I₀ : PySem.W.InstAt s.heap x (ffObj dx m3 I) 47 (some (dictOf [] 0)) := ⟨a.obj, rfl, rfl, a.dict⟩
  have XK : K.In s.heap := X.keeps F.keep
  refine owit_next F X I₀ W.next W.nextF (wpAny_call ?_)
  generalize hN : s.heap.objs.size = N
  have kh : ∀ (b : Addr) o, B.get? b = some o → (s.heap.hide I).get? b = some o := fun b o e => (Heap.hide_ne _ (fun q => by rw [q, hIB] at e; cases e)).trans (F.keep b o e)
  have XB : K.In (s.heap.hide I) := X.keeps kh
  have TB := T.keeps kh
  refine codeAny_call_def (fd := fnOf (Str.ofString "__next__") (Str.ofString "filterfalse.__next__") (dParams (ffDef 3)) (dBody (ffDef 3)) (dScope (ffDef 3)) .none .none doc pm none (.ref 42) ct) (body := dBody (ffDef 3))
    (binds := [(Str.ofString "self", .ref x)]) ?_ (XK _ _ ho) rfl (T.nolimit.keeps F.keep) (codeRec_of XK W.cd42) rfl (BindsTo.of_eq rfl) (ff_nocell 3 (by decide)) ?_ (fun g₂ hn₂ hk₂' => ?_) (by rfl) (by rfl) (by rfl)
  · have : recursionLimit = 1000 := rfl
    omega
  · intro y hy
    rcases List.mem_cons.mp hy with rfl | hy
    · rfl
    · cases hy
  rw [hN] at hn₂ ⊢
  show wpAny _ _ (execs (dBody (ffDef 3)) (envOf (Str.ofString "filterfalse.__next__") (dScope (ffDef 3)) N 43 (.ref 42))) _ (fun e s' => wpAny (model prog w) (A.deeper (envOf (Str.ofString "filterfalse.__next__") (dScope (ffDef 3)) N 43 (.ref 42))) (leaving (envOf (Str.ofString "filterfalse.__next__") (dScope (ffDef 3)) N 43 (.ref 42)) e) _ _ s') _
  have F₂ : Fr (s.heap.hide I) N g₂ _ := ⟨hn₂, fun b o e => hk₂' b o (Heap.of_hide e), by rw [Heap.hide_size, hN]; exact Nat.le_refl _⟩
  refine wpAny_execs_cons (wpAny_Assign_Name (Attribute_name (ld F₂ (v := .ref x) (by rfl) ?_)))
  have I₂ : PySem.W.InstAt g₂ x (ffObj dx m3 I) 47 (some (dictOf [] 0)) := ⟨hk₂' _ _ a.obj, rfl, rfl, hk₂' _ _ a.dict⟩
  refine get_slot F₂ XB I₂ (W.plain _) W.cls W.findFn W.getFn W.takesFn W.slotFn rfl rfl ?_
  refine wpAny_storeName_local (by rfl) F₂.ns (fun g₃ hn₃ hs₃ => ?_) (by rfl)
  have F₃ := F₂.set hn₃ hs₃
  refine wpAny_execs_cons (wpAny_While ?_)
  have hIlt : I < N := by
    obtain ⟨o, e, _⟩ := a.it
    have := Heap.lt_size e
    rw [hN] at this; exact this
  have lt : ∀ {b : Nat} {o : Obj}, s.heap.get? b = some o → b ≠ N := fun e => by have := Heap.lt_size e; rw [hN] at this; exact Nat.ne_of_lt this
  have k₃ : ∀ b o, s.heap.get? b = some o → g₃.get? b = some o := fun b o e => (hs₃.2 b (lt e)).trans (hk₂' b o e)
  refine codeAny_mono (ff_loop (A := A.deeper (nenv N)) (Qf := fun f s' => ∃ v, f = .ret v ∧ Q (some v) s') (Rr := fun e s' => OwitStop (model prog w) A Q E e s') (E₁ := fun e s' => OwitStop (model prog w) A Q E e s') W F X T hh hN (env₁ := env₁) (env₂ := env₂) ?_ hf₁ hf₂ hk₁ hk₂ NL hints hIB hIC hIL hIlt a (fun i' y t h' tk h1 h2 h3 h4 h5 h6 => ?_) (fun h1 h' tk e he h2 h3 => ?_) (xs.length - i) _
    ⟨i, g₃, _, _, rfl, rfl, hi, a.on (fun b o _ e => k₃ b o e) (let ⟨o, e, r⟩ := a.it; ⟨o, k₃ _ _ e, r⟩), rfl, F₃, by rw [if_neg (by decide)]; rfl, if_pos rfl⟩) (fun r s' hr => ?_)
  · show A.frames.map _ = _
    rw [hfr]; rfl
  · exact ⟨_, rfl, hitem i' y t h' tk h1 h2 h3 h4 h5 h6⟩
  · unfold OwitStop
    refine wpAny_isInstance (T := "StopIteration") (b := true) he isSubtype_stop ?_
    rw [if_pos rfl]
    exact hdone h1 h' tk h2 h3
  · cases r with
    | error e => exact hr
    | ok f =>
      obtain ⟨v, rfl, hq⟩ := hr
      exact hq
end
end Mine

namespace Mine
open PySem PySem.W PySem.Calls PyProof.Rows
set_option maxRecDepth 100000

section
variable {prog : Program} {w : World} {A : Around} {B : Heap} {S C L : Nat} {p : Program} {loose : List Str} {mg mb : Str → Option Value} {K : Frag}

theorem over_frames {A : Around} {lenv : Env} (hfr : A.frames = some [lenv]) {x : Str} {px : Pos} {it : Value} {body : List Stmt} {C : Nat} {k₀ : Result → Sem Fin} {pf : Pos} :
    (A.over (.forLoop (.Name x px) it body [] (uenv C)) [.ret k₀ none false [] (.func ueBody (uenv C)) pf []]).frames = some [uenv C, lenv] := by
  unfold Around.over
  dsimp only
  rw [hfr]; rfl

abbrev lpA (A : Around) (x C : Nat) (k₀ : Result → Sem Fin) (pf : Pos) : Around := A.over (.forLoop (.Name (Str.ofString "element") noneFor.1) (.ref x) noneFor.2 [] (uenv C)) [.ret k₀ none false [] (.func ueBody (uenv C)) pf []]

theorem none_loop (W : FfK K) (hh : A.handled = none) (hd : A.depth ≤ 450) {lenv : Env} (hfr : A.frames = some [lenv]) (hfL : lenv.frame = some L) (hkL : lenv.scope.kind ≠ .module) (X : K.In B) (T : TopRead p loose mg mb B)
    {x dx m2 m3 D I l : Nat} {vs : List Value} {xs out : List Int} (hints : IntsAre vs xs) (hB : B.objs.size ≤ C) (hCS : C < S) (hL : L < B.objs.size) (hl : l < B.objs.size)
    (hSx : S < x) (hSdx : S < dx) (hSm2 : S < m2) (hSm3 : S < m3) (hSD : S < D) (hSI : S < I) (h2D : m2 ≠ D) (h2I : m2 ≠ I) (hxD : x ≠ D) (hdxD : dx ≠ D) (h3D : m3 ≠ D) (hID : I ≠ D) (hxs : xs.length < 4000)
    {k₀ : Result → Sem Fin} {pf : Pos} (hk₀ : k₀ (.ok .next) = .pure (.done (.ret .none))) {mL : Str → Option Value} :
    ∀ (d : List Int) (i : Nat) (seen : List Int) (n : Nat) (s₀ s : Shared) (m : Str → Option Value), ded (fun x => x) seen (xs.drop i) = d → i ≤ xs.length → m (Str.ofString "seen_add") = some (.ref m2) → Fr B C s.heap m → s.heap.Ns L mL →
      FfAt prog w s.heap x dx m3 D I l vs.toArray i seen n → n + d.length ≤ xs.length → s.heap.get? m2 = some (bmObj "set.add" D) → (s.heap.get? S).isSome = true →
      out.drop (out.length - d.length) = d → d.length ≤ out.length → Sin S C L s₀ s →
      Seg (model prog w) A (ueEnd S C L) (uePro S C L out) d.length s₀ (.forLoop (.Name (Str.ofString "element") noneFor.1) (.ref x) noneFor.2 [] (uenv C))
        ((model prog w).den (.forLoop (.Name (Str.ofString "element") noneFor.1) (.ref x) noneFor.2 [] (uenv C))) [.ret k₀ none false [] (.func ueBody (uenv C)) pf []] s := by
  have hLC : L ≠ C := by omega
  have hLS : L ≤ S := by omega
  have lowB : ∀ (b : Nat) o, B.get? b = some o → b < B.objs.size := fun b o e => Heap.lt_size e
  have hIB : B.get? I = none := get?_above (by omega)
  have hDB : B.get? D = none := get?_above (by omega)
  intro d
  induction d with
  | nil =>
    intro i seen n s₀ s m hded hi hm F NL a hn hm2 hS hout hlen hsin
    refine seg_turn rfl ?_
    refine ff_next (A := lpA A x C k₀ pf) (env₁ := uenv C) (env₂ := lenv) W F X T hh (by show A.depth + 1 + 0 ≤ 600; omega) (over_frames hfr) rfl hfL (by show ScopeKind.function ≠ _; decide) hkL NL hints hi hIB (by omega) (by omega) a (fun i' y t h' tk h1 h2 h3 h4 h5 h6 => ?_) (fun h1 h' tk h2 h3 => ?_)
    · rw [hded] at h4; cases h4
    · refine seg_block_nil ?_
      rw [hk₀]
      exact seg_end (.ok (.ret .none)) ⟨rfl, rfl, ⟨fun b o hb hC hL' e => h2 b o (by omega) hC hL' (hsin.old b o hb hC hL' e), fun mm hn => h3 mm (hsin.loc mm hn), hsin.gens, hsin.os⟩⟩
  | cons y₀ d ih =>
    intro i seen n s₀ s m hded hi hm F NL a hn hm2 hS hout hlen hsin
    refine seg_turn rfl ?_
    refine ff_next (A := lpA A x C k₀ pf) (env₁ := uenv C) (env₂ := lenv) W F X T hh (by show A.depth + 1 + 0 ≤ 600; omega) (over_frames hfr) rfl hfL (by show ScopeKind.function ≠ _; decide) hkL NL hints hi hIB (by omega) (by omega) a (fun i' y t h₁ tk h1 h2 h3 h4 h5 h6 => ?_) (fun h1 h' tk h2 h3 => ?_)
    · rw [hded] at h4
      obtain ⟨rfl, hd'⟩ := List.cons.inj h4
      have F₁ : Fr B C h₁ m := ⟨F.ns.at' (fun o e => h6 C o (by omega) e), fun b o e => h6 b o (by have := lowB b o e; show @Ne Nat b I; omega) (F.keep b o e), F.above⟩
      refine wpAny_storeName_local (by rfl) F₁.ns (fun h₂ hn₂ hs₂ => ?_) (by rfl)
      have F₂ := F₁.set hn₂ hs₂
      have k2 : ∀ (b : Nat), b ≠ C → b ≠ I → ∀ o, s.heap.get? b = some o → h₂.get? b = some o := fun b hb hI o e => (hs₂.2 b hb).trans (h6 b o hI e)
      have it₂ : h₂.IsListIter I l i' := let ⟨o, e, r⟩ := h5; ⟨o, (hs₂.2 I (by show @Ne Nat I C; omega)).trans e, r⟩
      have set₂ := SetOf.kept a.set (k2 D (by omega) (Ne.symm hID))
      have m2₂ := k2 m2 (by omega) h2I _ hm2
      have hDs : (S : Nat) < D := hSD
      refine seg_execs_cons ?_
      refine seg_plain (wpAny_Expr ?_)
      refine wpAny_Call_NameR (ld F₂ (v := .ref m2) (by rw [if_neg (by decide)]; exact hm) ?_)
      refine callWith_B (q := m2) (id := "set.add") (D := D) ?_
      refine wpAny_items_cons (ld F₂ (v := .int y₀ t) (if_pos rfl) ?_)
      refine wpAny_items_nil ⟨m2₂, ?_⟩
      have hn1 : n + 1 ≤ xs.length := by rw [List.length_cons] at hn; omega
      refine bound_add (knd := PySem.intKind prog w) (k := y₀) m2₂ set₂ (intKind_is prog w _ _) rfl (by have : scanBound = 4096 := rfl; omega) fun h₃ hs₃ set₃ => ?_
      have k3 : ∀ (b : Nat), b ≠ D → b ≠ C → b ≠ I → ∀ o, s.heap.get? b = some o → h₃.get? b = some o := fun b hD hb hI o e => (hs₃.2 b hD).trans (k2 b hb hI o e)
      have F₃ := F₂.change hs₃ (by show @Ne Nat D C; omega) hDB
      rw [List.length_cons] at hout hlen ⊢
      obtain ⟨hget, hout'⟩ := drop_step hout hlen
      refine seg_execs_cons ?_
      refine seg_Expr_Yield rfl rfl rfl (ld F₃ (v := .int y₀ t) (if_pos rfl) ?_)
      intro kap hkap
      refine ⟨⟨t, by rw [hget]⟩, hsin.step (fun b o hb hC e => k3 b (by omega) hC (by omega) o e) hLS hLC, fun s'' hk'' hS'' => hkap _ s'' ?_⟩
      have k4 : ∀ (b : Nat), b ≠ S → ∀ o, h₃.get? b = some o → s''.heap.get? b = some o := fun b hb o e => hk'' b o hb e
      have k5 : ∀ (b : Nat), b ≠ S → b ≠ D → b ≠ C → b ≠ I → ∀ o, s.heap.get? b = some o → s''.heap.get? b = some o := fun b h1 h2 h3 h4 o e => k4 b h1 o (k3 b h2 h3 h4 o e)
      refine seg_execs_nil ?_
      show Seg _ _ _ _ _ _ _ (.pure (.again _)) _ _
      have F₆ : Fr B C s''.heap _ := ⟨F₃.ns.at' (fun o e => k4 C (by omega) o e), fun b o e => k4 b (by have := lowB b o e; omega) o (F₃.keep b o e), F₃.above⟩
      have set₆ : s''.heap.SetOf (PySem.intKind prog w) D (fun k => decide (k ∈ y₀ :: seen)) (n + 1) := by
        have e : (fun k => decide (k ∈ y₀ :: seen)) = (fun k' => decide (k' ∈ seen) || decide (k' = y₀)) := by
          funext k'; rw [Bool.eq_iff_iff]; simp [or_comm]
        rw [e]
        have := SetOf.kept (h' := s''.heap) set₃ (fun o e => k4 D (by omega) o e)
        rw [decide_eq_false h2] at this
        exact this
      refine seg_again rfl (ih i' (y₀ :: seen) (n + 1) s'' s'' _ hd'.symm h1 (by rw [if_neg (by decide)]; exact hm) F₆ ?_ ?_ (by rw [List.length_cons] at hn; omega) (k5 m2 (by omega) h2D (by omega) h2I _ hm2) hS'' hout' (by omega) Sin.refl)
      · exact NL.at' fun o e => k5 L (by omega) (by omega) hLC (by omega) o e
      · exact ⟨k5 _ (by omega) hxD (by omega) a.ne.1 _ a.obj, k5 _ (by omega) hdxD (by omega) a.ne.2.1 _ a.dict, k5 _ (by omega) h3D (by omega) a.ne.2.2.1 _ a.bound, set₆, (let ⟨o, e, r⟩ := a.list; ⟨o, k5 _ (by omega) (by omega) (by omega) a.ne.2.2.2.2 _ e, r⟩),
          (let ⟨o, e, r⟩ := it₂; ⟨o, k4 _ (by omega) _ ((hs₃.2 I hID).trans e), r⟩), a.ne⟩
    · rw [hded] at h1; cases h1
end
end Mine

namespace Mine
open PySem PySem.W PySem.Calls PyProof.Rows
set_option maxRecDepth 100000

section
variable {prog : Program} {w : World} {A : Around} {B : Heap} {S C L : Nat} {p : Program} {loose : List Str} {mg mb : Str → Option Value} {K : Frag}

theorem none_start (W : FfK K) (hh : A.handled = none) (hd : A.depth ≤ 450) {lenv : Env} (hfr : A.frames = some [lenv]) (hfL : lenv.frame = some L) (hkL : lenv.scope.kind ≠ .module) (X : K.In B) (T : TopRead p loose mg mb B) (hset : nsIn K mainGlobals (Str.ofString "set") = some none)
    {l : Nat} {vs : List Value} {xs : List Int} (hlst : B.IsList l vs.toArray) (hints : IntsAre vs xs) (hB : B.objs.size ≤ C) (hCS : C < S) (hL : L < B.objs.size) (hxs : xs.length < 4000) {mL : Str → Option Value} :
    ∀ (s : Shared) (m : Str → Option Value), Fr B C s.heap m → s.heap.Ns L mL → m "iterable" = some (.ref l) → m "key" = some .none → (s.heap.get? S).isSome = true →
      Seg (model prog w) A (ueEnd S C L) (uePro S C L (ded (fun x => x) [] xs)) (ded (fun x => x) [] xs).length s (.func ueBody (uenv C)) ((model prog w).den (.func ueBody (uenv C))) [] s := by
  intro s₀ m F NL hmi hmk hS
  have hLC : L ≠ C := by omega
  have hLS : L ≤ S := by omega
  have lowB : ∀ (b : Nat) o, B.get? b = some o → b < B.objs.size := fun b o e => Heap.lt_size e
  have hl : l < B.objs.size := let ⟨o, e, _⟩ := hlst; lowB _ _ e
  refine seg_func ?_
  refine seg_execs_cons ?_
  refine seg_plain (wpAny_Assign_Name ?_)
  refine wpAny_Call_NameR (name_B F X T hset (by rfl) (by decide) ?_)
  refine callWith_type0 (call_set_0 fun led => ?_)
  have hSlt : S < s₀.heap.objs.size := by obtain ⟨o, ho⟩ := Option.isSome_iff_exists.mp hS; exact Heap.lt_size ho
  generalize hD : s₀.heap.objs.size = D at *
  have F₁ : Fr B C (s₀.heap.push { cls := .type "set", dict := none, data := .set #[] 0 (.fresh 0 0 led) }) m := F.push _
  refine wpAny_storeName_local (by rfl) F₁.ns (fun h₂ hn₂ hs₂ => ?_) (by rfl)
  have F₂ := F₁.set hn₂ hs₂
  refine seg_execs_cons ?_
  refine seg_plain (wpAny_Assign_Name ?_)
  refine Attribute_name (ld F₂ (v := .ref D) (if_pos rfl) ?_)
  have hCD : C < D := by omega
  have e₁ : (s₀.heap.push { cls := .type "set", dict := none, data := .set #[] 0 (.fresh 0 0 led) }).get? D = some { cls := .type "set", dict := none, data := .set #[] 0 (.fresh 0 0 led), slots := #[] } := hD ▸ Heap.get?_push_size _ rfl
  have e₂ : h₂.get? D = some { cls := .type "set", dict := none, data := .set #[] 0 (.fresh 0 0 led), slots := #[] } := (hs₂.2 D (by show @Ne Nat D C; omega)).trans e₁
  refine getAttr_set setMeth_add e₂ (by decide +kernel) ?_
  have hz : h₂.objs.size = D + 1 := by rw [hs₂.1, Heap.size_push, hD]
  rw [hz]
  have F₃ := F₂.push (bmObj "set.add" D)
  refine wpAny_storeName_local (by rfl) F₃.ns (fun h₄ hn₄ hs₄ => ?_) (by rfl)
  have F₄ := F₃.set hn₄ hs₄
  have k04 : ∀ (b : Nat), b ≠ C → ∀ o, s₀.heap.get? b = some o → h₄.get? b = some o := fun b hb o e =>
    (hs₄.2 b hb).trans (Heap.get?_push_of_some _ ((hs₂.2 b hb).trans (Heap.get?_push_of_some _ e)))
  have eD : h₄.get? D = some { cls := .type "set", dict := none, data := .set #[] 0 (.fresh 0 0 led), slots := #[] } := (hs₄.2 D (by show @Ne Nat D C; omega)).trans (Heap.get?_push_of_some _ e₂)
  have eM : h₄.get? (D + 1 : Nat) = some (bmObj "set.add" D) := (hs₄.2 _ (by show @Ne Nat (D + 1) C; omega)).trans (hz ▸ Heap.get?_push_size _ rfl)
  have z₄ : h₄.objs.size = D + 2 := by rw [hs₄.1, Heap.size_push, hz]
  refine seg_execs_cons ?_
  refine seg_if ?_
  refine wpAny_isTrue_Compare1 (ld F₄ (v := .none) (by rw [if_neg (by decide), if_neg (by decide)]; exact hmk) ?_)
  refine wpAny_Constant_none (is_none (wpAny_truthy_bool ?_))
  rw [if_pos (by rfl)]
  refine seg_execs_cons ?_
  refine seg_for (fun _ => by rfl) ?_
  refine wpAny_Call_NameR (name_K F₄ X T W.name ?_)
  refine callWith_K (X.keeps F₄.keep) W.keep ?_
  refine wpAny_items_cons (Attribute_name (ld F₄ (v := .ref D) (by rw [if_neg (by decide)]; exact if_pos rfl) ?_))
  refine getAttr_set setMeth_contains eD (by decide +kernel) ?_
  rw [z₄]
  have F₅ := F₄.push (bmObj "set.__contains__" D)
  have e3 : (h₄.push (bmObj "set.__contains__" D)).get? (D + 2 : Nat) = some (bmObj "set.__contains__" D) := z₄ ▸ Heap.get?_push_size _ rfl
  have k45 : ∀ b o, h₄.get? b = some o → (h₄.push (bmObj "set.__contains__" D)).get? b = some o := fun b o e => Heap.get?_push_of_some _ e
  have z₅ : (h₄.push (bmObj "set.__contains__" D)).objs.size = D + 3 := by rw [Heap.size_push, z₄]
  generalize (h₄.push (bmObj "set.__contains__" D)) = h₅ at *
  refine wpAny_items_cons (ld F₅ (v := .ref l) (by rw [if_neg (by decide), if_neg (by decide)]; exact hmi) ?_)
  refine wpAny_items_nil ⟨X.keeps F₅.keep, ?_⟩
  have hl₅ : h₅.IsList l vs.toArray := let ⟨o, e, r⟩ := hlst; ⟨o, F₅.keep _ _ e, r⟩
  refine ff_make W F₅.keep X T (by show A.depth + 1 + 0 ≤ 600; omega) hl₅ fun h₆ tk₆ I k₆ hI hx hdx hit => ?_
  dsimp only at k₆ hI hx hdx
  rw [z₅] at hI hx hdx ⊢
  have F₆ := F₅.kept k₆
  refine ff_iter W F₆ X T (by show A.depth + 1 + 0 ≤ 600; omega) (dx := (D + 3 : Nat)) hx hdx fun h₇ tk₇ k₇ pf => ?_
  dsimp only at k₇
  have F₇ := F₆.kept k₇
  have k07 : ∀ (b : Nat), b ≠ C → ∀ o, s₀.heap.get? b = some o → h₇.get? b = some o := fun b hb o e => k₇ _ _ (k₆ _ _ (k45 _ _ (k04 b hb o e)))
  have hlB : B.get? l ≠ none := by obtain ⟨o, e, _⟩ := hlst; rw [e]; nofun
  refine none_loop W hh hd hfr hfL hkL X T (x := D + 3 + 1) (dx := D + 3) (m2 := D + 1) (m3 := D + 2) (D := D) (I := I) (l := l) (out := ded (fun x => x) [] xs) hints hB hCS hL hl (mL := mL) (k₀ := _) (by omega) (by omega) (by omega) (by omega) (by omega) (by omega) (by omega) (by omega) (by omega) (by omega) (by omega) (by omega) hxs ?_
    _ 0 [] 0 s₀ _ _ rfl (Nat.zero_le _) ?_ F₇ ?_ ?_ ?_ ?_ ?_ ?_ ?_ ?_
  · rfl
  · exact if_pos rfl
  · exact NL.at' fun o e => k07 L hLC o e
  · refine ⟨k₇ _ _ hx, k₇ _ _ hdx, k₇ _ _ (k₆ _ _ e3), ?_, (let ⟨o, e, r⟩ := hl₅; ⟨o, k₇ _ _ (k₆ _ _ e), r⟩), (let ⟨o, e, r⟩ := hit; ⟨o, k₇ _ _ e, r⟩), by omega, by omega, by omega, by omega, by omega⟩
    have : (fun k : Int => decide (k ∈ ([] : List Int))) = fun _ => false := by funext k; simp
    rw [this]
    exact (setObjOf_fresh led).setOf (k₇ _ _ (k₆ _ _ (k45 _ _ eD))) (by decide)
  · have := ded_length (fun x => x) xs []
    simpa using this
  · exact k₇ _ _ (k₆ _ _ (k45 _ _ eM))
  · obtain ⟨o, ho⟩ := Option.isSome_iff_exists.mp hS
    show (h₇.get? S).isSome = true
    rw [k07 S (by omega) o ho]; rfl
  · simp
  · simp
  · exact Sin.refl.step (fun b o hb hC e => k07 b hC o e) hLS hLC
end
end Mine

namespace Mine
open PySem PySem.W PySem.Calls PyProof.Rows
set_option maxRecDepth 100000

section
variable {prog : Program} {w : World} {A : Around} {E : Value → Shared → Prop} {L : Nat} {p : Program} {loose : List Str} {mg mb : Str → Option Value} {K : Frag}

theorem told_none (hh : A.handled = none) (hd : A.depth ≤ 440) (U : UeFn K) (W : FfK K) {lenv : Env} (hfr : A.frames = some [lenv]) (hfL : lenv.frame = some L) (hkL : lenv.scope.kind ≠ .module) {s : Shared} (X : K.In (s.heap.hide L)) (T : TopRead p loose mg mb (s.heap.hide L)) (hlim : s.heap.NoLimit) (hL : L < s.heap.objs.size) (hL2 : 2 ≠ L) (h2 : 2 < s.heap.objs.size) {mL : Str → Option Value} (hmL : s.heap.Ns L mL)
    {l : Addr} {vs : List Value} {xs : List Int} (hlst : (s.heap.hide L).IsList l vs.toArray) (hints : IntsAre vs xs) (hxs : xs.length < 4000) {Q : Value → Shared → Prop}
    (h : ∀ s' l', Told L s s' l' (ded (fun x => x) [] xs) → Q (.ref l') s') :
    wpAny (model prog w) A (call (.ref 59) [.ref l]) (fun v s₁ => wpAny (model prog w) A (call (.type "list") [v]) Q E s₁) E s := by
  have hlen := ded_length (fun x => x) xs []
  have hz : (ded (fun x => x) [] xs).length ≤ sizeLine := by
    have : sizeLine ≥ 5000 := by decide
    omega
  refine ue_told hh (by have : recursionLimit = 1000 := rfl; omega) U X hlim hL hL2 h2 hz hmL (.inr ⟨rfl, rfl⟩) (fun s' m F NL hm1 hm2 hS => ?_) h
  exact none_start (A := A.in1.in1.in1) W hh (by show A.depth ≤ 450; omega) hfr hfL hkL X T U.set hlst hints (by rw [Heap.hide_size]; exact Nat.le_refl _) (by omega) (by rw [Heap.hide_size]; exact hL) hxs s' m F NL hm1 hm2 hS
end
end Mine

namespace Mine
open PySem PySem.W PySem.Calls PyProof.Rows
set_option maxRecDepth 100000

/-! the law's own pieces, read off the row -/
def lawDef : Stmt := PySem.Challenge.pw_ij0068_01.main.body.getD 5 (.Pass default)
def lawBody : List Stmt := dBody lawDef
def lawScope : Scope := dScope lawDef
abbrev lenv (L fa : Nat) : Env := envOfC (Str.ofString "law") lawScope L fa (.ref 63)
abbrev lcs (L : Nat) : List (Str × Addr) := cellsFrom (L + 1) lawScope.names []
abbrev lA (L fa : Nat) : Around := callerA.deeper (lenv L fa)

structure LEnd (g : Heap) (os : OsState) (s' : Shared) : Prop where
  keep : ∀ b o, g.get? b = some o → s'.heap.get? b = some o
  os : s'.os = os
  gens : AllBare s'.gens
  tab : ∃ ps, s'.heap.get? 61 = some (tabObj ps)

/-- the end of the law: True is told, the heap of before stands, no generator is left half run -/
def EndT (g : Heap) (os : OsState) (r : Result) (s' : Shared) : Prop := r = .ok (.ret (.bool true)) ∧ LEnd g os s'

theorem gn_post {M : Model} {A : Around} {cd : Code} {s s₁ : Shared} {cw : ClaimW} {cl : Str → Option Addr} {mean : ExcName → Option Value} {args : List WData} (hT : TabsAt [(63, 61)] s₁.heap)
    (hr : ∀ x, cw.raises args x = false) (hp : cw.post args (.bool true) args = true)
    (h : codeAny M A cd (EndT (ghostOf s₁.heap [(63, 61)]) s₁.os) s) : codeAny M A cd (GoodWG cw cl mean args s₁) s :=
  codeAny_mono h fun r s' ⟨hv, hk, hos, hg, ps, hgr⟩ => by
    have keep : ∀ b o, b ∉ [(63, 61)].map (fun q : Addr × Addr => q.2) → s₁.heap.get? b = some o → s'.heap.get? b = some o := fun b o hb e => hk b o (ghost_ne e hb)
    have grown : ∀ b o, b ∈ [(63, 61)].map (fun q : Addr × Addr => q.2) → s₁.heap.get? b = some o → isCodeTable s₁.heap b ∧ o = tabObj #[] ∧ ∃ ps, s'.heap.get? b = some (tabObj ps) := fun b o hb e => by
      obtain ⟨q, hq, rfl⟩ := List.mem_map.mp hb
      have e2 := (hT q hq).2
      rw [e] at e2
      refine ⟨((hT q hq).1.tab (hT q hq).2).isCodeTable, Option.some.inj e2, ps, ?_⟩
      rw [List.mem_singleton.mp hq]; exact hgr
    refine ⟨.inl ⟨.bool true, .bool true, [], hv, hr, .bool true, hp, fun _ => ⟨.nil, nofun⟩⟩, ⟨fun b o e => ?_, fun b o e => ?_⟩, hos, hg⟩
    · by_cases hb : b ∈ [(63, 61)].map (fun q : Addr × Addr => q.2)
      · obtain ⟨ht, rfl, ps, hP⟩ := grown b o hb e
        exact .inr (.inl ⟨ht, rfl, #[], ps, rfl, by rw [Array.empty_append]; exact hP⟩)
      · exact .inl (keep b o hb e)
    · by_cases hb : b ∈ [(63, 61)].map (fun q : Addr × Addr => q.2)
      · obtain ⟨_, _, ps, hP⟩ := grown b o hb e
        exact ⟨_, hP⟩
      · exact ⟨o, keep b o hb e⟩

theorem ghost_none {h : Heap} {tabs : List (Addr × Addr)} {b : Addr} (hb : b ∈ tabs.map (·.2)) : (ghostOf h tabs).get? b = none := hideAll_none _ hb

/-- what stands around the law, and does not change -/
structure LCtx (P : Params) (g : Heap) (L : Nat) (mg : Str → Option Value) : Prop where
  K : (hd.heap_39 P).In g
  top : ∃ p loose mb, TopRead p loose mg mb g
  bmain : ∃ bm ob, mg (Str.ofString "__builtins__") = some (.ref bm) ∧ bm ≠ builtinsNs ∧ g.get? bm = some ob ∧ ob.cls = .type "module" ∧ ob.dict = some builtinsNs ∧ ob.data = .plain
  code : CodeHd g 63 61
  tab : g.get? 61 = none
  above : g.objs.size ≤ L
  tabL : 61 < L

def LawWalks : Prop := ∀ (w : World) (g : Heap) (L fa ls : Nat) (s : Shared) (vs : List Value) (ns : List Int) (mg ml : Str → Option Value), LCtx w.params g L mg → g.IsList ls vs.toArray → IntsAre vs ns → ns.length ≤ 63 →
  Fr g L s.heap ml → ml (Str.ofString "script") = some (.ref ls) → Cl L (lcs L) s.heap (fun _ => none) → s.heap.get? 61 = some (tabObj #[]) → AllBare s.gens →
  wpAny (model PySem.Challenge.pw_ij0068_01 w) (lA L fa) (execs lawBody (lenv L fa)) (fun f s' => f = .ret (.bool true) ∧ LEnd g s.os s') (fun _ _ => False) s

theorem law_head (H : LawWalks) : PySem.Challenge.rw_ij0068_01.Holds := by
  refine hd ?_
  k_fill
  intro w s₀ s₁ mg mb G Y fa o pm cd doc dV kV ho hd hcd hD hmg hg args vals as hpre hlay hrd hwl hlo
  have KX := km_in_of Y
  km_tabs Y
  have X := (Ground.X G).1
  have V := (Ground.X G).2
  refine Ground.open G ?_
  intro T B D TE TW
  try (refine guard_noD D (by decide +kernel) ?_; clear D)
  km_lay T hmg ho hd cd
  clear hmg
  wrow_args hpre hlay hrd hwl hlo
  all_goals (first | refine callC_kw (enter_call ?_) | refine enter_call ?_)
  w_top on
  refine gn_post hT9 (fun _ => rfl) (by kernel_rfl) ?_
  have he := Dflts.none hD rfl
  subst he
  have he := Dflts.noKw hD
  subst he
  rename s₁.heap.IsList _ _ => hls
  rename IntsAre _ _ => hin
  refine call_cells (by decide) ho (fd_plain hd) (Top.nolimit T) hcd rfl (kinds_of (by kinds_ok)) (fun h₁ tk₁ F Cc => ?_)
  refine wpAny_mono (Q := fun f s' => f = .ret (.bool true) ∧ LEnd (ghostOf s₁.heap [(63, 61)]) s₁.os s') (E := fun _ _ => False) ?_ (fun f s' h => ⟨by rw [h.1], h.2⟩) (fun _ _ h => h.elim)
  have T' := ghost_top hT9 T
  have hlt := hin.length
  refine H w (ghostOf s₁.heap [(63, 61)]) s₁.heap.objs.size fa _ { s₁ with heap := h₁, toks := tk₁ } _ _ mg _ ⟨ghost_K hT9 KX (by kernel_rfl), ⟨_, _, _, topRead_of T'⟩, T'.bmain, (ghost_code hT9).1, ghost_none (.head _), ?_, ?_⟩ (ghost_list hT9 hls) hin ?_ (ghost_fr hT9 F) ?_ ⟨Cc.cell, Cc.apart, Cc.above⟩ ?_ ?_
  · exact Nat.le_of_eq (hideAll_size _ _)
  · exact Heap.lt_size (hT8 61 (.head _))
  · omega
  · rfl
  · exact F.keep _ _ (hT8 61 (.head _))
  · exact AllBare.of_eq hg
end Mine

namespace Mine
open PySem PySem.W PySem.Calls PyProof.Rows
set_option maxRecDepth 100000

/-! comprehensions over numbers -/
theorem paired_ints {pz : Int → Bool} {f : Int → Int} : ∀ {vs : List Value} {xs : List Int}, IntsAre vs xs → ∀ {ys : List Value},
    Paired (fun v y => ∃ a t u, v = Value.int a t ∧ y = Value.int (f a) u) (vs.filter fun v => match v with | .int a _ => pz a | _ => false) ys → IntsAre ys ((xs.filter pz).map f)
  | _, _, .nil, ys, h => by cases h; exact .nil
  | _, _, .cons n t hi, ys, h => by
    simp only [List.filter_cons] at h ⊢
    by_cases hp : pz n = true
    · rw [if_pos hp] at h ⊢
      cases h with
      | cons hf hr =>
        obtain ⟨a, t', u, e, rfl⟩ := hf
        cases e
        exact .cons _ _ (paired_ints hi hr)
    · rw [if_neg hp] at h ⊢
      exact paired_ints hi h

section
variable {prog : Program} {w : World} {A : Around} {E : Value → Shared → Prop} {s : Shared}

theorem comp_ints {env : Env} {elt iter : Expr} {x : Str} {px : Pos} {ifs : List Expr} {scope : Scope} {cl : List (Str × Addr)} {pos : Pos} {Q : Value → Shared → Prop} {pz : Int → Bool} {f : Int → Int} (hh : A.handled = none)
    (hclos : closureFor scope env = pure cl) (hcell : ∀ y ∈ scope.names, y.2 ≠ .cell) (hkind : scope.kind = .function)
    (hnames : ∀ y ∈ scope.names, y.2 = .local → scope.names.lookup y.1 = some .local) (hx : scope.names.lookup x = some .local)
    (h : wpAny (model prog w) A (eval iter env) (fun xv s₁ => ∃ ib xs, xv = .ref ib ∧ Src prog w s₁.heap ib xs ∧ xs.length ≤ 4000 ∧
      (∀ C a t (s₃ : Shared) m₃ E', a ∈ xs → s₃.heap.Ns C m₃ → m₃ x = some (.int a t) → (∀ b o, s₁.heap.get? b = some o → s₃.heap.get? b = some o) →
        wpAny (model prog w) A (forIn ifs true fun c r => if r = true then do let ok ← isTrue c (compEnvC scope cl C env) (eval c (compEnvC scope cl C env)); pure (ForInStep.yield ok) else pure (ForInStep.yield r)) (fun ok s₄ => ok = pz a ∧ Keeps s₃ s₄) E' s₃) ∧
      (∀ C a t (s₃ : Shared) m₃ E', a ∈ xs → pz a = true → s₃.heap.Ns C m₃ → m₃ x = some (.int a t) → (∀ b o, s₁.heap.get? b = some o → s₃.heap.get? b = some o) →
        wpAny (model prog w) A (eval elt (compEnvC scope cl C env)) (fun y s₄ => (∃ u, y = .int (f a) u) ∧ Keeps s₃ s₄) E' s₃) ∧
      (∀ (D : Addr) h' tk vs, s₁.heap.get? D = none → h'.IsList D vs.toArray → IntsAre vs ((xs.filter pz).map f) → (∀ b o, s₁.heap.get? b = some o → h'.get? b = some o) → Q (.ref D) { s₁ with heap := h', toks := tk })) E s)
    (hs : ∀ x, foldedSetIterable iter env x = pure x := by intro _; rfl) :
    wpAny (model prog w) A (eval (.ListComp elt [⟨.Name x px, iter, ifs, 0⟩] scope pos) env) Q E s := by
  refine wpAny_ListComp_free (fun v => match v with | .int a _ => pz a | _ => false) (fun v y => ∃ a t u, v = Value.int a t ∧ y = Value.int (f a) u) hclos hcell hkind hnames hx (wpAny_mono h (fun xv s₁ h₁ => ?_) fun _ _ z => z) hs
  obtain ⟨ib, xs, rfl, hsrc, hlen, ht, he, hq⟩ := h₁
  refine hsrc.iter A s₁ _ _ hh (fun _ _ e => e) fun fp wr St h' W hfp hwr hk hz hst => ?_
  have W' := Walks.item_imp (P' := fun i v => i < xs.length ∧ ∃ t, v = .int (xs.getD i 0) t) (W A hh) fun i v hi hv => ⟨hi, hv⟩
  have lt₁ : ∀ {b : Addr} {o : Obj}, s₁.heap.get? b = some o → b ∉ wr := fun e hm => by
    have h1 := hwr _ hm
    have h2 := Heap.lt_size e
    rw [h1] at h2
    exact Nat.lt_irrefl _ h2
  have mem : ∀ i, i < xs.length → xs.getD i 0 ∈ xs := fun i hi => by simp [List.getD, hi]
  refine ⟨s₁.heap.objs.size, fp, wr, xs.length, _, St, rfl, W', ?_, hst, fun b hb => ?_, ⟨fun C i v s₃ m₃ E' hC hv hn hm hk₃ htk => ?_, fun C i v s₃ m₃ E' hC hv hp hn hm hk₃ htk => ?_⟩, fun D h'' tk ys vs hD hl hpl hlen' hP hF hk₂ => ?_⟩
  · have : sizeLine ≥ 5000 := by decide
    omega
  · show b < h'.objs.size
    rcases hfp b hb with h | h
    · rw [h, hz]; exact Nat.lt_succ_self _
    · obtain ⟨o, ho⟩ := Option.isSome_iff_exists.mp h
      have := Heap.lt_size ho
      rw [hz]; exact Nat.lt_succ_of_lt this
  · obtain ⟨hi, t, rfl⟩ := hv
    exact ht C _ t s₃ m₃ E' (mem i hi) hn hm fun b o e => hk₃ b o (lt₁ e) (hk b o e)
  · obtain ⟨hi, t, rfl⟩ := hv
    refine wpAny_mono (he C _ t s₃ m₃ E' (mem i hi) hp hn hm fun b o e => hk₃ b o (lt₁ e) (hk b o e)) (fun y s₄ h₄ => ?_) fun _ _ z => z
    obtain ⟨⟨u, rfl⟩, hk⟩ := h₄
    exact ⟨⟨_, _, _, rfl, rfl⟩, hk⟩
  · have hvs : IntsAre vs xs := items_ints_list vs xs hlen' fun j v e => (hP j v e).2
    have hD₁ : s₁.heap.get? D = none := by
      cases q : s₁.heap.get? D with
      | none => rfl
      | some o => have := hk D o q; rw [hD] at this; cases this
    exact hq D h'' tk ys.toList hD₁ (by simpa using hl) (paired_ints hvs hF) fun b o e => hk₂ b o (lt₁ e) (hk b o e)
end
end Mine

namespace Mine
open PySem PySem.W PySem.Calls PyProof.Rows
set_option maxRecDepth 100000

def compEnvX (scope : Scope) (cl : List (Str × Addr)) (C c : Addr) (x : Str) (env : Env) : Env :=
  { scope := relabel scope env, locals := C, globals := env.globals, cells := (x, c) :: cl, qual := env.qual, func := none, code := env.code, frame := env.frame, builtins := env.builtins }

section
variable {prog : Program} {w : World} {A : Around} {E : Value → Shared → Prop} {s : Shared}

theorem newEnv_cell {M : Model} {scope : Scope} {globals : Addr} {cl : List (Str × Addr)} {qual : Str} {env : Env} {Q : Env → Shared → Prop} {n1 n2 n3 n4 x : Str} {k1 k2 k3 k4 : NameKind}
    (hn : scope.names = [(n1, k1), (x, .cell), (n2, k2), (n3, k3), (n4, k4)]) (h1 : k1 ≠ .cell) (h2 : k2 ≠ .cell) (h3 : k3 ≠ .cell) (h4 : k4 ≠ .cell)
    (h : Q { scope := scope, locals := s.heap.objs.size, globals := globals, cells := (x, s.heap.objs.size + 1) :: cl, qual := qual, func := none, code := env.code, frame := env.frame, builtins := env.builtins }
      { s with heap := (s.heap.push { cls := .type "dict", data := .dict #[] }).push { cls := .type "cell", data := .cell none } }) :
    wpAny M A (newFunctionEnv scope globals cl [] qual none .none (some env)) Q E s := by
  have e : ∀ {k : NameKind}, k ≠ .cell → (k == .cell) = false := fun hk => by simpa using hk
  simp only [newFunctionEnv, Option.isSome_some, if_true]
  refine wpAny_bind (wpAny_alloc ?_)
  rw [hn]
  simp only [List.forIn_cons, List.forIn_nil, e h1, e h2, e h3, e h4, Bool.false_eq_true, if_false, pure_bind]
  rw [if_pos (by rfl)]
  refine wpAny_bind (wpAny_bind (wpAny_bind (wpAny_alloc (wpAny_pure ?_))))
  refine wpAny_pure ?_
  dsimp only
  refine wpAny_pure ?_
  rw [Heap.size_push]
  exact h

theorem comp_cell {env : Env} {elt iter : Expr} {x : Str} {px : Pos} {ifs : List Expr} {scope : Scope} {cl : List (Str × Addr)} {pos : Pos} {Q : Value → Shared → Prop} {pz : Int → Bool} {f : Int → Int} (hh : A.handled = none)
    {n1 n2 n3 n4 : Str} {k1 k2 k3 k4 : NameKind} (hn : scope.names = [(n1, k1), (x, .cell), (n2, k2), (n3, k3), (n4, k4)]) (h1 : k1 ≠ .cell) (h2 : k2 ≠ .cell) (h3 : k3 ≠ .cell) (h4 : k4 ≠ .cell)
    (hclos : closureFor scope env = pure cl) (hkind : scope.kind = .function)
    (hnames : ∀ y ∈ scope.names, y.2 = .local → scope.names.lookup y.1 = some .local) (hx : ∀ C c, (compEnvX scope cl C c x env).kindOf x = some .cell)
    (h : wpAny (model prog w) A (eval iter env) (fun xv s₁ => ∃ ib xs, xv = .ref ib ∧ Src prog w s₁.heap ib xs ∧ xs.length ≤ 4000 ∧
      (∀ (C c : Addr) a t (s₃ : Shared) E', a ∈ xs → s₃.heap.IsCell c (some (.int a t)) → s₁.heap.get? c = none → (∀ b o, s₁.heap.get? b = some o → s₃.heap.get? b = some o) →
        wpAny (model prog w) A (forIn ifs true fun i r => if r = true then do let ok ← isTrue i (compEnvX scope cl C c x env) (eval i (compEnvX scope cl C c x env)); pure (ForInStep.yield ok) else pure (ForInStep.yield r)) (fun ok s₄ => ok = pz a ∧ Keeps s₃ s₄) E' s₃) ∧
      (∀ (C c : Addr) a t (s₃ : Shared) E', a ∈ xs → pz a = true → s₃.heap.IsCell c (some (.int a t)) → s₁.heap.get? c = none → (∀ b o, s₁.heap.get? b = some o → s₃.heap.get? b = some o) →
        wpAny (model prog w) A (eval elt (compEnvX scope cl C c x env)) (fun y s₄ => (∃ u, y = .int (f a) u) ∧ Keeps s₃ s₄) E' s₃) ∧
      (∀ (D : Addr) h' tk vs, s₁.heap.get? D = none → h'.IsList D vs.toArray → IntsAre vs ((xs.filter pz).map f) → (∀ b o, s₁.heap.get? b = some o → h'.get? b = some o) → Q (.ref D) { s₁ with heap := h', toks := tk })) E s)
    (hs : ∀ x, foldedSetIterable iter env x = pure x := by intro _; rfl) :
    wpAny (model prog w) A (eval (.ListComp elt [⟨.Name x px, iter, ifs, 0⟩] scope pos) env) Q E s := by
  rw [eval_ListComp]
  refine wpAny_comprehension_free (use := none) rfl hs hclos hkind hnames (wpAny_mono h (fun xv s₁ h₁ => ?_) fun _ _ e => e)
  obtain ⟨ib, xs, rfl, hsrc, hlen, ht, he, hq⟩ := h₁
  refine hsrc.iter A s₁ _ _ hh (fun _ _ e => e) fun fp wr St g₁ W hfp hwr hk hz hst => ?_
  have W := W A hh
  generalize hI : s₁.heap.objs.size = I at *
  have ltI : ∀ {b : Nat} {o : Obj}, s₁.heap.get? b = some o → b < I := fun e => by rw [← hI]; exact Heap.lt_size e
  refine wpAny_newObj_type (newEnv_cell hn h1 h2 h3 h4 ?_)
  dsimp only
  rw [Heap.size_push, hz]
  have hk₂ : ∀ b o, g₁.get? b = some o → (((g₁.push { cls := .type "list", dict := none, data := .seq ([] : List Value).toArray }).push { cls := .type "dict", data := .dict #[] }).push { cls := .type "cell", data := .cell none }).get? b = some o :=
    fun b o e => Heap.get?_push_of_some _ (Heap.get?_push_of_some _ (Heap.get?_push_of_some _ e))
  have hD₂ : (((g₁.push { cls := .type "list", dict := none, data := .seq ([] : List Value).toArray }).push { cls := .type "dict", data := .dict #[] }).push { cls := .type "cell", data := .cell none }).PlainList (I + 1 : Nat) #[] :=
    ⟨_, Heap.get?_push_of_some _ (Heap.get?_push_of_some _ (hz ▸ Heap.get?_push_size _ rfl))⟩
  have hC₂ : (((g₁.push { cls := .type "list", dict := none, data := .seq ([] : List Value).toArray }).push { cls := .type "dict", data := .dict #[] }).push { cls := .type "cell", data := .cell none }).Ns (I + 1 + 1 : Nat) (fun _ => none) := by
    have := Heap.Ns.new (g₁.push { cls := .type "list", dict := none, data := .seq ([] : List Value).toArray }) (.type "dict")
    rw [Heap.size_push, hz] at this
    exact this.push _
  have hc₂ : (((g₁.push { cls := .type "list", dict := none, data := .seq ([] : List Value).toArray }).push { cls := .type "dict", data := .dict #[] }).push { cls := .type "cell", data := .cell none }).IsCell (I + 1 + 1 + 1 : Nat) none := by
    have := Heap.get?_push_size ((g₁.push { cls := .type "list", dict := none, data := .seq ([] : List Value).toArray }).push { cls := .type "dict", data := .dict #[] }) (o := { cls := .type "cell", data := .cell none }) rfl
    rw [Heap.size_push, Heap.size_push, hz] at this
    exact ⟨_, this, rfl⟩
  generalize (((g₁.push { cls := .type "list", dict := none, data := .seq ([] : List Value).toArray }).push { cls := .type "dict", data := .dict #[] }).push { cls := .type "cell", data := .cell none }) = g₂ at *
  have hst₂ : St 0 g₂ := W.frame 0 g₁ g₂ hst fun b _ o e => hk₂ b o e
  have fpI : ∀ b : Nat, b ∈ fp → b ≤ I := fun b hb => by
    rcases hfp b hb with h | h
    · exact Nat.le_of_eq h
    · obtain ⟨o, ho⟩ := Option.isSome_iff_exists.mp h; exact Nat.le_of_lt (ltI ho)
  have wrI : ∀ b : Nat, b ≠ I → b ∉ wr := fun b hb hm => hb (hwr b hm)
  show codeAny (model prog w) A (.compStart (.ListComp elt [⟨.Name x px, iter, ifs, 0⟩] scope pos) 0 (.ref I) (.ref (I + 1 : Nat)) (compEnvX scope cl (I + 1 + 1 : Nat) (I + 1 + 1 + 1 : Nat) x env)) _ _
  have loop : codeAny (model prog w) A (.compLoop (.ListComp elt [⟨.Name x px, iter, ifs, 0⟩] scope pos) 0 (.ref I) (.ref (I + 1 : Nat)) (compEnvX scope cl (I + 1 + 1 : Nat) (I + 1 + 1 + 1 : Nat) x env))
      (compPost (model prog w) A E none Q (.ref (I + 1 : Nat)) (I + 1 + 1 : Nat)) { s₁ with heap := g₂ } := by
    refine codeAny_compLoop_tests (fun k s' => ∃ (h' : Heap) (tk : Nat) (ys : List Value) (i : Nat) (v₀ : Option Value), s' = { s₁ with heap := h', toks := tk } ∧ i ≤ xs.length ∧ k = xs.length + 1 - i ∧ St i h' ∧ h'.PlainList (I + 1 : Nat) ys.toArray ∧ h'.IsCell (I + 1 + 1 + 1 : Nat) v₀ ∧
      IntsAre ys (((xs.take i).filter pz).map f) ∧ (∀ b : Nat, b ≠ I → b ≠ I + 1 → b ≠ I + 1 + 1 + 1 → ∀ o, g₂.get? b = some o → h'.get? b = some o)) (fun k s' hI => ?_) (xs.length + 1)
      ⟨g₂, _, [], 0, none, rfl, Nat.zero_le _, rfl, hst₂, hD₂, hc₂, .nil, fun _ _ _ _ _ e => e⟩
    obtain ⟨H, tk, ys, i, v₀, rfl, hi, rfl, hst', hacc, hcc, hys, hkk⟩ := hI
    by_cases hlt : i < xs.length
    · refine W.item i _ _ _ hlt hst' fun v h₁ tk₁ hv hst₁ hk₁ => ?_
      obtain ⟨t, rfl⟩ := hv
      have cc₁ : h₁.IsCell (I + 1 + 1 + 1 : Nat) v₀ := let ⟨o, e, r⟩ := hcc; ⟨o, hk₁ _ _ (wrI _ (by omega)) e, r⟩
      refine wpAny_assign_Name (wpAny_storeName_cell hkind (hx _ _) (by simp [compEnvX]) cc₁ fun h₂ cc₂ hs₂ => ?_)
      have hmem : xs.getD i 0 ∈ xs := by simp [List.getD, hlt]
      have htake : xs.take (i + 1) = xs.take i ++ [xs.getD i 0] := by rw [List.take_succ]; simp [List.getD, hlt]
      have up₂ : ∀ b : Nat, b ≠ I → b ≠ I + 1 + 1 + 1 → ∀ o, H.get? b = some o → h₂.get? b = some o := fun b a1 a2 o e => (hs₂.2 b a2).trans (hk₁ b o (wrI b a1) e)
      have old₂ : ∀ (b : Addr) o, s₁.heap.get? b = some o → h₂.get? b = some o := fun b o e => by
        have := ltI e
        exact up₂ b (by omega) (by omega) o (hkk b (by omega) (by omega) (by omega) o (hk₂ _ _ (hk _ _ e)))
      have hcn : s₁.heap.get? (I + 1 + 1 + 1 : Nat) = none := get?_above (by rw [hI]; omega)
      have st₂ : St (i + 1) h₂ := W.frame _ _ _ hst₁ fun b hb o e => (hs₂.2 b (by have := fpI b hb; show @Ne Nat b (I + 1 + 1 + 1); omega)).trans e
      generalize xs.getD i 0 = a at *
      refine wpAny_mono (ht (I + 1 + 1 : Nat) (I + 1 + 1 + 1 : Nat) a t { s₁ with heap := h₂, toks := _ } _ hmem cc₂ hcn old₂) (fun ok s₃ h₃ => ?_) fun _ _ z => z
      obtain ⟨rfl, h₃, tk₃, rfl, hk₃⟩ := h₃
      have cc₃ : h₃.IsCell (I + 1 + 1 + 1 : Nat) (some (.int a t)) := cc₂.keeps hk₃
      have st₃ : St (i + 1) h₃ := W.frame _ _ _ st₂ fun b _ o e => hk₃ b o e
      have acc₃ : h₃.PlainList (I + 1 : Nat) ys.toArray := hacc.at fun o e => hk₃ _ o (up₂ _ (by omega) (by omega) o e)
      cases hpa : pz a with
      | false =>
        rw [if_neg Bool.false_ne_true]
        refine ⟨xs.length + 1 - (i + 1), by omega, h₃, _, ys, i + 1, _, rfl, hlt, rfl, st₃, acc₃, cc₃, ?_, fun b a1 a2 a3 o e => hk₃ _ _ (up₂ b a1 a3 o (hkk b a1 a2 a3 o e))⟩
        rw [htake, List.filter_append]
        simpa [hpa] using hys
      | true =>
        rw [if_pos rfl]
        refine wpAny_mono (he (I + 1 + 1 : Nat) (I + 1 + 1 + 1 : Nat) a t { s₁ with heap := h₃, toks := _ } _ hmem hpa cc₃ hcn fun b o e => hk₃ b o (old₂ b o e)) (fun y s₄ h₄ => ?_) fun _ _ z => z
        obtain ⟨⟨u, rfl⟩, h₄, tk₄, rfl, hk₄⟩ := h₄
        have hsz : ys.toArray.size ≤ sizeLine := by
          have e1 := hys.length
          rw [List.length_map] at e1
          have e2 : ((xs.take i).filter pz).length ≤ (xs.take i).length := List.length_filter_le _ _
          rw [List.length_take] at e2
          have : sizeLine ≥ 5000 := by decide
          rw [List.size_toArray]
          omega
        refine wpAny_list_append_plain (hsz := hsz) (acc₃.at fun o e => hk₄ _ o e) fun h₅ hl₅ hs₅ => ?_
        refine ⟨xs.length + 1 - (i + 1), by omega, h₅, _, ys ++ [.int (f a) u], i + 1, some (.int a t), rfl, hlt, rfl, ?_, by simpa using hl₅, ?_, ?_, fun b a1 a2 a3 o e => (hs₅.2 b a2).trans (hk₄ _ _ (hk₃ _ _ (up₂ b a1 a3 o (hkk b a1 a2 a3 o e))))⟩
        · exact W.frame _ _ h₅ st₃ fun b hb o e => (hs₅.2 b (by have := fpI b hb; show @Ne Nat b (I + 1); omega)).trans (hk₄ b o e)
        · exact (cc₃.keeps hk₄).sameBut hs₅ (by show @Ne Nat (I + 1 + 1 + 1) (I + 1); omega)
        · rw [htake, List.filter_append, List.map_append]
          refine hys.append ?_
          simpa [hpa] using IntsAre.cons (f a) u .nil
    · obtain rfl : i = xs.length := by omega
      refine W.done _ _ _ hst' fun h₁ tk₁ hk₁ => ?_
      have up : ∀ b : Nat, b ≠ I → b ≠ I + 1 → b ≠ I + 1 + 1 + 1 → ∀ o, g₂.get? b = some o → h₁.get? b = some o := fun b a1 a2 a3 o e => hk₁ b o (wrI b a1) (hkk b a1 a2 a3 o e)
      refine ⟨_, hC₂.at' fun o e => up _ (by omega) (by omega) (by omega) o e, fun h₂ hs₂ => ?_⟩
      refine hq (I + 1 : Nat) h₂ tk₁ ys (get?_above (by rw [hI]; exact Nat.le_succ _)) ?_ (by rw [List.take_length] at hys; exact hys) fun b o e => ?_
      · have hD := (hacc.at (h' := h₁) fun o e => hk₁ _ o (wrI _ (by omega)) e).isList
        obtain ⟨o, e, r⟩ := hD
        exact ⟨o, (hs₂.2 _ (by show @Ne Nat (I + 1) (I + 1 + 1); omega)).trans e, r⟩
      · have := ltI e
        exact (hs₂.2 _ (by show @Ne Nat b (I + 1 + 1); omega)).trans (up b (by omega) (by omega) (by omega) o (hk₂ _ _ (hk _ _ e)))
  exact codeAny_compStart_list loop (W.self 0 _ _ _ hst₂ loop)
end
end Mine

namespace Mine
open PySem PySem.W PySem.Calls PyProof.Rows
set_option maxRecDepth 100000

/-- a name reads so, in each heap that holds what `h` holds -/
def Rd (env : Env) (h : Heap) (x : Str) (v : Value) : Prop := ∀ (M : Model) (A : Around) (E : Value → Shared → Prop) (Q : Value → Shared → Prop) (s : Shared) (pos : Pos),
  (∀ b o, h.get? b = some o → s.heap.get? b = some o) → Q v s → wpAny M A (eval (.Name x pos) env) Q E s
theorem Rd.keeps {env : Env} {h h' : Heap} {x : Str} {v : Value} (r : Rd env h x v) (k : ∀ b o, h.get? b = some o → h'.get? b = some o) : Rd env h' x v := fun M A E Q s pos hk hq => r M A E Q s pos (fun b o e => hk b o (k b o e)) hq
theorem Rd.go {env : Env} {h : Heap} {x : Str} {v : Value} (r : Rd env h x v) {M : Model} {A : Around} {E : Value → Shared → Prop} {Q : Value → Shared → Prop} {s : Shared} {pos : Pos}
    (k : ∀ b o, h.get? b = some o → s.heap.get? b = some o) (hq : Q v s) : wpAny M A (eval (.Name x pos) env) Q E s := r M A E Q s pos k hq

theorem rd_local {env : Env} {h : Heap} {x : Str} {v : Value} {m : Str → Option Value} (hk : env.scope.kind = .function) (hl : env.kindOf x = some .local) (hn : h.Ns env.locals m) (hv : m x = some v) (hd : (x == ("__debug__" : Str)) = false) : Rd env h x v :=
  fun M A E Q s pos k hq => wpAny_Name (wpAny_loadName_local hk hl (hn.keeps k) hv hq) hd
theorem rd_cell {env : Env} {h : Heap} {x : Str} {v : Value} {c : Addr} (hk : env.scope.kind = .function) (hl : env.kindOf x = some .cell) (hc : env.cells.lookup x = some c) (hv : h.IsCell c (some v)) (hd : (x == ("__debug__" : Str)) = false) : Rd env h x v :=
  fun M A E Q s pos k hq => wpAny_Name (wpAny_loadName_cell hk hl hc (hv.keeps k) hq) hd
theorem rd_free {env : Env} {h : Heap} {x : Str} {v : Value} {c : Addr} (hk : env.scope.kind = .function) (hl : env.kindOf x = some .free) (hc : env.cells.lookup x = some c) (hv : h.IsCell c (some v)) (hd : (x == ("__debug__" : Str)) = false) (hn : (x == ("__classdict__" : Str)) = false) : Rd env h x v :=
  fun M A E Q s pos k hq => wpAny_Name (wpAny_loadName_free hk hl hc (hv.keeps k) hq hn) hd
theorem rd_builtin {env : Env} {g h : Heap} {x : Str} {v : Value} {K : Frag} {p : Program} {loose : List Str} {mg mb : Str → Option Value} (X : K.In g) (T : TopRead p loose mg mb g) (kg : ∀ b o, g.get? b = some o → h.get? b = some o) (e : nsIn K mainGlobals x = some none)
    (hv : bootBuiltins x = some v) (hn : x ≠ "__name__") (hk : env.scope.kind = .function) (hl : env.kindOf x = some .globalImplicit) (hg : env.globals = mainGlobals) (hb : env.builtins = builtinsNs) (hd : (x == ("__debug__" : Str)) = false) : Rd env h x v :=
  fun M A E Q s pos k hq => Name_function_global hk hl (loadGlobal_builtin (hg ▸ T.g.keeps fun b o e => k b o (kg b o e)) (mg_none_of X T.g e) (hb ▸ T.b.keeps fun b o e => k b o (kg b o e)) ((T.builtins x hn).trans hv) hq) hd
theorem rd_global {env : Env} {g h : Heap} {x : Str} {v : Value} {K : Frag} {p : Program} {loose : List Str} {mg mb : Str → Option Value} (X : K.In g) (T : TopRead p loose mg mb g) (kg : ∀ b o, g.get? b = some o → h.get? b = some o) (e : nsIn K mainGlobals x = some (some v))
    (hk : env.scope.kind = .function) (hl : env.kindOf x = some .globalImplicit) (hg : env.globals = mainGlobals) (hd : (x == ("__debug__" : Str)) = false) : Rd env h x v :=
  fun M A E Q s pos k hq => Name_function_global hk hl (loadGlobal_global (hg ▸ T.g.keeps fun b o e => k b o (kg b o e)) (mg_of X T.g e) hq) hd

theorem bits_small {a : Int} (h : a.natAbs < 2 ^ 63) : Builtin.Int.intBits a ≤ 64 := by
  unfold Builtin.Int.intBits
  split
  · exact Nat.zero_le _
  · rename_i h0
    have hz : a.natAbs ≠ 0 := by
      intro q
      exact h0 (by simpa using q)
    have := (Nat.log2_lt hz).mpr h
    omega

/-- the least number of a list -/
def lmin : List Int → Int
  | [] => 0
  | [x] => x
  | x :: y :: r => min x (lmin (y :: r))
theorem lmin_le : ∀ (l : List Int) (a : Int), a ∈ l → lmin l ≤ a
  | [x], a, h => by rw [List.mem_singleton.mp h]; exact Int.le_refl _
  | x :: y :: r, a, h => by
    unfold lmin
    rcases List.mem_cons.mp h with rfl | h
    · exact Int.min_le_left _ _
    · exact Int.le_trans (Int.min_le_right _ _) (lmin_le (y :: r) a h)
theorem lmin_mem : ∀ (l : List Int), 0 < l.length → lmin l ∈ l
  | [x], _ => by simp [lmin]
  | x :: y :: r, _ => by
    unfold lmin
    have := lmin_mem (y :: r) (by simp)
    rcases Int.le_total x (lmin (y :: r)) with h | h
    · rw [Int.min_eq_left h]; exact .head _
    · rw [Int.min_eq_right h]; exact .tail _ this

section
variable {prog : Program} {w : World} {A : Around} {E : Value → Shared → Prop} {s : Shared}

theorem sum_call {l : Addr} {vs : List Value} {ns : List Int} {Q : Value → Shared → Prop} (hh : A.handled = none) (hl : s.heap.IsList l vs.toArray) (hi : IntsAre vs ns)
    (h : ∀ h' tk t, (∀ b o, s.heap.get? b = some o → h'.get? b = some o) → Q (.int ns.sum t) { s with heap := h', toks := tk }) : wpAny (model prog w) A (call (.builtin "sum") [.ref l]) Q E s := by
  obtain ⟨xs, e⟩ := hi.allInts.items
  have hns : ns = xs.toList.map (·.1) := by rw [← hi.numsOf, ← nums_intItems, ← e]
  rw [e] at hl
  refine sum_intListG hh hl fun h' tk t' hk => ?_
  have := h h' tk t' hk
  rw [preSum_eq, List.take_of_length_le (by simp)]
  rw [hns] at this; exact this

theorem min_call {l : Addr} {vs : List Value} {ns : List Int} {Q : Value → Shared → Prop} (hh : A.handled = none) (hl : s.heap.IsList l vs.toArray) (hi : IntsAre vs ns) (hne : 0 < ns.length)
    (h : ∀ h' tk t, (∀ b o, s.heap.get? b = some o → h'.get? b = some o) → Q (.int (lmin ns) t) { s with heap := h', toks := tk }) : wpAny (model prog w) A (call (.builtin "min") [.ref l]) Q E s := by
  obtain ⟨xs, e⟩ := hi.allInts.items
  have hns : ns = xs.toList.map (·.1) := by rw [← hi.numsOf, ← nums_intItems, ← e]
  have hsz : 0 < xs.size := by
    have h3 := hne; rw [hns, List.length_map, Array.length_toList] at h3; exact h3
  rw [e] at hl
  refine min_intList hh hl hsz fun v h' tk hv hk => ?_
  obtain ⟨t, rfl⟩ := intItems_at hv
  obtain ⟨h1, h2⟩ := argBest_lt (numAt xs) (xs.size - 1)
  have hm : numAt xs (argBest (fun i j => decide (numAt xs i < numAt xs j)) (xs.size - 1)) = lmin ns := by
    refine Int.le_antisymm ?_ (lmin_le _ _ ?_)
    · have hmem := lmin_mem ns hne
      rw [hns] at hmem
      obtain ⟨j, hj, ej⟩ := mem_getD hmem
      rw [List.length_map, Array.length_toList] at hj
      have := h2 j (by omega)
      rw [numAt_eq xs j, ej, ← hns] at this
      exact this
    · rw [hns, numAt_eq]; exact getD_mem (by rw [List.length_map, Array.length_toList]; omega)
  rw [hm]
  exact h h' tk t hk
end
end Mine

namespace Mine
open PySem PySem.W PySem.Calls PyProof.Rows
set_option maxRecDepth 100000

section
variable {prog : Program} {w : World} {A : Around} {E : Value → Shared → Prop} {s : Shared} {env : Env} {h : Heap}

theorem keeps_toks (s : Shared) (tk : Nat) : Keeps s { s with toks := tk } := ⟨s.heap, tk, rfl, fun _ _ e => e⟩

theorem ev_mulmod {x y r : Str} {p1 p2 p3 p4 p5 : Pos} {a b pv : Int} {t1 t2 t3 : Tok} (k : ∀ c o, h.get? c = some o → s.heap.get? c = some o) (rx : Rd env h x (.int a t1)) (ry : Rd env h y (.int b t2)) (rr : Rd env h r (.int pv t3)) (ha : a.natAbs < 2 ^ 63) (hp : pv ≠ 0) :
    wpAny (model prog w) A (eval (.BinOp (.BinOp (.Name x p1) .Mult (.Name y p2) p3) .Mod (.Name r p4) p5) env) (fun v s' => (∃ u, v = .int ((a * b).fmod pv) u) ∧ Keeps s s') E s := by
  refine wpAny_BinOp (wpAny_BinOp (rx.go k (ry.go k ?_)))
  refine PySem.P.mul_int ?_ (IntMulOk.of_left (bits_small ha))
  refine rr.go k ?_
  refine PyProof.Rows.mod_int hp ⟨⟨_, rfl⟩, keeps_toks _ _⟩

theorem ev_powmod {x y r : Str} {p1 p2 p3 p4 p5 : Pos} {a b pv : Int} {t1 t2 t3 : Tok} (k : ∀ c o, h.get? c = some o → s.heap.get? c = some o) (rx : Rd env h x (.int a t1)) (ry : Rd env h y (.int b t2)) (rr : Rd env h r (.int pv t3)) (ha : a.natAbs < 2 ^ 63) (hb : 0 ≤ b) (hb2 : b < 1000) (hp : pv ≠ 0) :
    wpAny (model prog w) A (eval (.BinOp (.BinOp (.Name x p1) .Pow (.Name y p2) p3) .Mod (.Name r p4) p5) env) (fun v s' => (∃ u, v = .int ((a ^ b.toNat).fmod pv) u) ∧ Keeps s s') E s := by
  refine wpAny_BinOp (wpAny_BinOp (rx.go k (ry.go k ?_)))
  refine PyProof.Rows.pow_int hb ?_ ?_
  · have := bits_small ha
    have h1 : (Builtin.Int.intBits a : Int) * b ≤ 64 * b := Int.mul_le_mul_of_nonneg_right (by omega) hb
    omega
  · refine rr.go k ?_
    refine PyProof.Rows.mod_int hp ⟨⟨_, rfl⟩, keeps_toks _ _⟩

/-- the list of the products -/
theorem comp_mul {iter : Expr} {x r : Str} {px p1 p2 p3 p4 p5 pos : Pos} {scope : Scope} {cl : List (Str × Addr)} {Q : Value → Shared → Prop} {pv : Int} {t3 : Tok} {c : Addr} (hh : A.handled = none)
    (hclos : closureFor scope env = pure cl) (hcell : ∀ y ∈ scope.names, y.2 ≠ .cell) (hkind : scope.kind = .function)
    (hnames : ∀ y ∈ scope.names, y.2 = .local → scope.names.lookup y.1 = some .local) (hx : scope.names.lookup x = some .local)
    (hlx : ∀ C, (compEnvC scope cl C env).kindOf x = some .local) (hdx : (x == ("__debug__" : Str)) = false)
    (hr : ∀ C (h : Heap), h.IsCell c (some (.int pv t3)) → Rd (compEnvC scope cl C env) h r (.int pv t3)) (hp : pv ≠ 0)
    (h : wpAny (model prog w) A (eval iter env) (fun xv s₁ => ∃ ib xs, xv = .ref ib ∧ Src prog w s₁.heap ib xs ∧ xs.length ≤ 4000 ∧ (∀ a ∈ xs, a.natAbs < 2 ^ 63) ∧ s₁.heap.IsCell c (some (.int pv t3)) ∧
      (∀ (D : Addr) h' tk vs, s₁.heap.get? D = none → h'.IsList D vs.toArray → IntsAre vs (xs.map fun a => (a * a).fmod pv) → (∀ b o, s₁.heap.get? b = some o → h'.get? b = some o) → Q (.ref D) { s₁ with heap := h', toks := tk })) E s)
    (hs : ∀ x, foldedSetIterable iter env x = pure x := by intro _; rfl) :
    wpAny (model prog w) A (eval (.ListComp (.BinOp (.BinOp (.Name x p1) .Mult (.Name x p2) p3) .Mod (.Name r p4) p5) [⟨.Name x px, iter, [], 0⟩] scope pos) env) Q E s := by
  refine comp_ints (pz := fun _ => true) (f := fun a => (a * a).fmod pv) hh hclos hcell hkind hnames hx (wpAny_mono h (fun xv s₁ h₁ => ?_) fun _ _ z => z) hs
  obtain ⟨ib, xs, rfl, hsrc, hlen, hsm, hcl, hq⟩ := h₁
  refine ⟨ib, xs, rfl, hsrc, hlen, fun C a t s₃ m₃ E' ha hn hm hk => ?_, fun C a t s₃ m₃ E' ha _ hn hm hk => ?_, fun D h' tk vs hD hl hi hk => hq D h' tk vs hD hl (by rw [List.filter_eq_self.mpr (fun _ _ => rfl)] at hi; exact hi) hk⟩
  · exact wpAny_pure ⟨rfl, keeps_toks _ _⟩
  · have hcl₃ := hcl.keeps hk
    exact ev_mulmod (h := s₃.heap) (fun _ _ e => e) (rd_local hkind (hlx C) hn hm hdx) (rd_local hkind (hlx C) hn hm hdx) (hr C _ hcl₃) (hsm a ha) hp

/-- the list of the powers -/
theorem comp_pow {iter : Expr} {x y r : Str} {px p1 p2 p3 p4 p5 pos : Pos} {scope : Scope} {cl : List (Str × Addr)} {Q : Value → Shared → Prop} {av pv : Int} {t2 t3 : Tok} {c c2 : Addr} (hh : A.handled = none)
    (hclos : closureFor scope env = pure cl) (hcell : ∀ y ∈ scope.names, y.2 ≠ .cell) (hkind : scope.kind = .function)
    (hnames : ∀ y ∈ scope.names, y.2 = .local → scope.names.lookup y.1 = some .local) (hx : scope.names.lookup x = some .local)
    (hlx : ∀ C, (compEnvC scope cl C env).kindOf x = some .local) (hdx : (x == ("__debug__" : Str)) = false)
    (hr : ∀ C (h : Heap), h.IsCell c (some (.int pv t3)) → Rd (compEnvC scope cl C env) h r (.int pv t3)) (hy : ∀ C (h : Heap), h.IsCell c2 (some (.int av t2)) → Rd (compEnvC scope cl C env) h y (.int av t2)) (hp : pv ≠ 0) (hav : av.natAbs < 2 ^ 63)
    (h : wpAny (model prog w) A (eval iter env) (fun xv s₁ => ∃ ib xs, xv = .ref ib ∧ Src prog w s₁.heap ib xs ∧ xs.length ≤ 4000 ∧ (∀ a ∈ xs, 0 ≤ a ∧ a < 1000) ∧ s₁.heap.IsCell c (some (.int pv t3)) ∧ s₁.heap.IsCell c2 (some (.int av t2)) ∧
      (∀ (D : Addr) h' tk vs, s₁.heap.get? D = none → h'.IsList D vs.toArray → IntsAre vs (xs.map fun k => (av ^ k.toNat).fmod pv) → (∀ b o, s₁.heap.get? b = some o → h'.get? b = some o) → Q (.ref D) { s₁ with heap := h', toks := tk })) E s)
    (hs : ∀ x, foldedSetIterable iter env x = pure x := by intro _; rfl) :
    wpAny (model prog w) A (eval (.ListComp (.BinOp (.BinOp (.Name y p1) .Pow (.Name x p2) p3) .Mod (.Name r p4) p5) [⟨.Name x px, iter, [], 0⟩] scope pos) env) Q E s := by
  refine comp_ints (pz := fun _ => true) (f := fun k => (av ^ k.toNat).fmod pv) hh hclos hcell hkind hnames hx (wpAny_mono h (fun xv s₁ h₁ => ?_) fun _ _ z => z) hs
  obtain ⟨ib, xs, rfl, hsrc, hlen, hsm, hcl, hcl2, hq⟩ := h₁
  refine ⟨ib, xs, rfl, hsrc, hlen, fun C a t s₃ m₃ E' ha hn hm hk => ?_, fun C a t s₃ m₃ E' ha _ hn hm hk => ?_, fun D h' tk vs hD hl hi hk => hq D h' tk vs hD hl (by rw [List.filter_eq_self.mpr (fun _ _ => rfl)] at hi; exact hi) hk⟩
  · exact wpAny_pure ⟨rfl, keeps_toks _ _⟩
  · exact ev_powmod (h := s₃.heap) (fun _ _ e => e) (hy C _ (hcl2.keeps hk)) (rd_local hkind (hlx C) hn hm hdx) (hr C _ (hcl.keeps hk)) hav (hsm a ha).1 (hsm a ha).2 hp

/-- the list of those that are not `r` -/
theorem comp_but {iter : Expr} {x r : Str} {px p0 p1 p2 p3 pos : Pos} {scope : Scope} {cl : List (Str × Addr)} {Q : Value → Shared → Prop} {pv : Int} {t3 : Tok} {c : Addr} (hh : A.handled = none)
    (hclos : closureFor scope env = pure cl) (hcell : ∀ y ∈ scope.names, y.2 ≠ .cell) (hkind : scope.kind = .function)
    (hnames : ∀ y ∈ scope.names, y.2 = .local → scope.names.lookup y.1 = some .local) (hx : scope.names.lookup x = some .local)
    (hlx : ∀ C, (compEnvC scope cl C env).kindOf x = some .local) (hdx : (x == ("__debug__" : Str)) = false)
    (hr : ∀ C (h : Heap), h.IsCell c (some (.int pv t3)) → Rd (compEnvC scope cl C env) h r (.int pv t3))
    (h : wpAny (model prog w) A (eval iter env) (fun xv s₁ => ∃ ib xs, xv = .ref ib ∧ Src prog w s₁.heap ib xs ∧ xs.length ≤ 4000 ∧ s₁.heap.IsCell c (some (.int pv t3)) ∧
      (∀ (D : Addr) h' tk vs, s₁.heap.get? D = none → h'.IsList D vs.toArray → IntsAre vs (xs.filter fun a => a != pv) → (∀ b o, s₁.heap.get? b = some o → h'.get? b = some o) → Q (.ref D) { s₁ with heap := h', toks := tk })) E s)
    (hs : ∀ x, foldedSetIterable iter env x = pure x := by intro _; rfl) :
    wpAny (model prog w) A (eval (.ListComp (.Name x p0) [⟨.Name x px, iter, [.Compare (.Name x p1) [.NotEq] [.Name r p2] p3], 0⟩] scope pos) env) Q E s := by
  refine comp_ints (pz := fun a => a != pv) (f := fun a => a) hh hclos hcell hkind hnames hx (wpAny_mono h (fun xv s₁ h₁ => ?_) fun _ _ z => z) hs
  obtain ⟨ib, xs, rfl, hsrc, hlen, hcl, hq⟩ := h₁
  refine ⟨ib, xs, rfl, hsrc, hlen, fun C a t s₃ m₃ E' ha hn hm hk => ?_, fun C a t s₃ m₃ E' ha _ hn hm hk => ?_, fun D h' tk vs hD hl hi hk => hq D h' tk vs hD hl (by rw [List.map_id'] at hi; exact hi) hk⟩
  · simp only [List.forIn_cons, List.forIn_nil, if_true]
    refine wpAny_bind (wpAny_bind ?_)
    refine wpAny_isTrue_Compare1 ((rd_local hkind (hlx C) hn hm hdx).go (fun _ _ e => e) ?_)
    refine (hr C _ (hcl.keeps hk)).go (fun _ _ e => e) ?_
    refine PySem.P.ne_int (wpAny_truthy_bool ?_)
    exact wpAny_pure (wpAny_pure ⟨rfl, keeps_toks _ _⟩)
  · exact (rd_local hkind (hlx C) hn hm hdx).go (fun _ _ e => e) ⟨⟨_, rfl⟩, keeps_toks _ _⟩

/-- the list of a number's products with the numbers of a list -/
theorem comp_prods {iter : Expr} {y x r : Str} {px p1 p2 p3 p4 p5 pos : Pos} {scope : Scope} {cl : List (Str × Addr)} {Q : Value → Shared → Prop} {av pv : Int} {t2 t3 : Tok} {c c2 : Addr} (hh : A.handled = none)
    (hclos : closureFor scope env = pure cl) (hcell : ∀ y ∈ scope.names, y.2 ≠ .cell) (hkind : scope.kind = .function)
    (hnames : ∀ y ∈ scope.names, y.2 = .local → scope.names.lookup y.1 = some .local) (hx : scope.names.lookup y = some .local)
    (hlx : ∀ C, (compEnvC scope cl C env).kindOf y = some .local) (hdx : (y == ("__debug__" : Str)) = false)
    (hr : ∀ C (h : Heap), h.IsCell c (some (.int pv t3)) → Rd (compEnvC scope cl C env) h r (.int pv t3)) (hy : ∀ C (h : Heap), h.IsCell c2 (some (.int av t2)) → Rd (compEnvC scope cl C env) h x (.int av t2)) (hp : pv ≠ 0) (hav : av.natAbs < 2 ^ 63)
    (h : wpAny (model prog w) A (eval iter env) (fun xv s₁ => ∃ ib xs, xv = .ref ib ∧ Src prog w s₁.heap ib xs ∧ xs.length ≤ 4000 ∧ s₁.heap.IsCell c (some (.int pv t3)) ∧ s₁.heap.IsCell c2 (some (.int av t2)) ∧
      (∀ (D : Addr) h' tk vs, s₁.heap.get? D = none → h'.IsList D vs.toArray → IntsAre vs (xs.map fun b => (av * b).fmod pv) → (∀ b o, s₁.heap.get? b = some o → h'.get? b = some o) → Q (.ref D) { s₁ with heap := h', toks := tk })) E s)
    (hs : ∀ x, foldedSetIterable iter env x = pure x := by intro _; rfl) :
    wpAny (model prog w) A (eval (.ListComp (.BinOp (.BinOp (.Name x p1) .Mult (.Name y p2) p3) .Mod (.Name r p4) p5) [⟨.Name y px, iter, [], 0⟩] scope pos) env) Q E s := by
  refine comp_ints (pz := fun _ => true) (f := fun b => (av * b).fmod pv) hh hclos hcell hkind hnames hx (wpAny_mono h (fun xv s₁ h₁ => ?_) fun _ _ z => z) hs
  obtain ⟨ib, xs, rfl, hsrc, hlen, hcl, hcl2, hq⟩ := h₁
  refine ⟨ib, xs, rfl, hsrc, hlen, fun C a t s₃ m₃ E' ha hn hm hk => ?_, fun C a t s₃ m₃ E' ha _ hn hm hk => ?_, fun D h' tk vs hD hl hi hk => hq D h' tk vs hD hl (by rw [List.filter_eq_self.mpr (fun _ _ => rfl)] at hi; exact hi) hk⟩
  · exact wpAny_pure ⟨rfl, keeps_toks _ _⟩
  · exact ev_mulmod (h := s₃.heap) (fun _ _ e => e) (hy C _ (hcl2.keeps hk)) (rd_local hkind (hlx C) hn hm hdx) (hr C _ (hcl.keeps hk)) hav hp
end
end Mine

namespace Mine
open PySem PySem.W PySem.Calls PyProof.Rows
set_option maxRecDepth 100000

/-- where the law stands -/
structure LS (g : Heap) (L : Nat) (os : OsState) (ml cm : Str → Option Value) (tb : Array Value) (s : Shared) : Prop where
  fr : Fr g L s.heap ml
  cl : Cl L (lcs L) s.heap cm
  tab : s.heap.get? 61 = some (tabObj tb)
  gens : AllBare s.gens
  os : s.os = os

section
variable {g : Heap} {L fa : Nat} {os : OsState} {ml cm : Str → Option Value} {tb : Array Value} {s : Shared} {P : Params} {mg : Str → Option Value}

theorem LS.keeps (x : LS g L os ml cm tb s) {h' : Heap} (tk : Nat) (k : ∀ b o, s.heap.get? b = some o → h'.get? b = some o) : LS g L os ml cm tb { s with heap := h', toks := tk } :=
  ⟨x.fr.kept k, x.cl.keeps k, k _ _ x.tab, x.gens, x.os⟩
theorem LS.toks (x : LS g L os ml cm tb s) (tk : Nat) : LS g L os ml cm tb { s with toks := tk } := ⟨x.fr, x.cl, x.tab, x.gens, x.os⟩

theorem LS.loc (x : LS g L os ml cm tb s) {y : Str} {v : Value} (hv : ml y = some v) (hl : (lenv L fa).kindOf y = some .local) (hd : (y == ("__debug__" : Str)) = false) : Rd (lenv L fa) s.heap y v := rd_local rfl hl x.fr.ns hv hd
theorem LS.cell (x : LS g L os ml cm tb s) {y : Str} {v : Value} {c : Addr} (hc : (lcs L).lookup y = some c) (hv : cm y = some v) : s.heap.IsCell c (some v) := hv ▸ x.cl.cell y c hc
theorem LS.rdc (x : LS g L os ml cm tb s) {y : Str} {v : Value} {c : Addr} (hc : (lcs L).lookup y = some c) (hv : cm y = some v) (hl : (lenv L fa).kindOf y = some .cell) (hd : (y == ("__debug__" : Str)) = false) : Rd (lenv L fa) s.heap y v :=
  rd_cell rfl hl hc (x.cell hc hv) hd
theorem LS.bu (x : LS g L os ml cm tb s) (C : LCtx P g L mg) {y : Str} {v : Value} (e : nsIn (hd.heap_39 P) mainGlobals y = some none) (hv : bootBuiltins y = some v) (hn : y ≠ "__name__") (hl : (lenv L fa).kindOf y = some .globalImplicit) (hd : (y == ("__debug__" : Str)) = false) : Rd (lenv L fa) s.heap y v := by
  obtain ⟨p, loose, mb, T⟩ := C.top
  exact rd_builtin C.K T x.fr.keep e hv hn rfl hl rfl rfl hd
theorem LS.ue (x : LS g L os ml cm tb s) (C : LCtx P g L mg) : Rd (lenv L fa) s.heap (Str.ofString "unique_everseen") (.ref 59) := by
  obtain ⟨p, loose, mb, T⟩ := C.top
  exact rd_global C.K T x.fr.keep (by rfl) rfl (by rfl) rfl (by decide)

/-- a store into the law's own frame, or into one of its cells -/
theorem LS.stL {M : Model} {A : Around} {E : Value → Shared → Prop} {Q : Unit → Shared → Prop} {y : Str} {v : Value} (x : LS g L os ml cm tb s) (hl : (lenv L fa).kindOf y = some .local)
    (h : ∀ h', LS g L os (fun z => if z = y then some v else ml z) cm tb { s with heap := h', toks := s.toks + 1 } → (∀ b o, b ≠ L → s.heap.get? b = some o → h'.get? b = some o) → Q () { s with heap := h', toks := s.toks + 1 }) (hL : 61 < L) :
    wpAny M A (storeName (lenv L fa) y v) Q E s :=
  wpAny_storeName_local hl x.fr.ns (fun h' hn hs => h h' ⟨x.fr.set hn hs, x.cl.sameBut hs (Nat.le_refl _), (hs.2 _ (by show @Ne Nat 61 L; omega)).trans x.tab, x.gens, x.os⟩ fun b o hb e => (hs.2 b hb).trans e) (by rfl)

theorem LS.stC {M : Model} {A : Around} {E : Value → Shared → Prop} {Q : Unit → Shared → Prop} {y : Str} {v : Value} {c : Addr} (x : LS g L os ml cm tb s) (hc : (lcs L).lookup y = some c) (hl : (lenv L fa).kindOf y = some .cell)
    (h : ∀ h', LS g L os ml (fun z => if z = y then some v else cm z) tb { s with heap := h' } → (∀ b o, b ≠ c → s.heap.get? b = some o → h'.get? b = some o) → Q () { s with heap := h' }) (hL : 61 < L) :
    wpAny M A (storeName (lenv L fa) y v) Q E s := by
  have hLc : L < c := x.cl.above y c (mem_of_lookup hc)
  refine wpAny_storeName_cell rfl hl hc (x.cl.cell y c hc) fun h' hv hs => h h' ⟨⟨x.fr.ns.sameBut hs (Nat.ne_of_lt hLc), fun b o e => (hs.2 b (Nat.ne_of_lt (Nat.lt_trans (Nat.lt_of_lt_of_le (Heap.lt_size e) x.fr.above) hLc))).trans (x.fr.keep b o e), x.fr.above⟩,
    ⟨fun n c' e => ?_, x.cl.apart, x.cl.above⟩, (hs.2 _ (by have : (L : Nat) < c := hLc; show @Ne Nat 61 c; omega)).trans x.tab, x.gens, x.os⟩ fun b o hb e => (hs.2 b hb).trans e
  by_cases hn : n = y
  · subst hn; rw [hc] at e; cases e; simpa using hv
  · have hcc : c' ≠ c := fun q => hn (name_of_addr x.cl.apart (mem_of_lookup e) (q ▸ mem_of_lookup hc))
    simpa [hn] using (x.cl.cell n c' e).sameBut hs hcc
end

structure LGoal (w : World) (g : Heap) (os : OsState) (L fa : Nat) (b : List Stmt) (s : Shared) : Prop where
  out : wpAny (model PySem.Challenge.pw_ij0068_01 w) (lA L fa) (execs b (lenv L fa)) (fun f s' => f = .ret (.bool true) ∧ LEnd g os s') (fun _ _ => False) s

def P8 : List Int := [3, 5, 7, 11, 13, 17, 19, 23]

/-- the numbers drawn from the script -/
structure Nums (cm : Str → Option Value) (p q a : Int) : Prop where
  cp : ∃ t, cm (Str.ofString "p") = some (.int p t)
  cq : ∃ t, cm (Str.ofString "q") = some (.int q t)
  ca : ∃ t, cm (Str.ofString "a") = some (.int a t)
  hp : p ∈ P8
  hq : q ∈ P8
  ne : q ≠ p
  a1 : 1 ≤ a
  a2 : a ≤ p - 1

def Walk6 : Prop := ∀ (w : World) (g : Heap) (L fa : Nat) (os : OsState) (s : Shared) (mg ml cm : Str → Option Value) (p q a : Int), LCtx w.params g L mg → LS g L os ml cm #[] s → Nums cm p q a → LGoal w g os L fa (lawBody.drop 6) s

def lawSt (i : Nat) : Stmt := lawBody.getD i (.Pass default)
theorem law_cons (i : Nat) (hi : i < lawBody.length) : lawBody.drop i = lawSt i :: lawBody.drop (i + 1) := by
  unfold lawSt
  rw [List.drop_eq_getElem_cons hi]
  congr 1
  rw [List.getD_eq_getElem?_getD, List.getElem?_eq_getElem hi]; rfl
theorem law_length : lawBody.length = 18 := by decide +kernel

theorem lgoal_cons {w : World} {g : Heap} {os : OsState} {L fa : Nat} {s : Shared} (i : Nat) (hi : i < 18)
    (h : wpAny (model PySem.Challenge.pw_ij0068_01 w) (lA L fa) (exec (lawSt i) (lenv L fa)) (fun f s' => match f with | .next => LGoal w g os L fa (lawBody.drop (i + 1)) s' | f => f = .ret (.bool true) ∧ LEnd g os s') (fun _ _ => False) s) :
    LGoal w g os L fa (lawBody.drop i) s := by
  refine ⟨?_⟩
  rw [law_cons i (by rw [law_length]; exact hi)]
  refine wpAny_execs_cons (wpAny_mono h (fun f s' hf => ?_) fun _ _ z => z)
  cases f with
  | next => exact hf.out
  | _ => exact hf

theorem int_items {M : Model} {A : Around} {E : Value → Shared → Prop} {env : Env} {pos : Pos} {Q : List Value → Shared → Prop} : ∀ (cs : List (Int × Nat × Pos)) (s : Shared),
    (∀ vs tk, IntsAre vs (cs.map (·.1)) → Q vs { s with toks := tk }) → wpAny M A (spliced (backTo pos (starEach (cs.map fun c => Expr.Constant (.int c.1) c.2.1 c.2.2) env))) Q E s
  | [], s, h => wpAny_items_nil (h [] s.toks .nil)
  | c :: cs, s, h => by
    refine wpAny_items_cons (wpAny_Constant_int ?_)
    exact int_items (Q := fun vs s' => Q (Value.int c.1 s.toks :: vs) s') cs { s with toks := s.toks + 1 } fun vs tk hi => h _ tk (.cons _ _ hi)

section
variable {w : World} {g : Heap} {L fa : Nat} {os : OsState} {ml cm : Str → Option Value} {tb : Array Value} {s : Shared} {mg : Str → Option Value}

theorem st0 (C : LCtx w.params g L mg) (I : LS g L os ml cm tb s) {ls : Nat} {vs : List Value} {ns : List Int} (hml : ml (Str.ofString "script") = some (.ref ls)) (hls : g.IsList ls vs.toArray) (hi : IntsAre vs ns) (hlen : ns.length ≤ 63)
    (h : ∀ (s' : Shared) ml' l' ws ms, LS g L os ml' cm tb s' → ml' (Str.ofString "script") = some (.ref l') → s.heap.objs.size ≤ l' → s'.heap.IsList l' ws.toArray → IntsAre ws ms → ms.length ≤ 63 → LGoal w g os L fa (lawBody.drop 1) s') :
    LGoal w g os L fa (lawBody.drop 0) s := by
  refine lgoal_cons 0 (by decide) ?_
  have hls₀ : s.heap.IsList ls vs.toArray := I.fr.lst hls
  refine wpAny_Assign_Name ?_
  refine wpAny_Subscript_list_slice ((I.loc hml (by rfl) (by decide)).go (fun _ _ e => e) ?_)
  refine wpAny_evalPart_none (wpAny_evalPart_some (wpAny_Constant_int ?_))
  refine ⟨ls, vs.toArray, none, some 24, rfl, hls₀, ?_, .none, .int _ _, ?_⟩
  · rw [List.size_toArray, hi.length]
    have : sizeLine ≥ 5000 := by decide
    omega
  have hp₁ := hi.pick none (some 24) none
  have hLs : L < s.heap.objs.size := I.fr.ns.lt
  have k₁ : ∀ b o, s.heap.get? b = some o → ((s.heap.push { cls := .type "slice", data := .fields #[.none, .int 24 s.toks, .none] }).push { cls := .type "list", data := .seq (slicePick vs.toArray none (some 24) none) }).get? b = some o :=
    fun b o e => Heap.get?_push_of_some _ (Heap.get?_push_of_some _ e)
  have l₁ : ((s.heap.push { cls := .type "slice", data := .fields #[.none, .int 24 s.toks, .none] }).push { cls := .type "list", data := .seq (slicePick vs.toArray none (some 24) none) }).IsList (s.heap.objs.size + 1 : Nat) (slicePick vs.toArray none (some 24) none) := by
    have := Heap.get?_push_size (s.heap.push { cls := .type "slice", data := .fields #[.none, .int 24 s.toks, .none] }) (o := { cls := .type "list", data := .seq (slicePick vs.toArray none (some 24) none) }) rfl
    rw [Heap.size_push] at this
    exact ⟨_, this, rfl, _, rfl⟩
  dsimp only
  generalize ((s.heap.push { cls := .type "slice", data := .fields #[.none, .int 24 s.toks, .none] }).push { cls := .type "list", data := .seq (slicePick vs.toArray none (some 24) none) }) = H₁ at k₁ l₁ ⊢
  obtain ⟨ws, hws⟩ : ∃ ws : List Value, slicePick vs.toArray none (some 24) none = ws.toArray := ⟨(slicePick vs.toArray none (some 24) none).toList, by simp⟩
  rw [hws] at l₁ hp₁
  have hp₁ : IntsAre ws _ := hp₁
  refine (I.keeps (s.toks + 1) k₁).stL (by rfl) (fun H₂ I₂ k₂ => ?_) C.tabL
  have hms : (pickNums ns none (some 24) none).length ≤ 63 := by
    rw [← hp₁.length]
    have := slicePick_size_le vs.toArray none (some 24) none
    rw [hws, List.size_toArray, List.size_toArray, hi.length] at this
    omega
  refine h _ _ (s.heap.objs.size + 1) ws _ I₂ (if_pos rfl) (by omega) ?_ hp₁ hms
  obtain ⟨o, e, r⟩ := l₁
  exact ⟨o, k₂ _ _ (by show @Ne Nat (s.heap.objs.size + 1) L; omega) e, r⟩

def primeCs : List (Int × Nat × Pos) := match lawSt 1 with
  | .Assign _ (.List es _) _ => es.map fun e => match e with | .Constant (.int i) k p => (i, k, p) | _ => default
  | _ => []
theorem st1_shape : ∃ ts k p, lawSt 1 = .Assign [.Name (Str.ofString "primes") ts] (.List (primeCs.map fun c => Expr.Constant (.int c.1) c.2.1 c.2.2) p) k := ⟨_, _, _, rfl⟩
theorem primeCs_nums : primeCs.map (·.1) = P8 := by rfl

theorem st1 (C : LCtx w.params g L mg) (I : LS g L os ml cm tb s)
    (h : ∀ (s' : Shared) ml' l' ws, LS g L os ml' cm tb s' → (∀ y, y ≠ Str.ofString "primes" → ml' y = ml y) → ml' (Str.ofString "primes") = some (.ref l') → s.heap.objs.size ≤ l' → s'.heap.IsList l' ws.toArray → IntsAre ws P8 → (∀ b o, b ≠ L → s.heap.get? b = some o → s'.heap.get? b = some o) → LGoal w g os L fa (lawBody.drop 2) s') :
    LGoal w g os L fa (lawBody.drop 1) s := by
  refine lgoal_cons 1 (by decide) ?_
  have hLs : L < s.heap.objs.size := I.fr.ns.lt
  obtain ⟨ts, kk, pp, e1⟩ := st1_shape
  rw [e1]
  with_reducible refine wpAny_Assign_Name ?_ ?_
  rotate_left
  · rfl
  with_reducible refine wpAny_List ?_
  with_reducible refine int_items primeCs s fun vs tk hvs => ?_
  rw [primeCs_nums] at hvs
  refine ⟨by rw [hvs.length]; decide, ?_⟩
  have k₁ : ∀ b o, s.heap.get? b = some o → (s.heap.push { cls := .type "list", data := .seq vs.toArray }).get? b = some o := fun b o e => Heap.get?_push_of_some _ e
  have l₁ : (s.heap.push { cls := .type "list", data := .seq vs.toArray }).IsList s.heap.objs.size vs.toArray := ⟨_, Heap.get?_push_size _ rfl, rfl, _, rfl⟩
  dsimp only
  generalize (s.heap.push { cls := .type "list", data := .seq vs.toArray }) = H₁ at k₁ l₁ ⊢
  refine (I.keeps tk k₁).stL (by rfl) (fun H₂ I₂ k₂ => ?_) C.tabL
  refine h _ _ s.heap.objs.size vs I₂ (fun y hy => if_neg hy) (if_pos rfl) (Nat.le_refl _) ?_ hvs fun b o hb e => k₂ b o hb (k₁ b o e)
  obtain ⟨o, e, r⟩ := l₁
  exact ⟨o, k₂ _ _ (by show @Ne Nat s.heap.objs.size L; omega) e, r⟩
end
end Mine

namespace Mine
open PySem PySem.W PySem.Calls PyProof.Rows
set_option maxRecDepth 100000

section
variable {w : World} {g : Heap} {L fa : Nat} {os : OsState} {ml cm : Str → Option Value} {tb : Array Value} {s : Shared} {mg : Str → Option Value} {E : Value → Shared → Prop}

theorem ev_slice {p3 p4 p5 p6 p7 : Pos} {k2 k3 : Nat} {c0 : Int} {l : Nat} {ws : List Value} {ms : List Int} (I : LS g L os ml cm tb s) (hml : ml (Str.ofString "script") = some (.ref l)) (hl : s.heap.IsList l ws.toArray) (hi : IntsAre ws ms) (hms : ms.length ≤ 63) {Q : Value → Shared → Prop}
    (h : ∀ l' us ns h' tk, h'.IsList l' (List.toArray us) → IntsAre us ns → (∀ b o, s.heap.get? b = some o → h'.get? b = some o) → Q (.ref l') { s with heap := h', toks := tk }) :
    wpAny (model PySem.Challenge.pw_ij0068_01 w) (lA L fa) (eval (.Subscript (.Name (Str.ofString "script") p3) (.Slice (some (.Constant (.int c0) k2 p4)) none (some (.Constant (.int 2) k3 p5)) p6) p7) (lenv L fa)) Q E s := by
  refine wpAny_Subscript_Slice_step (T := "list") list_getitem_lookup ((I.loc hml (by rfl) (by decide)).go (fun _ _ e => e) ?_)
  refine wpAny_Slice (wpAny_evalPart_some (wpAny_Constant_int (wpAny_evalPart_none (wpAny_evalPart_some (wpAny_Constant_int ?_)))))
  have hp := PyProof.Rows.IntsAre.pick hi (some c0) none (some 2)
  refine ⟨PySem.Heap.IsList.typeIs (hl.push _), wpAny_getItem_list_slice (w := w) (hl.push _) (Heap.IsSliceOf.new ..) (.int c0 _) .none (.int 2 _) (by decide) ?_ ?_⟩
  · dsimp only
    refine h _ (slicePick ws.toArray (some c0) none (some 2)).toList _ _ _ ?_ hp fun b o e => Heap.get?_push_of_some _ (Heap.get?_push_of_some _ e)
    rw [show (slicePick ws.toArray (some c0) none (some 2)).toList.toArray = slicePick ws.toArray (some c0) none (some 2) by simp]
    exact ⟨_, Heap.get?_push_size _ rfl, rfl, _, rfl⟩
  · rw [List.size_toArray, hi.length]
    have : sizeLine ≥ 5000 := by decide
    omega

theorem ev_idx {p1 p2 p3 p4 p5 p6 p7 p8 p9 p10 p11 : Pos} {k1 k2 k3 k4 : Nat} {c0 m : Int} {l : Nat} {ws : List Value} {ms : List Int} (C : LCtx w.params g L mg) (I : LS g L os ml cm tb s) (hml : ml (Str.ofString "script") = some (.ref l)) (hl : s.heap.IsList l ws.toArray) (hi : IntsAre ws ms) (hms : ms.length ≤ 63) (hm : 0 < m) {Q : Value → Shared → Prop}
    (h : ∀ j t h' tk, 0 ≤ j → j < m → (∀ b o, s.heap.get? b = some o → h'.get? b = some o) → Q (.int j t) { s with heap := h', toks := tk }) :
    wpAny (model PySem.Challenge.pw_ij0068_01 w) (lA L fa) (eval (.BinOp (.BinOp (.Constant (.int 2) k1 p1) .Add (.Call (.Name (Str.ofString "sum") p2) [.Subscript (.Name (Str.ofString "script") p3) (.Slice (some (.Constant (.int c0) k2 p4)) none (some (.Constant (.int 2) k3 p5)) p6) p7] [] p8) p9) .Mod (.Constant (.int m) k4 p10) p11) (lenv L fa)) Q E s := by
  refine wpAny_BinOp (wpAny_BinOp (wpAny_Constant_int ?_))
  have I₁ := I.toks (s.toks + 1)
  refine wpAny_Call_NameR ((I₁.bu C (by rfl) (by rfl) (by decide) (by rfl) (by decide)).go (fun _ _ e => e) ?_)
  refine callWith_builtin1 (wpAny_items_cons ?_)
  refine ev_slice I₁ hml hl hi hms fun l' us ns h' tk hl' hi' hk => wpAny_items_nil ?_
  refine sum_call (by rfl) hl' hi' fun h'' tk'' t'' hk'' => ?_
  refine PyProof.Rows.add_int (wpAny_Constant_int (PyProof.Rows.mod_int (by omega) ?_))
  exact h _ _ h'' _ (Int.fmod_nonneg_of_pos _ hm) (Int.fmod_lt_of_pos _ hm) fun b o e => hk'' b o (hk b o e)

theorem getD_mem' {l : List Int} {j : Nat} (h : j < l.length) : l.getD j 0 ∈ l := by
  rw [List.getD_eq_getElem?_getD, List.getElem?_eq_getElem h]; exact List.getElem_mem h

theorem st2 (C : LCtx w.params g L mg) (I : LS g L os ml cm tb s) {l l2 : Nat} {ws ws2 : List Value} {ms : List Int} (hml : ml (Str.ofString "script") = some (.ref l)) (hl : s.heap.IsList l ws.toArray) (hi : IntsAre ws ms) (hms : ms.length ≤ 63)
    (hml2 : ml (Str.ofString "primes") = some (.ref l2)) (hl2 : s.heap.IsList l2 ws2.toArray) (hi2 : IntsAre ws2 P8)
    (h : ∀ (s' : Shared) cm' p t, LS g L os ml cm' tb s' → p ∈ P8 → cm' (Str.ofString "p") = some (.int p t) → (∀ b o, b ≠ (L + 1 + 1 + 1 : Nat) → s.heap.get? b = some o → s'.heap.get? b = some o) → LGoal w g os L fa (lawBody.drop 3) s') :
    LGoal w g os L fa (lawBody.drop 2) s := by
  refine lgoal_cons 2 (by decide) ?_
  refine wpAny_Assign_Name (Subscript_ ((I.loc hml2 (by rfl) (by decide)).go (fun _ _ e => e) ?_))
  refine ev_idx C I hml hl hi hms (by decide) fun j t h' tk h0 h1 hk => ?_
  have hl2' : h'.IsList l2 ws2.toArray := let ⟨o, e, r⟩ := hl2; ⟨o, hk _ _ e, r⟩
  refine item_list_ints hl2' hi2 h0 (by show j < 8; exact h1) (by omega) fun t' => ?_
  have hp : P8.getD j.toNat 0 ∈ P8 := getD_mem' (by show j.toNat < 8; omega)
  refine (I.keeps tk hk).stC (c := (L + 1 + 1 + 1 : Nat)) (by rfl) (by rfl) (fun H₂ I₂ k₂ => ?_) C.tabL
  exact h _ _ _ _ I₂ hp (if_pos rfl) fun b o hb e => k₂ b o hb (hk b o e)
end

section
variable {prog : Program} {w : World} {A : Around} {E : Value → Shared → Prop} {s : Shared}
theorem assign_ints {env : Env} {elt iter : Expr} {x y : Str} {px py : Pos} {ifs : List Expr} {scope : Scope} {cl : List (Str × Addr)} {pos spos : Pos} {Q : Flow → Shared → Prop} {pz : Int → Bool} {f : Int → Int} (hh : A.handled = none)
    (hsw : swapsWith (.ListComp elt [⟨.Name x px, iter, ifs, 0⟩] scope pos) (some (.Name y py)) spos.line env = pure true)
    (hclos : closureFor scope env = pure cl) (hcell : ∀ y ∈ scope.names, y.2 ≠ .cell) (hkind : scope.kind = .function)
    (hnames : ∀ y ∈ scope.names, y.2 = .local → scope.names.lookup y.1 = some .local) (hx : scope.names.lookup x = some .local)
    (hy : env.kindOf y = some .local) (hp : (env.scope.kind == .class || (env.scope.kind == .module && env.locals != env.globals)) = false)
    (h : wpAny (model prog w) A (eval iter env) (fun xv s₁ => ∃ ib xs m, xv = .ref ib ∧ Src prog w s₁.heap ib xs ∧ xs.length ≤ 4000 ∧ s₁.heap.Ns env.locals m ∧
      (∀ C a t (s₃ : Shared) m₃ E', a ∈ xs → s₃.heap.Ns C m₃ → m₃ x = some (.int a t) → (∀ b o, s₁.heap.get? b = some o → s₃.heap.get? b = some o) →
        wpAny (model prog w) A (forIn ifs true fun c r => if r = true then do let ok ← isTrue c (compEnvC scope cl C env) (eval c (compEnvC scope cl C env)); pure (ForInStep.yield ok) else pure (ForInStep.yield r)) (fun ok s₄ => ok = pz a ∧ Keeps s₃ s₄) E' s₃) ∧
      (∀ C a t (s₃ : Shared) m₃ E', a ∈ xs → pz a = true → s₃.heap.Ns C m₃ → m₃ x = some (.int a t) → (∀ b o, s₁.heap.get? b = some o → s₃.heap.get? b = some o) →
        wpAny (model prog w) A (eval elt (compEnvC scope cl C env)) (fun y s₄ => (∃ u, y = .int (f a) u) ∧ Keeps s₃ s₄) E' s₃) ∧
      (∀ (D : Addr) h' tk vs, s₁.heap.get? D = none → h'.IsList D vs.toArray → IntsAre vs ((xs.filter pz).map f) → h'.Ns env.locals (fun z => if z = y then some (.ref D) else m z) → (∀ b o, b ≠ env.locals → s₁.heap.get? b = some o → h'.get? b = some o) → Q .next { s₁ with heap := h', toks := tk })) E s)
    (hs : ∀ x, foldedSetIterable iter env x = pure x := by intro _; rfl) :
    wpAny (model prog w) A (exec (.Assign [.Name y py] (.ListComp elt [⟨.Name x px, iter, ifs, 0⟩] scope pos) spos) env) Q E s := by
  refine wpAny_Assign_ListComp_free (fun v => match v with | .int a _ => pz a | _ => false) (fun v y => ∃ a t u, v = Value.int a t ∧ y = Value.int (f a) u) hsw hclos hcell hkind hnames hx hy hp (wpAny_mono h (fun xv s₁ h₁ => ?_) fun _ _ z => z) hs
  obtain ⟨ib, xs, m, rfl, hsrc, hlen, hns, ht, he, hq⟩ := h₁
  refine hsrc.iter A s₁ _ _ hh (fun _ _ e => e) fun fp wr St h' W hfp hwr hk hz hst => ?_
  have W' := Walks.item_imp (P' := fun i v => i < xs.length ∧ ∃ t, v = .int (xs.getD i 0) t) (W A hh) fun i v hi hv => ⟨hi, hv⟩
  have lt₁ : ∀ {b : Addr} {o : Obj}, s₁.heap.get? b = some o → b ∉ wr := fun e hm => by
    have h1 := hwr _ hm
    have h2 := Heap.lt_size e
    rw [h1] at h2
    exact Nat.lt_irrefl _ h2
  have mem : ∀ i, i < xs.length → xs.getD i 0 ∈ xs := fun i hi => by simp [List.getD, hi]
  refine ⟨s₁.heap.objs.size, fp, wr, xs.length, _, St, m, rfl, W', ?_, hst, fun b hb => ?_, ?_, hns.keeps hk, ⟨fun C i v s₃ m₃ E' hC hv hn hm hk₃ htk => ?_, fun C i v s₃ m₃ E' hC hv hp hn hm hk₃ htk => ?_⟩, fun D h'' tk ys vs hD hl hpl hlen' hP hF hnn hk₂ => ?_⟩
  · have : sizeLine ≥ 5000 := by decide
    omega
  · show b < h'.objs.size
    rcases hfp b hb with h | h
    · rw [h, hz]; exact Nat.lt_succ_self _
    · obtain ⟨o, ho⟩ := Option.isSome_iff_exists.mp h
      have := Heap.lt_size ho
      rw [hz]; exact Nat.lt_succ_of_lt this
  · obtain ⟨o, _, _, e, _⟩ := hns
    exact lt₁ e
  · obtain ⟨hi, t, rfl⟩ := hv
    exact ht C _ t s₃ m₃ E' (mem i hi) hn hm fun b o e => hk₃ b o (lt₁ e) (hk b o e)
  · obtain ⟨hi, t, rfl⟩ := hv
    refine wpAny_mono (he C _ t s₃ m₃ E' (mem i hi) hp hn hm fun b o e => hk₃ b o (lt₁ e) (hk b o e)) (fun y s₄ h₄ => ?_) fun _ _ z => z
    obtain ⟨⟨u, rfl⟩, hk⟩ := h₄
    exact ⟨⟨_, _, _, rfl, rfl⟩, hk⟩
  · have hvs : IntsAre vs xs := items_ints_list vs xs hlen' fun j v e => (hP j v e).2
    have hD₁ : s₁.heap.get? D = none := by
      cases q : s₁.heap.get? D with
      | none => rfl
      | some o => have := hk D o q; rw [hD] at this; cases this
    exact hq D h'' tk ys.toList hD₁ (by simpa using hl) (paired_ints hvs hF) hnn fun b o hb e => hk₂ b o hb (lt₁ e) (hk b o e)
end

section
variable {w : World} {g : Heap} {L fa : Nat} {os : OsState} {ml cm : Str → Option Value} {tb : Array Value} {s : Shared} {mg : Str → Option Value} {E : Value → Shared → Prop}

theorem st3 (C : LCtx w.params g L mg) (I : LS g L os ml cm tb s) {l2 : Nat} {ws2 : List Value} {p : Int} {tp : Tok} (hml2 : ml (Str.ofString "primes") = some (.ref l2)) (hl2 : s.heap.IsList l2 ws2.toArray) (hi2 : IntsAre ws2 P8) (hcp : cm (Str.ofString "p") = some (.int p tp))
    (h : ∀ (s' : Shared) ml' l3 ws3, LS g L os ml' cm tb s' → (∀ y, y ≠ Str.ofString "others" → ml' y = ml y) → ml' (Str.ofString "others") = some (.ref l3) → s'.heap.IsList l3 ws3.toArray → IntsAre ws3 (P8.filter fun x => x != p) → (∀ b o, b ≠ L → s.heap.get? b = some o → s'.heap.get? b = some o) → LGoal w g os L fa (lawBody.drop 4) s') :
    LGoal w g os L fa (lawBody.drop 3) s := by
  refine lgoal_cons 3 (by decide) ?_
  have hcell : s.heap.IsCell (L + 1 + 1 + 1 : Nat) (some (.int p tp)) := I.cell (by rfl) hcp
  refine assign_ints (pz := fun a => a != p) (f := fun a => a) (cl := [(Str.ofString "p", (L + 1 + 1 + 1 : Nat))]) (by rfl) (by rfl) (by rfl) (by decide) rfl (by decide) (by rfl) (by rfl) (by rfl) ?_ (by intro _; rfl)
  refine (I.loc hml2 (by rfl) (by decide)).go (fun _ _ e => e) ?_
  refine ⟨l2, P8, ml, rfl, src_list hl2 hi2, by decide, I.fr.ns, fun Cc a t s₃ m₃ E' ha hn hm hk => ?_, fun Cc a t s₃ m₃ E' ha _ hn hm hk => ?_, fun D h' tk vs hD hl hi hnn hk => ?_⟩
  · simp only [List.forIn_cons, List.forIn_nil, if_true]
    refine wpAny_bind (wpAny_bind ?_)
    refine wpAny_isTrue_Compare1 ((rd_local rfl (by rfl) hn hm (by decide)).go (fun _ _ e => e) ?_)
    refine (rd_cell rfl (by rfl) (by rfl) (hcell.keeps hk) (by decide)).go (fun _ _ e => e) ?_
    refine PySem.P.ne_int (wpAny_truthy_bool ?_)
    exact wpAny_pure (wpAny_pure ⟨rfl, keeps_toks _ _⟩)
  · exact (rd_local rfl (by rfl) hn hm (by decide)).go (fun _ _ e => e) ⟨⟨_, rfl⟩, keeps_toks _ _⟩
  · have hLs := I.fr.ns.lt
    have cellsOff : ∀ n c, (lcs L).lookup n = some c → c ≠ L := fun n c e => Nat.ne_of_gt (I.cl.above n c (mem_of_lookup e))
    refine h _ (fun z => if z = Str.ofString "others" then some (.ref D) else ml z) D vs ⟨⟨hnn, fun b o e => hk b o (Nat.ne_of_lt (Nat.lt_of_lt_of_le (Heap.lt_size e) I.fr.above)) (I.fr.keep b o e), I.fr.above⟩, ⟨fun n c e => let ⟨o, ho, hd⟩ := I.cl.cell n c e; ⟨o, hk c o (cellsOff n c e) ho, hd⟩, I.cl.apart, I.cl.above⟩,
      hk _ _ (by have := C.tabL; show @Ne Nat 61 L; omega) I.tab, I.gens, I.os⟩ (fun y hy => if_neg hy) (if_pos rfl) hl (by rw [List.map_id'] at hi; exact hi) hk
end
end Mine

namespace Mine
open PySem PySem.W PySem.Calls PyProof.Rows
set_option maxRecDepth 100000

theorem others_len : ∀ p ∈ P8, (P8.filter fun x => x != p).length = 7 := by decide
theorem P8_small : ∀ p ∈ P8, 3 ≤ p ∧ p ≤ 23 := by decide

section
variable {w : World} {g : Heap} {L fa : Nat} {os : OsState} {ml cm : Str → Option Value} {tb : Array Value} {s : Shared} {mg : Str → Option Value} {E : Value → Shared → Prop}

theorem st4 (C : LCtx w.params g L mg) (I : LS g L os ml cm tb s) {l l3 : Nat} {ws ws3 : List Value} {ms : List Int} {p : Int} (hml : ml (Str.ofString "script") = some (.ref l)) (hl : s.heap.IsList l ws.toArray) (hi : IntsAre ws ms) (hms : ms.length ≤ 63)
    (hml3 : ml (Str.ofString "others") = some (.ref l3)) (hl3 : s.heap.IsList l3 ws3.toArray) (hi3 : IntsAre ws3 (P8.filter fun x => x != p)) (hp : p ∈ P8)
    (h : ∀ (s' : Shared) cm' q t, LS g L os ml cm' tb s' → q ∈ P8 → q ≠ p → cm' (Str.ofString "q") = some (.int q t) → (∀ y, y ≠ Str.ofString "q" → cm' y = cm y) → (∀ b o, b ≠ (L + 1 : Nat) → s.heap.get? b = some o → s'.heap.get? b = some o) → LGoal w g os L fa (lawBody.drop 5) s') :
    LGoal w g os L fa (lawBody.drop 4) s := by
  refine lgoal_cons 4 (by decide) ?_
  have h7 := others_len p hp
  refine wpAny_Assign_Name (Subscript_ ((I.loc hml3 (by rfl) (by decide)).go (fun _ _ e => e) ?_))
  refine ev_idx C I hml hl hi hms (by decide) fun j t h' tk h0 h1 hk => ?_
  have hl3' : h'.IsList l3 ws3.toArray := let ⟨o, e, r⟩ := hl3; ⟨o, hk _ _ e, r⟩
  refine item_list_ints hl3' hi3 h0 (by rw [h7]; exact h1) (by omega) fun t' => ?_
  have hq : (P8.filter fun x => x != p).getD j.toNat 0 ∈ P8.filter fun x => x != p := getD_mem' (by rw [h7]; omega)
  generalize (P8.filter fun x => x != p).getD j.toNat 0 = q at hq ⊢
  rw [List.mem_filter] at hq
  refine (I.keeps tk hk).stC (c := (L + 1 : Nat)) (by rfl) (by rfl) (fun H₂ I₂ k₂ => ?_) C.tabL
  exact h _ _ q _ I₂ hq.1 (by simpa using hq.2) (if_pos rfl) (fun y hy => if_neg hy) fun b o hb e => k₂ b o hb (hk b o e)

theorem st5 (C : LCtx w.params g L mg) (I : LS g L os ml cm tb s) {l : Nat} {ws : List Value} {ms : List Int} {p : Int} {tp : Tok} (hml : ml (Str.ofString "script") = some (.ref l)) (hl : s.heap.IsList l ws.toArray) (hi : IntsAre ws ms)
    (hcp : cm (Str.ofString "p") = some (.int p tp)) (hp : p ∈ P8)
    (h : ∀ (s' : Shared) cm' a t, LS g L os ml cm' tb s' → 1 ≤ a → a ≤ p - 1 → cm' (Str.ofString "a") = some (.int a t) → (∀ y, y ≠ Str.ofString "a" → cm' y = cm y) → LGoal w g os L fa (lawBody.drop 6) s') :
    LGoal w g os L fa (lawBody.drop 5) s := by
  refine lgoal_cons 5 (by decide) ?_
  have hs := P8_small p hp
  refine wpAny_Assign_Name (wpAny_BinOp (wpAny_Constant_int ?_))
  refine wpAny_BinOp (wpAny_BinOp (wpAny_Constant_int ?_))
  dsimp only
  have I₁ := I.toks (s.toks + 1 + 1)
  refine wpAny_Call_NameR ((I₁.bu C (by rfl) (by rfl) (by decide) (by rfl) (by decide)).go (fun _ _ e => e) ?_)
  refine callWith_builtin1 (wpAny_items_cons ((I₁.loc hml (by rfl) (by decide)).go (fun _ _ e => e) (wpAny_items_nil ?_)))
  refine sum_call (by rfl) hl hi fun h' tk t hk => ?_
  refine PyProof.Rows.add_int ?_
  dsimp only at hk ⊢
  refine wpAny_BinOp ?_
  have I₂ := I.keeps (tk + 1) hk
  refine (I₂.rdc (by rfl) hcp (by rfl) (by decide)).go (fun _ _ e => e) (wpAny_Constant_int (PySem.P.sub_int (PyProof.Rows.mod_int (by omega) (PyProof.Rows.add_int ?_))))
  dsimp only
  have h0 := Int.fmod_nonneg_of_pos (1 + ms.sum) (b := p - 1) (by omega)
  have h1 := Int.fmod_lt_of_pos (1 + ms.sum) (b := p - 1) (by omega)
  refine (I.keeps _ hk).stC (c := (L + 1 + 1 : Nat)) (by rfl) (by rfl) (fun H₂ I₂ k₂ => ?_) C.tabL
  exact h _ _ _ _ I₂ (by omega) (by omega) (if_pos rfl) (fun y hy => if_neg hy)

theorem walk0 (W6 : Walk6) : LawWalks := by
  intro w g L fa ls s vs ns mg ml C hls hi hlen F hml Cc htab hg
  have I : LS g L s.os ml (fun _ => none) #[] s := ⟨F, Cc, htab, hg, rfl⟩
  have G : LGoal w g s.os L fa (lawBody.drop 0) s := by
    refine st0 C I hml hls hi hlen fun s₁ ml₁ l₁ ws ms I₁ hml₁ hl₁ hlw hi₁ hms => ?_
    have c0 : ∀ {n : Str} {c : Nat}, (lcs L).lookup n = some c → c < s.heap.objs.size := fun e => (I.cl.cell _ _ e).lt
    have c1 : ∀ {n : Str} {c : Nat}, (lcs L).lookup n = some c → c < s₁.heap.objs.size := fun e => (I₁.cl.cell _ _ e).lt
    have hL0 : L < s.heap.objs.size := I.fr.ns.lt
    have hL1 : L < s₁.heap.objs.size := I₁.fr.ns.lt
    refine st1 C I₁ fun s₂ ml₂ l₂ ws₂ I₂ hm₂ hml₂ hl₂ hlp hip k₂ => ?_
    have hlw₂ : s₂.heap.IsList l₁ ws.toArray := let ⟨o, e, r⟩ := hlw; ⟨o, k₂ _ _ (by show @Ne Nat l₁ L; have : (s.heap.objs.size : Nat) ≤ l₁ := hl₁; omega) e, r⟩
    have hs₂ : ml₂ (Str.ofString "script") = some (.ref l₁) := (hm₂ _ (by decide)).trans hml₁
    refine st2 C I₂ hs₂ hlw₂ hi₁ hms hml₂ hlp hip fun s₃ cm₃ p tp I₃ hp hcp k₃ => ?_
    have x1 : (L + 1 + 1 + 1 : Nat) < s.heap.objs.size := c0 (n := Str.ofString "p") (by rfl)
    have x2 : (L + 1 + 1 + 1 : Nat) < s₁.heap.objs.size := c1 (n := Str.ofString "p") (by rfl)
    have hlw₃ : s₃.heap.IsList l₁ ws.toArray := let ⟨o, e, r⟩ := hlw₂; ⟨o, k₃ _ _ (by show @Ne Nat l₁ (L + 1 + 1 + 1); have : (s.heap.objs.size : Nat) ≤ l₁ := hl₁; omega) e, r⟩
    have hlp₃ : s₃.heap.IsList l₂ ws₂.toArray := let ⟨o, e, r⟩ := hlp; ⟨o, k₃ _ _ (by show @Ne Nat l₂ (L + 1 + 1 + 1); have : (s₁.heap.objs.size : Nat) ≤ l₂ := hl₂; omega) e, r⟩
    refine st3 C I₃ hml₂ hlp₃ hip hcp fun s₄ ml₄ l₃ ws₃ I₄ hm₄ hml₄ hlo hio k₄ => ?_
    have hlw₄ : s₄.heap.IsList l₁ ws.toArray := let ⟨o, e, r⟩ := hlw₃; ⟨o, k₄ _ _ (by show @Ne Nat l₁ L; have : (s.heap.objs.size : Nat) ≤ l₁ := hl₁; omega) e, r⟩
    have hs₄ : ml₄ (Str.ofString "script") = some (.ref l₁) := (hm₄ _ (by decide)).trans hs₂
    refine st4 C I₄ hs₄ hlw₄ hi₁ hms hml₄ hlo hio hp fun s₅ cm₅ q tq I₅ hq hqp hcq hc₅ k₅ => ?_
    have hlw₅ : s₅.heap.IsList l₁ ws.toArray := let ⟨o, e, r⟩ := hlw₄; ⟨o, k₅ _ _ (by show @Ne Nat l₁ (L + 1); have : (s.heap.objs.size : Nat) ≤ l₁ := hl₁; omega) e, r⟩
    have hcp₅ : cm₅ (Str.ofString "p") = some (.int p tp) := (hc₅ _ (by decide)).trans hcp
    refine st5 C I₅ hs₄ hlw₅ hi₁ hcp₅ hp fun s₆ cm₆ a ta I₆ ha1 ha2 hca hc₆ => ?_
    exact W6 w g L fa s.os s₆ mg ml₄ cm₆ p q a C I₆ ⟨⟨tp, (hc₆ _ (by decide)).trans hcp₅⟩, ⟨tq, (hc₆ _ (by decide)).trans hcq⟩, ⟨ta, hca⟩, hp, hq, hqp, ha1, ha2⟩
  exact G.out
end
end Mine

namespace Mine
open PySem PySem.W PySem.Calls PyProof.Rows
set_option maxRecDepth 100000

/-- an expression is a number, and draws nothing but marks -/
def IntE (w : World) (L fa : Nat) (e : Expr) (n : Int) (s : Shared) : Prop := ∀ (Q E : Value → Shared → Prop), (∀ t tk, Q (.int n t) { s with toks := tk }) → wpAny (model PySem.Challenge.pw_ij0068_01 w) (lA L fa) (eval e (lenv L fa)) Q E s
/-- an expression is a row of numbers -/
def SrcE (w : World) (L fa : Nat) (e : Expr) (xs : List Int) (s : Shared) : Prop := ∀ (Q E : Value → Shared → Prop), (∀ r h' tk, Src PySem.Challenge.pw_ij0068_01 w h' r xs → (∀ b o, s.heap.get? b = some o → h'.get? b = some o) → Q (.ref r) { s with heap := h', toks := tk }) →
  wpAny (model PySem.Challenge.pw_ij0068_01 w) (lA L fa) (eval e (lenv L fa)) Q E s
/-- an expression is a new list of numbers -/
def LstE (w : World) (L fa : Nat) (e : Expr) (xs : List Int) (s : Shared) : Prop := ∀ (Q E : Value → Shared → Prop), (∀ (D : Nat) h' tk (vs : List Value), h'.IsList D vs.toArray → IntsAre vs xs → D ≠ L → (∀ b o, s.heap.get? b = some o → h'.get? b = some o) → Q (.ref D) { s with heap := h', toks := tk }) →
  wpAny (model PySem.Challenge.pw_ij0068_01 w) (lA L fa) (eval e (lenv L fa)) Q E s
/-- an expression is a list of numbers told by unique_everseen -/
def TldE (w : World) (L fa : Nat) (g : Heap) (os : OsState) (ml cm : Str → Option Value) (tb : Array Value) (e : Expr) (xs : List Int) (s : Shared) : Prop := ∀ (Q E : Value → Shared → Prop), (∀ s' (D : Nat) (vs : List Value), s'.heap.IsList D vs.toArray → IntsAre vs xs → D ≠ L → LS g L os ml cm tb s' →
    (∀ b o, b ≠ L → b ≠ 61 → s.heap.get? b = some o → s'.heap.get? b = some o) → Q (.ref D) s') →
  wpAny (model PySem.Challenge.pw_ij0068_01 w) (lA L fa) (eval e (lenv L fa)) Q E s

section
variable {w : World} {g : Heap} {L fa : Nat} {os : OsState} {ml cm : Str → Option Value} {tb : Array Value} {s : Shared} {mg : Str → Option Value} {E : Value → Shared → Prop}

theorem src_list' {prog : Program} {B : Heap} {l : Nat} {vs : List Value} {xs : List Int} (hl : B.IsList l vs.toArray) (hi : IntsAre vs xs) : Src prog w B l xs := src_list hl hi

theorem SrcE.range1 (C : LCtx w.params g L mg) (I : LS g L os ml cm tb s) {e : Expr} {n : Int} {p1 p2 : Pos} (he : IntE w L fa e n s) (h0 : -(2 ^ 62) ≤ n) (h1 : n < 2 ^ 62) (hst : starEach [e] (lenv L fa) = (false, eval e (lenv L fa)) :: starEach [] (lenv L fa) := by rfl) : SrcE w L fa (.Call (.Name (Str.ofString "range") p1) [e] [] p2) (intsR 0 n) s := by
  intro Q E h
  refine wpAny_Call_NameR ((I.bu C (by rfl) (by rfl) (by decide) (by rfl) (by decide)).go (fun _ _ e => e) ?_)
  refine PyProof.Rows.callWith_type1 (wpAny_items_cons (he _ _ fun t tk => wpAny_items_nil ?_) hst) hst
  refine call_range_1 ?_
  dsimp only
  exact h _ _ _ (src_range (IsRange.new ..) (small_one (by decide) (by decide) h0 h1)) fun b o e => Heap.get?_push_of_some _ e

theorem SrcE.range2 (C : LCtx w.params g L mg) (I : LS g L os ml cm tb s) {a n : Int} {tn : Tok} {k1 : Nat} {y : Str} {p1 p2 p3 p4 : Pos} (hr : Rd (lenv L fa) s.heap y (.int n tn)) (ha0 : -(2 ^ 62) ≤ a) (ha1 : a < 2 ^ 62) (h0 : -(2 ^ 62) ≤ n) (h1 : n < 2 ^ 62) :
    SrcE w L fa (.Call (.Name (Str.ofString "range") p1) [.Constant (.int a) k1 p3, .Name y p4] [] p2) (intsR a n) s := by
  intro Q E h
  refine wpAny_Call_NameR ((I.bu C (by rfl) (by rfl) (by decide) (by rfl) (by decide)).go (fun _ _ e => e) ?_)
  refine PyProof.Rows.callWith_type1 (wpAny_items_cons (wpAny_Constant_int (wpAny_items_cons (hr.go (fun _ _ e => e) (wpAny_items_nil ?_)))))
  refine call_range_2 ?_
  dsimp only
  exact h _ _ _ (src_range (IsRange.new ..) (small_one ha0 ha1 h0 h1)) fun b o e => Heap.get?_push_of_some _ e

theorem IntE.rd {y : Str} {n : Int} {tn : Tok} {p : Pos} (hr : Rd (lenv L fa) s.heap y (.int n tn)) : IntE w L fa (.Name y p) n s := fun Q E h => hr.go (fun _ _ e => e) (h tn s.toks)

theorem IntE.half {y : Str} {n : Int} {tn : Tok} {k1 k2 : Nat} {p1 p2 p3 p4 p5 : Pos} (hr : Rd (lenv L fa) s.heap y (.int n tn)) (h0 : 0 ≤ n) (h1 : n < 1000) :
    IntE w L fa (.BinOp (.BinOp (.Name y p1) .Add (.Constant (.int 1) k1 p2) p3) .FloorDiv (.Constant (.int 2) k2 p4) p5) ((n + 1).fdiv 2) s := fun Q E h => by
  refine wpAny_BinOp (wpAny_BinOp (hr.go (fun _ _ e => e) (wpAny_Constant_int (PyProof.Rows.add_int (wpAny_Constant_int ?_)))))
  dsimp only
  exact PyProof.Rows.floordiv_int (by decide) (h _ _) (Or.inl (PyProof.noPylong_small (by omega)))

theorem LS.told (I : LS g L os ml cm tb s) (h61 : 61 < L) {s' : Shared} {l : Addr} {xs : List Int} (T : Told L s s' l xs) : LS g L os ml cm tb s' :=
  ⟨⟨T.loc _ I.fr.ns, fun b o e => T.old b o (Nat.ne_of_lt (Nat.lt_of_lt_of_le (Heap.lt_size e) I.fr.above)) (I.fr.keep b o e), I.fr.above⟩,
    ⟨fun n c e => let ⟨o, ho, hd⟩ := I.cl.cell n c e; ⟨o, T.old c o (Nat.ne_of_gt (I.cl.above n c (mem_of_lookup e))) ho, hd⟩, I.cl.apart, I.cl.above⟩,
    T.old _ _ (by show @Ne Nat 61 L; omega) I.tab, T.gens I.gens, T.os.trans I.os⟩
theorem Told.isList {L : Nat} {s s' : Shared} {l : Addr} {xs : List Int} (T : Told L s s' l xs) : ∃ vs : List Value, s'.heap.IsList l vs.toArray ∧ IntsAre vs xs := by
  obtain ⟨acc, c, e, hi⟩ := T.list
  exact ⟨acc.toList, ⟨_, e, rfl, c, by simp⟩, hi⟩

theorem LS.hideK (I : LS g L os ml cm tb s) {b : Addr} {o : Obj} (e : g.get? b = some o) : (s.heap.hide L).get? b = some o :=
  (Heap.hide_ne _ (Nat.ne_of_lt (Nat.lt_of_lt_of_le (Heap.lt_size e) I.fr.above))).trans (I.fr.keep b o e)

/-- list(unique_everseen(e)) for a list e -/
theorem TldE.none (C : LCtx w.params g L mg) (I : LS g L os ml cm tb s) {e : Expr} {xs : List Int} {p1 p2 p3 p4 : Pos} (he : LstE w L fa e xs s) (hxs : xs.length < 4000)
    (hst : starEach [e] (lenv L fa) = (false, eval e (lenv L fa)) :: starEach [] (lenv L fa) := by rfl) :
    TldE w L fa g os ml cm tb (.Call (.Name (Str.ofString "list") p1) [.Call (.Name (Str.ofString "unique_everseen") p2) [e] [] p3] [] p4) (ded (fun x => x) [] xs) s := by
  intro Q E h
  obtain ⟨p, loose, mb, T⟩ := C.top
  refine wpAny_Call_NameR ((I.bu C (by rfl) (by rfl) (by decide) (by rfl) (by decide)).go (fun _ _ e => e) ?_)
  refine PyProof.Rows.callWith_type1 (wpAny_items_cons ?_)
  refine wpAny_Call_NameR ((I.ue C).go (fun _ _ e => e) ?_)
  obtain ⟨oc, od, sl, doc, pm, ct, ho⟩ := (ueFn_at w.params).fn
  have fn : ∀ {h : Heap}, (∀ b o, g.get? b = some o → h.get? b = some o) → FnAt 59 h := fun k => ⟨oc, od, _, sl, k _ _ (C.K _ _ ho)⟩
  refine callWith_F (fn I.fr.keep) ?_ hst
  refine wpAny_items_cons (he _ _ fun D h' tk vs hl hi hDL hk => wpAny_items_nil ⟨fn fun b o e => hk b o (I.fr.keep b o e), ?_⟩) hst
  have I₁ := I.keeps tk hk
  refine wpAny_mono (told_none (K := hd.heap_39 w.params) (L := L) (lenv := lenv L fa) (Q := Q) (E := E) (s := { s with heap := h', toks := tk }) (by rfl) (by show callerA.depth + 1 ≤ 440; decide) (ueFn_at _) (ffK_at _) (by rfl) (by rfl) (by show ScopeKind.function ≠ _; decide) (C.K.keeps fun b o e => I₁.hideK e) (T.keeps fun b o e => I₁.hideK e)
    (T.nolimit.keeps I₁.fr.keep) I₁.fr.ns.lt (by have := C.tabL; omega) (by have h1 := C.tabL; have h2 : L < h'.objs.size := I₁.fr.ns.lt; show 2 < h'.objs.size; omega) I₁.fr.ns (l := D) (vs := vs) (xs := xs) ?_ hi hxs fun s' l' T' => ?_) (fun v s₁ hv => wpAny_items_nil hv) fun _ _ z => z
  · obtain ⟨o, e, r⟩ := hl
    exact ⟨o, (Heap.hide_ne _ hDL).trans e, r⟩
  · obtain ⟨us, hl', hi'⟩ := T'.isList
    have h1 : h'.objs.size ≤ l' := T'.new
    have h2 : L < h'.objs.size := I₁.fr.ns.lt
    exact h s' l' us hl' hi' (by show @Ne Nat l' L; omega) (I₁.told C.tabL T') (fun b o h1 h2 e => T'.old b o h1 (hk b o e))
end
end Mine

namespace Mine
open PySem PySem.W PySem.Calls PyProof.Rows
set_option maxRecDepth 100000

def sqs (r n : Int) : List Int := (intsR 0 n).map fun x => (x * x).fmod r
theorem mem_intsR {lo hi x : Int} (h : x ∈ intsR lo hi) : lo ≤ x ∧ x < hi := by
  unfold intsR at h
  obtain ⟨i, hi', rfl⟩ := List.mem_map.mp h
  have := List.mem_range.mp hi'
  omega

section
variable {w : World} {g : Heap} {L fa : Nat} {os : OsState} {ml cm : Str → Option Value} {tb : Array Value} {s : Shared} {mg : Str → Option Value} {E : Value → Shared → Prop}

theorem list_off {ml : Str → Option Value} {h : Heap} {D : Nat} {vs : Array Value} (n : h.Ns L ml) (l : h.IsList D vs) : D ≠ L := fun e => by
  obtain ⟨o, es, ep, ho, hd, _⟩ := n
  obtain ⟨o', ho', _, k, hd'⟩ := l
  rw [e, ho] at ho'; cases ho'
  rw [hd] at hd'; cases hd'

theorem LstE.sq (I : LS g L os ml cm tb s) {iter : Expr} {x r : Str} {px p1 p2 p3 p4 p5 pos : Pos} {scope : Scope} {cl : List (Str × Addr)} {pv : Int} {t3 : Tok} {c : Addr} {xs : List Int}
    (hclos : closureFor scope (lenv L fa) = pure cl) (hcell : ∀ y ∈ scope.names, y.2 ≠ .cell) (hkind : scope.kind = .function)
    (hnames : ∀ y ∈ scope.names, y.2 = .local → scope.names.lookup y.1 = some .local) (hx : scope.names.lookup x = some .local)
    (hlx : ∀ C, (compEnvC scope cl C (lenv L fa)).kindOf x = some .local) (hdx : (x == ("__debug__" : Str)) = false)
    (hr : ∀ C (h : Heap), h.IsCell c (some (.int pv t3)) → Rd (compEnvC scope cl C (lenv L fa)) h r (.int pv t3)) (hc : s.heap.IsCell c (some (.int pv t3))) (hp : pv ≠ 0)
    (hsrc : SrcE w L fa iter xs s) (hlen : xs.length ≤ 4000) (hsm : ∀ a ∈ xs, a.natAbs < 2 ^ 63) (hs : ∀ x, foldedSetIterable iter (lenv L fa) x = pure x) :
    LstE w L fa (.ListComp (.BinOp (.BinOp (.Name x p1) .Mult (.Name x p2) p3) .Mod (.Name r p4) p5) [⟨.Name x px, iter, [], 0⟩] scope pos) (xs.map fun a => (a * a).fmod pv) s := by
  intro Q E h
  refine comp_mul (c := c) (t3 := t3) (by rfl) hclos hcell hkind hnames hx hlx hdx hr hp (hsrc _ _ fun rr h' tk hsr hk => ?_) hs
  refine ⟨rr, xs, rfl, hsr, hlen, hsm, hc.keeps hk, fun D h'' tk'' vs hD hl hi hk' => ?_⟩
  exact h D h'' tk'' vs hl hi (list_off (ml := ml) ((I.fr.ns.keeps hk).keeps hk') hl) fun b o e => hk' b o (hk b o e)

theorem st7 (C : LCtx w.params g L mg) (I : LS g L os ml cm tb s) {p q a : Int} (N : Nums cm p q a)
    (h : ∀ (s' : Shared) ml' (l : Nat) (vs : List Value), LS g L os ml' cm tb s' → ml' (Str.ofString "squares") = some (.ref l) → s'.heap.IsList l vs.toArray → IntsAre vs (ded (fun x => x) [] (sqs p p)) → LGoal w g os L fa (lawBody.drop 8) s') :
    LGoal w g os L fa (lawBody.drop 7) s := by
  refine lgoal_cons 7 (by decide) ?_
  obtain ⟨tp, hcp⟩ := N.cp
  have hs := P8_small p N.hp
  have hcell : s.heap.IsCell (L + 1 + 1 + 1 : Nat) (some (.int p tp)) := I.cell (by rfl) hcp
  have hlen : (intsR 0 p).length ≤ 4000 := by rw [intsR_length]; omega
  have rp : Rd (lenv L fa) s.heap (Str.ofString "p") (.int p tp) := I.rdc (by rfl) hcp (by rfl) (by decide)
  refine wpAny_Assign_Name ?_
  refine TldE.none C I (xs := sqs p p) ?_ (by unfold sqs; rw [List.length_map, intsR_length]; omega) (by rfl) _ _ fun s' D vs hl hi hDL I' hk => ?_
  · refine LstE.sq I (cl := [(Str.ofString "p", (L + 1 + 1 + 1 : Nat))]) (c := (L + 1 + 1 + 1 : Nat)) (t3 := tp) (by rfl) (by decide) rfl (by decide) (by rfl) (fun _ => by rfl) (by decide) (fun Cc hh hc => rd_cell rfl (by rfl) (by rfl) hc (by decide)) hcell (by omega) ?_ hlen (fun x hx => ?_) (by intro _; rfl)
    · exact SrcE.range1 C I (IntE.rd rp) (by omega) (by omega) (by rfl)
    · have := mem_intsR hx
      omega
  · refine I'.stL (by rfl) (fun H₂ I₂ k₂ => ?_) C.tabL
    exact h _ _ D vs I₂ (if_pos rfl) (let ⟨o, e, r⟩ := hl; ⟨o, k₂ _ _ hDL e, r⟩) hi

theorem lA_units : (lA L fa).units + 64 < cLine := by show callerA.units + 3 + 64 < cLine; decide

theorem if_ne {y : Str} {p1 p2 p3 : Pos} {e2 : Expr} {body : List Stmt} {D1 : Nat} {vs1 : List Value} {xs : List Int} {Q : Flow → Shared → Prop} {E : Value → Shared → Prop} (ry : Rd (lenv L fa) s.heap y (.ref D1)) (hl1 : s.heap.IsList D1 vs1.toArray) (hi1 : IntsAre vs1 xs) (he2 : LstE w L fa e2 xs s)
    (h : ∀ h' tk, (∀ b o, s.heap.get? b = some o → h'.get? b = some o) → Q .next { s with heap := h', toks := tk }) (hm : behindInMarks .NotEq e2 = false) :
    wpAny (model PySem.Challenge.pw_ij0068_01 w) (lA L fa) (exec (.If (.Compare (.Name y p1) [.NotEq] [e2] p2) body [] p3) (lenv L fa)) Q E s := by
  refine wpAny_If (wpAny_isTrue_Compare1 (ry.go (fun _ _ e => e) (he2 _ _ fun D h' tk vs hl hi hDL hk => ?_)) hm)
  have hl1' : h'.IsList D1 vs1.toArray := let ⟨o, e, r⟩ := hl1; ⟨o, hk _ _ e, r⟩
  refine ne_intsK hl1' hi1 hl hi lA_units (wpAny_truthy_bool ?_)
  rw [if_neg (by simp)]
  exact wpAny_execs_nil (h h' tk hk)

theorem st8 (C : LCtx w.params g L mg) (I : LS g L os ml cm tb s) {p q a : Int} (N : Nums cm p q a) {l : Nat} {vs : List Value} (hml : ml (Str.ofString "squares") = some (.ref l)) (hl : s.heap.IsList l vs.toArray) (hi : IntsAre vs (sqs p ((p + 1).fdiv 2)))
    (h : ∀ (s' : Shared), LS g L os ml cm tb s' → (∀ b o, s.heap.get? b = some o → s'.heap.get? b = some o) → LGoal w g os L fa (lawBody.drop 9) s') :
    LGoal w g os L fa (lawBody.drop 8) s := by
  refine lgoal_cons 8 (by decide) ?_
  obtain ⟨tp, hcp⟩ := N.cp
  have hs := P8_small p N.hp
  have hcell : s.heap.IsCell (L + 1 + 1 + 1 : Nat) (some (.int p tp)) := I.cell (by rfl) hcp
  have rp : Rd (lenv L fa) s.heap (Str.ofString "p") (.int p tp) := I.rdc (by rfl) hcp (by rfl) (by decide)
  have hd2 : (p + 1).fdiv 2 ≤ 12 ∧ 0 ≤ (p + 1).fdiv 2 := by rw [Int.fdiv_eq_ediv_of_nonneg _ (by decide)]; omega
  refine if_ne (I.loc hml (by rfl) (by decide)) hl hi ?_ (fun h' tk hk => h _ (I.keeps tk hk) hk) (by with_unfolding_all rfl)
  refine LstE.sq I (xs := intsR 0 ((p + 1).fdiv 2)) (cl := [(Str.ofString "p", (L + 1 + 1 + 1 : Nat))]) (c := (L + 1 + 1 + 1 : Nat)) (t3 := tp) (by rfl) (by decide) rfl (by decide) (by rfl) (fun _ => by rfl) (by decide) (fun Cc hh hc => rd_cell rfl (by rfl) (by rfl) hc (by decide)) hcell (by omega) ?_ (by rw [intsR_length]; omega) (fun x hx => ?_) (by intro _; rfl)
  · exact SrcE.range1 C I (IntE.half rp (by omega) (by omega)) (by omega) (by omega) (by rfl)
  · have := mem_intsR hx
    omega

theorem st9 (C : LCtx w.params g L mg) (I : LS g L os ml cm tb s) {p q a : Int} (N : Nums cm p q a)
    (h : ∀ (s' : Shared) ml' (l : Nat) (vs : List Value), LS g L os ml' cm tb s' → (∀ y, y ≠ Str.ofString "others" → ml' y = ml y) → ml' (Str.ofString "others") = some (.ref l) → s'.heap.IsList l vs.toArray → IntsAre vs (ded (fun x => x) [] (sqs q q)) → (∀ b o, b ≠ L → b ≠ 61 → s.heap.get? b = some o → s'.heap.get? b = some o) → LGoal w g os L fa (lawBody.drop 10) s') :
    LGoal w g os L fa (lawBody.drop 9) s := by
  refine lgoal_cons 9 (by decide) ?_
  obtain ⟨tp, hcp⟩ := N.cq
  have hs := P8_small q N.hq
  have hcell : s.heap.IsCell (L + 1 : Nat) (some (.int q tp)) := I.cell (by rfl) hcp
  have hlen : (intsR 0 q).length ≤ 4000 := by rw [intsR_length]; omega
  have rp : Rd (lenv L fa) s.heap (Str.ofString "q") (.int q tp) := I.rdc (by rfl) hcp (by rfl) (by decide)
  refine wpAny_Assign_Name ?_
  refine TldE.none C I (xs := sqs q q) ?_ (by unfold sqs; rw [List.length_map, intsR_length]; omega) (by rfl) _ _ fun s' D vs hl hi hDL I' hk => ?_
  · refine LstE.sq I (cl := [(Str.ofString "q", (L + 1 : Nat))]) (c := (L + 1 : Nat)) (t3 := tp) (by rfl) (by decide) rfl (by decide) (by rfl) (fun _ => by rfl) (by decide) (fun Cc hh hc => rd_cell rfl (by rfl) (by rfl) hc (by decide)) hcell (by omega) ?_ hlen (fun x hx => ?_) (by intro _; rfl)
    · exact SrcE.range1 C I (IntE.rd rp) (by omega) (by omega) (by rfl)
    · have := mem_intsR hx
      omega
  · refine I'.stL (by rfl) (fun H₂ I₂ k₂ => ?_) C.tabL
    exact h _ _ D vs I₂ (fun y hy => if_neg hy) (if_pos rfl) (let ⟨o, e, r⟩ := hl; ⟨o, k₂ _ _ hDL e, r⟩) hi fun b o h1 h2 e => k₂ b o h1 (hk b o h1 h2 e)

theorem st10 (C : LCtx w.params g L mg) (I : LS g L os ml cm tb s) {p q a : Int} (N : Nums cm p q a) {l : Nat} {vs : List Value} (hml : ml (Str.ofString "others") = some (.ref l)) (hl : s.heap.IsList l vs.toArray) (hi : IntsAre vs (sqs q ((q + 1).fdiv 2)))
    (h : ∀ (s' : Shared), LS g L os ml cm tb s' → (∀ b o, s.heap.get? b = some o → s'.heap.get? b = some o) → LGoal w g os L fa (lawBody.drop 11) s') :
    LGoal w g os L fa (lawBody.drop 10) s := by
  refine lgoal_cons 10 (by decide) ?_
  obtain ⟨tp, hcp⟩ := N.cq
  have hs := P8_small q N.hq
  have hcell : s.heap.IsCell (L + 1 : Nat) (some (.int q tp)) := I.cell (by rfl) hcp
  have rp : Rd (lenv L fa) s.heap (Str.ofString "q") (.int q tp) := I.rdc (by rfl) hcp (by rfl) (by decide)
  have hd2 : (q + 1).fdiv 2 ≤ 12 ∧ 0 ≤ (q + 1).fdiv 2 := by rw [Int.fdiv_eq_ediv_of_nonneg _ (by decide)]; omega
  refine if_ne (I.loc hml (by rfl) (by decide)) hl hi ?_ (fun h' tk hk => h _ (I.keeps tk hk) hk) (by with_unfolding_all rfl)
  refine LstE.sq I (xs := intsR 0 ((q + 1).fdiv 2)) (cl := [(Str.ofString "q", (L + 1 : Nat))]) (c := (L + 1 : Nat)) (t3 := tp) (by rfl) (by decide) rfl (by decide) (by rfl) (fun _ => by rfl) (by decide) (fun Cc hh hc => rd_cell rfl (by rfl) (by rfl) hc (by decide)) hcell (by omega) ?_ (by rw [intsR_length]; omega) (fun x hx => ?_) (by intro _; rfl)
  · exact SrcE.range1 C I (IntE.half rp (by omega) (by omega)) (by omega) (by omega) (by rfl)
  · have := mem_intsR hx
    omega
end
end Mine

namespace Mine
open PySem PySem.W PySem.Calls PyProof.Rows
set_option maxRecDepth 100000

section
variable {w : World} {g : Heap} {L fa : Nat} {os : OsState} {ml cm : Str → Option Value} {tb : Array Value} {s : Shared} {mg : Str → Option Value} {E : Value → Shared → Prop}

/-- an expression is a truth value, and draws nothing but marks -/
def BoolE (w : World) (L fa : Nat) (e : Expr) (b : Bool) (s : Shared) : Prop := ∀ (Q E : Value → Shared → Prop), (∀ tk, Q (.bool b) { s with toks := tk }) → wpAny (model PySem.Challenge.pw_ij0068_01 w) (lA L fa) (eval e (lenv L fa)) Q E s

theorem BoolE.modIn {x y z : Str} {a b : Int} {t1 t2 : Tok} {p1 p2 p3 p4 p5 : Pos} {D : Nat} {vs : List Value} {xs : List Int} (rx : Rd (lenv L fa) s.heap x (.int a t1)) (ry : Rd (lenv L fa) s.heap y (.int b t2)) (rz : Rd (lenv L fa) s.heap z (.ref D)) (hl : s.heap.IsList D vs.toArray) (hi : IntsAre vs xs) (hb : b ≠ 0) (tk : Nat) :
    BoolE w L fa (.Compare (.BinOp (.Name x p1) .Mod (.Name y p2) p3) [.In] [.Name z p4] p5) (xs.any (· == a.fmod b)) { s with toks := tk } := fun Q E h => by
  refine wpAny_Compare1 (wpAny_BinOp (rx.go (fun _ _ e => e) (ry.go (fun _ _ e => e) (PyProof.Rows.mod_int hb ?_))))
  refine rz.go (fun _ _ e => e) (in_list_ints hl hi (h _))

theorem BoolE.modOne {x : Str} {a m : Int} {t1 : Tok} {k1 k2 : Nat} {p1 p2 p3 p4 p5 : Pos} (rx : Rd (lenv L fa) s.heap x (.int a t1)) (hm : m ≠ 0) (tk : Nat) :
    BoolE w L fa (.Compare (.BinOp (.Name x p1) .Mod (.Constant (.int m) k1 p2) p3) [.Eq] [.Constant (.int 1) k2 p4] p5) (a.fmod m == 1) { s with toks := tk } := fun Q E h => by
  refine wpAny_Compare1 (wpAny_BinOp (rx.go (fun _ _ e => e) (wpAny_Constant_int (PyProof.Rows.mod_int hm (wpAny_Constant_int ?_)))))
  refine PySem.P.eq_int (h _)

theorem st11 (C : LCtx w.params g L mg) (I : LS g L os ml cm tb s) {p q a : Int} (N : Nums cm p q a) {l l2 : Nat} {vs vs2 : List Value} {xs xs2 : List Int} (hml : ml (Str.ofString "squares") = some (.ref l)) (hl : s.heap.IsList l vs.toArray) (hi : IntsAre vs xs)
    (hml2 : ml (Str.ofString "others") = some (.ref l2)) (hl2 : s.heap.IsList l2 vs2.toArray) (hi2 : IntsAre vs2 xs2) (hlaw : (xs.any (· == q.fmod p) == xs2.any (· == p.fmod q)) = (p.fmod 4 == 1 || q.fmod 4 == 1))
    (h : ∀ (s' : Shared), LS g L os ml cm tb s' → (∀ b o, s.heap.get? b = some o → s'.heap.get? b = some o) → LGoal w g os L fa (lawBody.drop 12) s') :
    LGoal w g os L fa (lawBody.drop 11) s := by
  refine lgoal_cons 11 (by decide) ?_
  obtain ⟨tp, hcp⟩ := N.cp
  obtain ⟨tq, hcq⟩ := N.cq
  have hsp := P8_small p N.hp
  have hsq := P8_small q N.hq
  have rp : Rd (lenv L fa) s.heap (Str.ofString "p") (.int p tp) := I.rdc (by rfl) hcp (by rfl) (by decide)
  have rq : Rd (lenv L fa) s.heap (Str.ofString "q") (.int q tq) := I.rdc (by rfl) hcq (by rfl) (by decide)
  have r1 : Rd (lenv L fa) s.heap (Str.ofString "squares") (.ref l) := I.loc hml (by rfl) (by decide)
  have r2 : Rd (lenv L fa) s.heap (Str.ofString "others") (.ref l2) := I.loc hml2 (by rfl) (by decide)
  refine wpAny_If (wpAny_isTrue_Compare1 (wpAny_Compare1 ?_))
  refine BoolE.modIn (tk := s.toks) rq rp r1 hl hi (by omega) _ _ fun tk₁ => ?_
  refine BoolE.modIn (tk := tk₁) rp rq r2 hl2 hi2 (by omega) _ _ fun tk₂ => ?_
  refine eq_bool ?_
  refine BoolOp_or ?_
  refine BoolE.modOne (tk := tk₂) rp (by decide) _ _ fun tk₃ => ?_
  generalize ((xs.any fun x => x == q.fmod p) == xs2.any fun x => x == p.fmod q) = X at hlaw ⊢
  refine wpAny_truthy_bool ?_
  cases hb1 : (p.fmod 4 == 1) with
  | true =>
    rw [hb1, Bool.true_or] at hlaw
    rw [if_pos rfl]
    refine ne_bool (wpAny_truthy_bool ?_)
    rw [if_neg (by rw [hlaw]; decide)]
    exact wpAny_execs_nil (h _ (I.toks tk₃) fun _ _ e => e)
  | false =>
    rw [hb1, Bool.false_or] at hlaw
    rw [if_neg Bool.false_ne_true]
    refine BoolOp_one ?_
    refine BoolE.modOne (tk := tk₃) rq (by decide) _ _ fun tk₄ => ?_
    refine ne_bool (wpAny_truthy_bool ?_)
    rw [if_neg (by rw [hlaw]; simp)]
    exact wpAny_execs_nil (h _ (I.toks tk₄) fun _ _ e => e)

/-- Euler's test -/
theorem st12 (C : LCtx w.params g L mg) (I : LS g L os ml cm tb s) {p q a : Int} (N : Nums cm p q a) {l : Nat} {vs : List Value} {xs : List Int} (hml : ml (Str.ofString "squares") = some (.ref l)) (hl : s.heap.IsList l vs.toArray) (hi : IntsAre vs xs)
    (hlaw : xs.any (· == a) = ((a ^ ((p - 1).fdiv 2).toNat).fmod p == 1))
    (h : ∀ (s' : Shared), LS g L os ml cm tb s' → (∀ b o, s.heap.get? b = some o → s'.heap.get? b = some o) → LGoal w g os L fa (lawBody.drop 13) s') :
    LGoal w g os L fa (lawBody.drop 12) s := by
  refine lgoal_cons 12 (by decide) ?_
  obtain ⟨tp, hcp⟩ := N.cp
  obtain ⟨ta, hca⟩ := N.ca
  have hsp := P8_small p N.hp
  have ha1 := N.a1
  have ha2 := N.a2
  have rp : Rd (lenv L fa) s.heap (Str.ofString "p") (.int p tp) := I.rdc (by rfl) hcp (by rfl) (by decide)
  have ra : Rd (lenv L fa) s.heap (Str.ofString "a") (.int a ta) := I.rdc (by rfl) hca (by rfl) (by decide)
  have r1 : Rd (lenv L fa) s.heap (Str.ofString "squares") (.ref l) := I.loc hml (by rfl) (by decide)
  have hd2 : (p - 1).fdiv 2 ≤ 11 ∧ 0 ≤ (p - 1).fdiv 2 := by rw [Int.fdiv_eq_ediv_of_nonneg _ (by decide)]; omega
  refine wpAny_If (wpAny_isTrue_Compare1 (wpAny_Compare1 ?_))
  refine ra.go (fun _ _ e => e) (r1.go (fun _ _ e => e) (in_list_ints hl hi ?_))
  refine wpAny_Compare1 (wpAny_BinOp (wpAny_BinOp (ra.go (fun _ _ e => e) ?_)))
  refine wpAny_BinOp (wpAny_BinOp (rp.go (fun _ _ e => e) (wpAny_Constant_int (PySem.P.sub_int (wpAny_Constant_int ?_)))))
  dsimp only
  refine PyProof.Rows.floordiv_int (by decide) ?_ (Or.inl (PyProof.noPylong_small (by omega)))
  refine PyProof.Rows.pow_int hd2.2 ?_ ?_
  · have := bits_small (a := a) (by omega)
    have h1 : (Builtin.Int.intBits a : Int) * (p - 1).fdiv 2 ≤ 64 * (p - 1).fdiv 2 := Int.mul_le_mul_of_nonneg_right (by omega) hd2.2
    omega
  · refine rp.go (fun _ _ e => e) (PyProof.Rows.mod_int (by omega) (wpAny_Constant_int ?_))
    dsimp only
    refine PySem.P.eq_int (ne_bool (wpAny_truthy_bool ?_))
    rw [if_neg (by rw [hlaw]; simp)]
    exact wpAny_execs_nil (h _ (I.toks _) fun _ _ e => e)
end
end Mine

namespace Mine
open PySem PySem.W PySem.Calls PyProof.Rows
set_option maxRecDepth 100000

def pows (a p n : Int) : List Int := (intsR 0 n).map fun k => (a ^ k.toNat).fmod p

section
variable {w : World} {g : Heap} {L fa : Nat} {os : OsState} {ml cm : Str → Option Value} {tb : Array Value} {s : Shared} {mg : Str → Option Value} {E : Value → Shared → Prop}

theorem LstE.pow (I : LS g L os ml cm tb s) {iter : Expr} {x y r : Str} {px p1 p2 p3 p4 p5 pos : Pos} {scope : Scope} {cl : List (Str × Addr)} {av pv : Int} {t2 t3 : Tok} {c c2 : Addr} {xs : List Int}
    (hclos : closureFor scope (lenv L fa) = pure cl) (hcell : ∀ y ∈ scope.names, y.2 ≠ .cell) (hkind : scope.kind = .function)
    (hnames : ∀ y ∈ scope.names, y.2 = .local → scope.names.lookup y.1 = some .local) (hx : scope.names.lookup x = some .local)
    (hlx : ∀ C, (compEnvC scope cl C (lenv L fa)).kindOf x = some .local) (hdx : (x == ("__debug__" : Str)) = false)
    (hr : ∀ C (h : Heap), h.IsCell c (some (.int pv t3)) → Rd (compEnvC scope cl C (lenv L fa)) h r (.int pv t3)) (hy : ∀ C (h : Heap), h.IsCell c2 (some (.int av t2)) → Rd (compEnvC scope cl C (lenv L fa)) h y (.int av t2))
    (hc : s.heap.IsCell c (some (.int pv t3))) (hc2 : s.heap.IsCell c2 (some (.int av t2))) (hp : pv ≠ 0) (hav : av.natAbs < 2 ^ 63)
    (hsrc : SrcE w L fa iter xs s) (hlen : xs.length ≤ 4000) (hsm : ∀ a ∈ xs, 0 ≤ a ∧ a < 1000) (hs : ∀ x, foldedSetIterable iter (lenv L fa) x = pure x) :
    LstE w L fa (.ListComp (.BinOp (.BinOp (.Name y p1) .Pow (.Name x p2) p3) .Mod (.Name r p4) p5) [⟨.Name x px, iter, [], 0⟩] scope pos) (xs.map fun k => (av ^ k.toNat).fmod pv) s := by
  intro Q E h
  refine comp_pow (c := c) (t3 := t3) (c2 := c2) (t2 := t2) (by rfl) hclos hcell hkind hnames hx hlx hdx hr hy hp hav (hsrc _ _ fun rr h' tk hsr hk => ?_) hs
  refine ⟨rr, xs, rfl, hsr, hlen, hsm, hc.keeps hk, hc2.keeps hk, fun D h'' tk'' vs hD hl hi hk' => ?_⟩
  exact h D h'' tk'' vs hl hi (list_off (ml := ml) ((I.fr.ns.keeps hk).keeps hk') hl) fun b o e => hk' b o (hk b o e)

theorem st13 (C : LCtx w.params g L mg) (I : LS g L os ml cm tb s) {p q a : Int} (N : Nums cm p q a)
    (h : ∀ (s' : Shared) cm' (l : Nat) (vs : List Value), LS g L os ml cm' tb s' → Nums cm' p q a → cm' (Str.ofString "powers") = some (.ref l) → s'.heap.IsList l vs.toArray → IntsAre vs (ded (fun x => x) [] (pows a p p)) → LGoal w g os L fa (lawBody.drop 14) s') :
    LGoal w g os L fa (lawBody.drop 13) s := by
  refine lgoal_cons 13 (by decide) ?_
  obtain ⟨tp, hcp⟩ := N.cp
  obtain ⟨ta, hca⟩ := N.ca
  obtain ⟨tq, hcq⟩ := N.cq
  have hs := P8_small p N.hp
  have ha1 := N.a1
  have ha2 := N.a2
  have hcell : s.heap.IsCell (L + 1 + 1 + 1 : Nat) (some (.int p tp)) := I.cell (by rfl) hcp
  have hcell2 : s.heap.IsCell (L + 1 + 1 : Nat) (some (.int a ta)) := I.cell (by rfl) hca
  have hlen : (intsR 0 p).length ≤ 4000 := by rw [intsR_length]; omega
  have rp : Rd (lenv L fa) s.heap (Str.ofString "p") (.int p tp) := I.rdc (by rfl) hcp (by rfl) (by decide)
  refine wpAny_Assign_Name ?_
  refine TldE.none C I (xs := pows a p p) ?_ (by unfold pows; rw [List.length_map, intsR_length]; omega) (by rfl) _ _ fun s' D vs hl hi hDL I' hk => ?_
  · refine LstE.pow I (cl := [(Str.ofString "p", (L + 1 + 1 + 1 : Nat)), (Str.ofString "a", (L + 1 + 1 : Nat))]) (c := (L + 1 + 1 + 1 : Nat)) (t3 := tp) (c2 := (L + 1 + 1 : Nat)) (t2 := ta) (by rfl) (by decide) rfl (by decide) (by rfl) (fun _ => by rfl) (by decide)
      (fun Cc hh hc => rd_cell rfl (by rfl) (by rfl) hc (by decide)) (fun Cc hh hc => rd_cell rfl (by rfl) (by rfl) hc (by decide)) hcell hcell2 (by omega) (by omega) ?_ hlen (fun x hx => ?_) (by intro _; rfl)
    · exact SrcE.range1 C I (IntE.rd rp) (by omega) (by omega) (by rfl)
    · have := mem_intsR hx
      omega
  · refine I'.stC (c := (L + 1 + 1 + 1 + 1 : Nat)) (by rfl) (by rfl) (fun H₂ I₂ k₂ => ?_) C.tabL
    refine h _ _ D vs I₂ ⟨⟨tp, (if_neg (by decide)).trans hcp⟩, ⟨tq, (if_neg (by decide)).trans hcq⟩, ⟨ta, (if_neg (by decide)).trans hca⟩, N.hp, N.hq, N.ne, N.a1, N.a2⟩ (if_pos rfl) ?_ hi
    obtain ⟨o, e, r⟩ := hl
    refine ⟨o, k₂ _ _ (fun q => ?_) e, r⟩
    obtain ⟨oc, e1, hd⟩ := I'.cl.cell (Str.ofString "powers") (L + 1 + 1 + 1 + 1 : Nat) (by rfl)
    rw [← q, e] at e1
    cases e1
    obtain ⟨_, k, hd'⟩ := r
    rw [hd] at hd'; cases hd'

theorem st14 (C : LCtx w.params g L mg) (I : LS g L os ml cm tb s) {p q a : Int} (N : Nums cm p q a) {l : Nat} {vs : List Value} {xs : List Int} (hcw : cm (Str.ofString "powers") = some (.ref l)) (hl : s.heap.IsList l vs.toArray) (hi : IntsAre vs xs)
    (hx : xs = pows a p xs.length) (hlen : xs.length ≤ 23) (hone : (a ^ xs.length).fmod p = 1)
    (h : ∀ (s' : Shared), LS g L os ml cm tb s' → (∀ b o, s.heap.get? b = some o → s'.heap.get? b = some o) → LGoal w g os L fa (lawBody.drop 15) s') :
    LGoal w g os L fa (lawBody.drop 14) s := by
  refine lgoal_cons 14 (by decide) ?_
  obtain ⟨tp, hcp⟩ := N.cp
  obtain ⟨ta, hca⟩ := N.ca
  have hs := P8_small p N.hp
  have ha1 := N.a1
  have ha2 := N.a2
  have hcell : s.heap.IsCell (L + 1 + 1 + 1 : Nat) (some (.int p tp)) := I.cell (by rfl) hcp
  have hcell2 : s.heap.IsCell (L + 1 + 1 : Nat) (some (.int a ta)) := I.cell (by rfl) hca
  have rp : Rd (lenv L fa) s.heap (Str.ofString "p") (.int p tp) := I.rdc (by rfl) hcp (by rfl) (by decide)
  have ra : Rd (lenv L fa) s.heap (Str.ofString "a") (.int a ta) := I.rdc (by rfl) hca (by rfl) (by decide)
  have rw' : Rd (lenv L fa) s.heap (Str.ofString "powers") (.ref l) := I.rdc (by rfl) hcw (by rfl) (by decide)
  have rl : Rd (lenv L fa) s.heap (Str.ofString "len") (.builtin "len") := I.bu C (by rfl) (by rfl) (by decide) (by rfl) (by decide)
  have hvl : vs.length = xs.length := hi.length
  have lenE : ∀ (h' : Heap) (tk : Nat) (Q E : Value → Shared → Prop) (p1 p2 p3 : Pos), (∀ b o, s.heap.get? b = some o → h'.get? b = some o) → (∀ t tk, Q (.int xs.length t) { s with heap := h', toks := tk }) →
      wpAny (model PySem.Challenge.pw_ij0068_01 w) (lA L fa) (eval (.Call (.Name (Str.ofString "len") p1) [.Name (Str.ofString "powers") p2] [] p3) (lenv L fa)) Q E { s with heap := h', toks := tk } := by
    intro h' tk Q E p1 p2 p3 hk hq
    refine wpAny_Call_NameR (rl.go hk ?_)
    refine callWith_builtin1 (wpAny_items_cons (rw'.go hk (wpAny_items_nil ?_)))
    have hl' : h'.IsList l vs.toArray := let ⟨o, e, r⟩ := hl; ⟨o, hk _ _ e, r⟩
    refine call_len_list hl' (by rw [List.size_toArray, hvl]; omega) ?_
    rw [List.size_toArray, hvl]
    exact hq _ _
  refine wpAny_If (wpAny_isTrue_BoolOp (wpAny_allTrue_Or_cons (wpAny_isTrue_Compare1 (rw'.go (fun _ _ e => e) ?_))))
  refine LstE.pow I (xs := intsR 0 xs.length) (cl := [(Str.ofString "p", (L + 1 + 1 + 1 : Nat)), (Str.ofString "a", (L + 1 + 1 : Nat))]) (c := (L + 1 + 1 + 1 : Nat)) (t3 := tp) (c2 := (L + 1 + 1 : Nat)) (t2 := ta) (by rfl) (by decide) rfl (by decide) (by rfl) (fun _ => by rfl) (by decide)
      (fun Cc hh hc => rd_cell rfl (by rfl) (by rfl) hc (by decide)) (fun Cc hh hc => rd_cell rfl (by rfl) (by rfl) hc (by decide)) hcell hcell2 (by omega) (by omega) ?_ (by rw [intsR_length]; omega) (fun x hx => ?_) (by intro _; rfl) _ _ fun D h' tk ws hl2 hi2 hDL hk => ?_
  · refine SrcE.range1 C I ?_ (by omega) (by omega) (by rfl)
    intro Q E hq
    exact lenE s.heap s.toks Q E _ _ _ (fun _ _ e => e) hq
  · have := mem_intsR hx
    omega
  · have hl' : h'.IsList l vs.toArray := let ⟨o, e, r⟩ := hl; ⟨o, hk _ _ e, r⟩
    have hi2' : IntsAre ws xs := by rw [hx]; exact hi2
    refine ne_intsK hl' hi hl2 hi2' lA_units (wpAny_truthy_bool ?_)
    rw [if_neg (by simp)]
    refine wpAny_allTrue_Or_cons (wpAny_isTrue_Compare1 (wpAny_BinOp (wpAny_BinOp (ra.go hk ?_))))
    refine lenE h' tk _ _ _ _ _ hk fun t tk₂ => ?_
    refine PyProof.Rows.pow_int (by omega) ?_ ?_
    · have := bits_small (a := a) (by omega)
      have h1 : (Builtin.Int.intBits a : Int) * (xs.length : Int) ≤ 64 * (xs.length : Int) := Int.mul_le_mul_of_nonneg_right (by omega) (by omega)
      omega
    · refine rp.go hk (PyProof.Rows.mod_int (by omega) (wpAny_Constant_int ?_))
      dsimp only
      refine PySem.P.ne_int (wpAny_truthy_bool ?_)
      rw [Int.toNat_natCast, hone]
      rw [if_neg (by decide)]
      refine wpAny_allTrue_Or_nil ?_
      rw [if_neg Bool.false_ne_true]
      exact wpAny_execs_nil (h _ (I.keeps _ hk) hk)
end
end Mine

namespace Mine
open PySem PySem.W PySem.Calls PyProof.Rows
set_option maxRecDepth 100000

section
variable {w : World} {g : Heap} {L fa : Nat} {os : OsState} {ml cm : Str → Option Value} {tb : Array Value} {s : Shared} {mg : Str → Option Value} {E : Value → Shared → Prop}

/-- an expression is a range -/
def RngE (w : World) (L fa : Nat) (e : Expr) (lo hi : Int) (s : Shared) : Prop := ∀ (Q E : Value → Shared → Prop), (∀ (r : Nat) h' tk t u v, IsRange h' r lo hi 1 t u v → r ≠ L → r ≠ 61 → (∀ b o, s.heap.get? b = some o → h'.get? b = some o) → Q (.ref r) { s with heap := h', toks := tk }) →
  wpAny (model PySem.Challenge.pw_ij0068_01 w) (lA L fa) (eval e (lenv L fa)) Q E s

theorem RngE.one (C : LCtx w.params g L mg) (I : LS g L os ml cm tb s) {e : Expr} {n : Int} {p1 p2 : Pos} (he : IntE w L fa e n s) (hst : starEach [e] (lenv L fa) = (false, eval e (lenv L fa)) :: starEach [] (lenv L fa)) : RngE w L fa (.Call (.Name (Str.ofString "range") p1) [e] [] p2) 0 n s := by
  intro Q E h
  refine wpAny_Call_NameR ((I.bu C (by rfl) (by rfl) (by decide) (by rfl) (by decide)).go (fun _ _ e => e) ?_)
  refine PyProof.Rows.callWith_type1 (wpAny_items_cons (he _ _ fun t tk => wpAny_items_nil ?_) hst) hst
  refine call_range_1 ?_
  dsimp only
  have hL : L < s.heap.objs.size := I.fr.ns.lt
  have h61 := C.tabL
  exact h s.heap.objs.size _ _ _ _ _ (IsRange.new ..) (by show @Ne Nat s.heap.objs.size L; omega) (by show @Ne Nat s.heap.objs.size 61; omega) fun b o e => Heap.get?_push_of_some _ e

theorem RngE.two (C : LCtx w.params g L mg) (I : LS g L os ml cm tb s) {a n : Int} {tn : Tok} {k1 : Nat} {y : Str} {p1 p2 p3 p4 : Pos} (hr : Rd (lenv L fa) s.heap y (.int n tn)) :
    RngE w L fa (.Call (.Name (Str.ofString "range") p1) [.Constant (.int a) k1 p3, .Name y p4] [] p2) a n s := by
  intro Q E h
  refine wpAny_Call_NameR ((I.bu C (by rfl) (by rfl) (by decide) (by rfl) (by decide)).go (fun _ _ e => e) ?_)
  refine PyProof.Rows.callWith_type1 (wpAny_items_cons (wpAny_Constant_int (wpAny_items_cons (hr.go (fun _ _ e => e) (wpAny_items_nil ?_)))))
  refine call_range_2 ?_
  dsimp only
  have hL : L < s.heap.objs.size := I.fr.ns.lt
  have h61 := C.tabL
  exact h s.heap.objs.size _ _ _ _ _ (IsRange.new ..) (by show @Ne Nat s.heap.objs.size L; omega) (by show @Ne Nat s.heap.objs.size 61; omega) fun b o e => Heap.get?_push_of_some _ e

/-- list(range) -/
theorem LstE.range (C : LCtx w.params g L mg) (I : LS g L os ml cm tb s) {e : Expr} {lo hi : Int} {p1 p2 : Pos} (he : RngE w L fa e lo hi s) (h0 : -1000 ≤ lo) (h0' : lo ≤ 1000) (h1 : -1000 ≤ hi) (h1' : hi ≤ 1000) (hst : starEach [e] (lenv L fa) = (false, eval e (lenv L fa)) :: starEach [] (lenv L fa)) :
    LstE w L fa (.Call (.Name (Str.ofString "list") p1) [e] [] p2) (intsR lo hi) s := by
  intro Q E h
  refine wpAny_Call_NameR ((I.bu C (by rfl) (by rfl) (by decide) (by rfl) (by decide)).go (fun _ _ e => e) ?_)
  refine PyProof.Rows.callWith_type1 (wpAny_items_cons (he _ _ fun r h' tk t u v hr hrL hr61 hk => wpAny_items_nil ?_) hst) hst
  have I₁ := I.keeps tk hk
  refine call_list_range (n := (hi - lo).toNat) (by rfl) hr (small_one (by omega) (by omega) (by omega) (by omega)) (rangeSize_nat lo hi) (by omega) fun h'' tk'' acc c hk'' hl hi' => ?_
  have hL : L < h'.objs.size := I₁.fr.ns.lt
  refine h h'.objs.size h'' tk'' acc.toList ⟨_, hl, rfl, c, by simp⟩ (items_ints_list _ _ ?_ fun j v e => ?_) (by omega) fun b o e => hk'' b o (hk b o e)
  · rw [Array.length_toList, hi'.1, intsR_length]
  · obtain ⟨t', e'⟩ := hi'.2 j v (by simpa using e)
    have hj : j < (hi - lo).toNat := by
      have := (List.getElem?_eq_some_iff.mp e).1
      rw [Array.length_toList, hi'.1] at this; exact this
    refine ⟨t', ?_⟩
    rw [e']
    congr 1
    simp [intsR, List.getD, hj]

/-- a lambda is made -/
theorem lam_made (C : LCtx w.params g L mg) (I : LS g L os ml cm tb s) {params : Arguments} {body : Expr} {scope : Scope} {pos : Pos} {clos : List (Str × Addr)} {Q : Value → Shared → Prop} {A : Around} {M : Model} (hdef : defaultsOf params (lenv L fa) = ([], [])) (hcl : closureFor scope (lenv L fa) = pure clos) (ht : TriplesOk tb.toList) (hnf : codeAmong pos tb.toList = none)
    (h : ∀ (f c' : Nat) ctv h' tk, LS g L os ml cm (tb ++ #[rawInt pos.line, rawInt pos.col, .ref c']) { s with heap := h', toks := tk } → h'.get? f = some (kla_obj (Str.ofString "<lambda>") ((lenv L fa).qual ++ Str.ofString "<lambda>") params body scope clos ((mg "__name__").getD .none) c' ctv) →
      h'.CodeRec (.ref c') ((lenv L fa).qual ++ Str.ofString "<lambda>") → f ≠ L → (∀ b o, b ≠ (61 : Nat) → s.heap.get? b = some o → h'.get? b = some o) → Q (.ref f) { s with heap := h', toks := tk }) :
    wpAny M A (eval (.Lambda params body scope pos) (lenv L fa)) Q E s := by
  obtain ⟨p, loose, mb, T⟩ := C.top
  obtain ⟨bm, ob, b1, b2, b3, b4, b5, b6⟩ := C.bmain
  have hgs := T.g.keeps I.fr.keep
  have h61 := C.tabL
  have hgP : mainGlobals ≠ 61 := by decide
  have hbP : bm ≠ 61 := fun q => by rw [q, C.tab] at b3; cases b3
  have hbG : bm ≠ mainGlobals := fun q => by
    obtain ⟨o, es, ep, e, hd, _⟩ := T.g
    rw [q, e] at b3; cases b3; rw [hd] at b6; cases b6
  refine kla_eval hdef (kla_makeFunction (mg := mg) hcl rfl hgs (c := 63) (P := 61) rfl (C.code.keeps I.fr.keep) I.tab ht hnf hgP ⟨bm, ob, b1, b2, hbG, hbP, I.fr.keep _ _ b3, b4, b5, b6⟩ fun c' ctv h' tk hx hge hlt hrec htb => ?_)
  have hLs : L < s.heap.objs.size := I.fr.ns.lt
  have hn61 : (61 : Nat) ≠ L := by omega
  have hge' : (s.heap.objs.size : Nat) ≤ c' := hge
  have hlt' : (c' : Nat) < h'.objs.size := hlt
  refine h h'.objs.size c' ctv _ tk ⟨⟨(I.fr.ns.extBut hx (Ne.symm hn61)).push _, fun b o e => Heap.get?_push_of_some _ (hx b o (fun q => by rw [q, C.tab] at e; cases e) (I.fr.keep b o e)), I.fr.above⟩,
    ⟨fun n c e => ?_, I.cl.apart, I.cl.above⟩, Heap.get?_push_of_some _ htb, I.gens, I.os⟩ (Heap.get?_push_size _ rfl) (hrec.push _) (by show @Ne Nat h'.objs.size L; omega) fun b o hb e => Heap.get?_push_of_some _ (hx b o hb e)
  obtain ⟨o, ho, hd⟩ := I.cl.cell n c e
  have hc : (L : Nat) < c := I.cl.above n c (mem_of_lookup e)
  exact ⟨o, Heap.get?_push_of_some _ (hx c o (by show @Ne Nat c 61; omega) ho), hd⟩
end
end Mine

namespace Mine
open PySem PySem.W PySem.Calls PyProof.Rows
set_option maxRecDepth 100000

section
variable {w : World} {g : Heap} {L fa : Nat} {os : OsState} {ml cm : Str → Option Value} {tb : Array Value} {s : Shared} {mg : Str → Option Value} {E : Value → Shared → Prop}

/-- list(unique_everseen(range, lambda)) -/
theorem told_keyE (C : LCtx w.params g L mg) (I : LS g L os ml cm tb s) {e : Expr} {lo hi : Int} {f : Int → Int} {params : Arguments} {body : Expr} {scope : Scope} {pos : Pos} {clos : List (Str × Addr)} {p1 p2 p3 p4 : Pos} (he : RngE w L fa e lo hi s) (h0 : -1000 ≤ lo) (h0' : lo ≤ 1000) (h1 : -1000 ≤ hi) (h1' : hi ≤ 1000)
    (hdef : defaultsOf params (lenv L fa) = ([], [])) (hcl : closureFor scope (lenv L fa) = pure clos) (ht : TriplesOk tb.toList) (hnf : codeAmong pos tb.toList = none)
    (hkey : ∀ (B : Heap) (kf c' : Nat) (ctv : Value), (∀ b o, g.get? b = some o → B.get? b = some o) → (∀ n c, (lcs L).lookup n = some c → B.IsCell c (cm n)) → (∀ b o, b ≠ L → b ≠ (61 : Nat) → s.heap.get? b = some o → B.get? b = some o) →
      B.get? kf = some (kla_obj (Str.ofString "<lambda>") ((lenv L fa).qual ++ Str.ofString "<lambda>") params body scope clos ((mg "__name__").getD .none) c' ctv) → B.CodeRec (.ref c') ((lenv L fa).qual ++ Str.ofString "<lambda>") → KeyOk PySem.Challenge.pw_ij0068_01 w B kf f (intsR lo hi))
    {Q : Value → Shared → Prop}
    (hst : ∀ r, starEach (e :: r) (lenv L fa) = (false, eval e (lenv L fa)) :: starEach r (lenv L fa))
    (h : ∀ (s' : Shared) (D c' : Nat) (vs : List Value), s'.heap.IsList D vs.toArray → IntsAre vs (ded f [] (intsR lo hi)) → D ≠ L → LS g L os ml cm (tb ++ #[rawInt pos.line, rawInt pos.col, .ref c']) s' → (∀ b o, b ≠ L → b ≠ (61 : Nat) → s.heap.get? b = some o → s'.heap.get? b = some o) → Q (.ref D) s') :
    wpAny (model PySem.Challenge.pw_ij0068_01 w) (lA L fa) (eval (.Call (.Name (Str.ofString "list") p1) [.Call (.Name (Str.ofString "unique_everseen") p2) [e, .Lambda params body scope pos] [] p3] [] p4) (lenv L fa)) Q E s := by
  obtain ⟨p, loose, mb, T⟩ := C.top
  refine wpAny_Call_NameR ((I.bu C (by rfl) (by rfl) (by decide) (by rfl) (by decide)).go (fun _ _ e => e) ?_)
  refine PyProof.Rows.callWith_type1 (wpAny_items_cons ?_)
  refine wpAny_Call_NameR ((I.ue C).go (fun _ _ e => e) ?_)
  obtain ⟨oc, od, sl, doc, pm, ct, ho⟩ := (ueFn_at w.params).fn
  have fn : ∀ {h : Heap}, (∀ b o, g.get? b = some o → h.get? b = some o) → FnAt 59 h := fun k => ⟨oc, od, _, sl, k _ _ (C.K _ _ ho)⟩
  refine callWith_F (fn I.fr.keep) ?_ (hst _)
  refine wpAny_items_cons (he _ _ fun r h₁ tk₁ t u v hr hrL hr61 hk₁ => ?_) (hst _)
  have I₁ := I.keeps tk₁ hk₁
  refine wpAny_items_cons (lam_made C I₁ hdef hcl ht hnf fun kf c' ctv h₂ tk₂ I₂ hkf hcr hkL hk₂ => wpAny_items_nil ⟨fn I₂.fr.keep, ?_⟩)
  dsimp only at hk₂ I₂ ⊢
  have hr₂ : IsRange h₂ r lo hi 1 t u v := hk₂ _ _ hr61 hr
  have L₂ : L < h₂.objs.size := I₂.fr.ns.lt
  have h61 := C.tabL
  have offL : ∀ b o, b ≠ L → h₂.get? b = some o → (h₂.hide L).get? b = some o := fun b o hb e => (Heap.hide_ne _ hb).trans e
  have hB1 : ∀ b o, g.get? b = some o → (h₂.hide L).get? b = some o := fun b o e => I₂.hideK e
  have hlen : (intsR lo hi).length < 4000 := by rw [intsR_length]; omega
  refine wpAny_mono (told_key (K := hd.heap_39 w.params) (L := L) (f := f) (xs := intsR lo hi) (ib := r) (kf := kf) (Q := Q) (E := E) (s := { s with heap := h₂, toks := tk₂ }) (by rfl) (by show callerA.depth + 1 ≤ 440; decide) (ueFn_at _) (C.K.keeps hB1) (T.keeps hB1)
    (T.nolimit.keeps I₂.fr.keep) L₂ (by omega) (by show 2 < h₂.objs.size; omega) I₂.fr.ns ?_ ?_ hlen fun s' l' T' => ?_) (fun v s₁ hv => wpAny_items_nil hv) fun _ _ z => z
  · refine hkey _ kf c' ctv hB1 (fun n c e => ?_) (fun b o h1 h2 e => offL b o h1 (hk₂ b o h2 (hk₁ b o e))) (offL _ _ hkL hkf) ?_
    · obtain ⟨o, ho, hd⟩ := I₂.cl.cell n c e
      exact ⟨o, offL _ _ (Nat.ne_of_gt (I₂.cl.above n c (mem_of_lookup e))) ho, hd⟩
    · obtain ⟨c₂, oc₂, vs₂, t₂, e2, hoc, hd, hv⟩ := hcr
      cases e2
      refine ⟨c', oc₂, vs₂, t₂, rfl, offL _ _ (fun q => ?_) hoc, hd, hv⟩
      obtain ⟨o, es, ep, ho, hd', _⟩ := I₂.fr.ns
      dsimp only at ho
      rw [← q, hoc] at ho; cases ho; rw [hd] at hd'; cases hd'
  · exact src_range (B := h₂.hide L) (r := r) (t := t) (u := u) (v := v) (offL _ _ hrL hr₂) (small_one (by omega) (by omega) (by omega) (by omega))
  · obtain ⟨us, hl', hi'⟩ := T'.isList
    have h1 : h₂.objs.size ≤ l' := T'.new
    exact h s' l' c' us hl' hi' (by show @Ne Nat l' L; omega) (I₂.told C.tabL T') (fun b o h1 h2 e => T'.old b o h1 (hk₂ b o h2 (hk₁ b o e)))
end
end Mine

namespace Mine
open PySem PySem.W PySem.Calls PyProof.Rows
set_option maxRecDepth 100000

structure LamP where
  params : Arguments
  body : Expr
  scope : Scope
  pos : Pos
def lamOf : Expr → LamP
  | .Call _ [.Call _ [_, .Lambda a b sc p] _ _] _ _ => ⟨a, b, sc, p⟩
  | _ => ⟨default, default, default, default⟩
def lam1 : LamP := match lawSt 6 with | .If (.Compare l _ _ _) _ _ _ => lamOf l | _ => lamOf (.Constant .none 0 default)
def lam2 : LamP := match lawSt 15 with | .Assign _ v _ => lamOf v | _ => lamOf (.Constant .none 0 default)

section
variable {w : World} {g : Heap} {L fa : Nat} {os : OsState} {ml cm : Str → Option Value} {tb : Array Value} {s : Shared} {mg : Str → Option Value} {E : Value → Shared → Prop}

theorem lam1_nocell : ∀ x ∈ lam1.scope.names, x.2 ≠ .cell := by decide +kernel

theorem key1 {B : Heap} {kf c' : Nat} {pm ctv : Value} {qual : Str} {p : Int} {tp : Tok} (hp : p ∈ P8) (hlim : B.NoLimit) (hkf : B.get? kf = some (kla_obj (Str.ofString "<lambda>") qual lam1.params lam1.body lam1.scope [(Str.ofString "p", (L + 1 + 1 + 1 : Nat))] pm c' ctv))
    (hcr : B.CodeRec (.ref c') qual) (hcell : B.IsCell (L + 1 + 1 + 1 : Nat) (some (.int p tp))) : KeyOk PySem.Challenge.pw_ij0068_01 w B kf (fun x => (x * x).fmod p) (intsR 0 p) := by
  have hs := P8_small p hp
  refine ⟨⟨_, _, _, _, hkf⟩, fun A u E Q x t hh hd hx hk hq => ?_⟩
  have hx' := mem_intsR hx
  refine wpAny_call (kla_callFunE (by have : recursionLimit = 1000 := rfl; omega) (hk _ _ hkf) rfl (by rfl) (by rfl) rfl (hcr.keeps hk) ?_)
  refine BindsTo.of_eq (binds := [(Str.ofString "x", .int x t)]) rfl _ _ _ _ ?_
  refine wpAny_newFunctionEnv lam1_nocell (fun y hy => ?_) (fun h₁ hn₁ hs₁ => ?_) (by rfl)
  · rw [List.mem_singleton.mp hy]; rfl
  have k₁ : ∀ b o, u.heap.get? b = some o → h₁.get? b = some o := fun b o e => (hs₁.2 b (Nat.ne_of_lt (Heap.lt_size e))).trans (Heap.get?_push_of_some _ e)
  refine ⟨(hlim.keeps hk).keeps k₁, kla_codeExpr ?_⟩
  refine wpAny_mono (ev_mulmod (h := h₁) (x := Str.ofString "x") (y := Str.ofString "x") (r := Str.ofString "p") (fun _ _ e => e) (rd_local rfl (by rfl) hn₁ (by rfl) (by decide)) (rd_local rfl (by rfl) hn₁ (by rfl) (by decide)) (rd_free rfl (by rfl) (by rfl) ((hcell.keeps hk).keeps k₁) (by decide) (by decide)) (by omega) (by omega)) (fun v s' hv => ?_) fun _ _ z => z
  obtain ⟨⟨uu, rfl⟩, h', tk, rfl, hk'⟩ := hv
  exact hq h' tk uu fun b o e => hk' b o (k₁ b o e)

theorem st6 (C : LCtx w.params g L mg) (I : LS g L os ml cm #[] s) {p q a : Int} (N : Nums cm p q a) (hlaw : ded (fun x => (x * x).fmod p) [] (intsR 0 p) = intsR 0 ((p + 1).fdiv 2))
    (h : ∀ (s' : Shared) c', LS g L os ml cm (#[] ++ #[rawInt lam1.pos.line, rawInt lam1.pos.col, .ref c']) s' → LGoal w g os L fa (lawBody.drop 7) s') :
    LGoal w g os L fa (lawBody.drop 6) s := by
  refine lgoal_cons 6 (by decide) ?_
  obtain ⟨tp, hcp⟩ := N.cp
  have hs := P8_small p N.hp
  have rp : ∀ {tb s'}, LS g L os ml cm tb s' → Rd (lenv L fa) s'.heap (Str.ofString "p") (.int p tp) := fun I => I.rdc (by rfl) hcp (by rfl) (by decide)
  have hd2 : (p + 1).fdiv 2 ≤ 12 ∧ 0 ≤ (p + 1).fdiv 2 := by rw [Int.fdiv_eq_ediv_of_nonneg _ (by decide)]; omega
  refine wpAny_If (wpAny_isTrue_Compare1 ?_)
  refine told_keyE C I (f := fun x => (x * x).fmod p) (params := lam1.params) (body := lam1.body) (scope := lam1.scope) (pos := lam1.pos) (clos := [(Str.ofString "p", (L + 1 + 1 + 1 : Nat))]) (RngE.one C I (IntE.rd (rp I)) (by rfl)) (by omega) (by omega) (by omega) (by omega) (by rfl) (by rfl) trivial (by rfl)
    (fun B kf c' ctv hB hcells hold hkf hcr => ?_) (fun _ => by rfl) fun s' D c' vs hl hi hDL I' hk => ?_
  · obtain ⟨pp, loose, mb, T⟩ := C.top
    exact key1 (L := L) N.hp (T.nolimit.keeps hB) hkf hcr (hcp ▸ hcells _ _ (by rfl))
  · refine LstE.range C I' (RngE.one C I' (IntE.half (rp I') (by omega) (by omega)) (by rfl)) (by omega) (by omega) (by omega) (by omega) (by rfl) _ _ fun D2 h' tk vs2 hl2 hi2 hDL2 hk2 => ?_
    have hl' : h'.IsList D vs.toArray := let ⟨o, e, r⟩ := hl; ⟨o, hk2 _ _ e, r⟩
    rw [hlaw] at hi
    refine ne_intsK hl' hi hl2 hi2 lA_units (wpAny_truthy_bool ?_)
    rw [if_neg (by simp)]
    exact wpAny_execs_nil (h _ c' (I'.keeps _ hk2))
end
end Mine

namespace Mine
open PySem PySem.W PySem.Calls PyProof.Rows
set_option maxRecDepth 100000

/-- the least of a number's products -/
def leastOf (pw : List Int) (p x : Int) : Int := lmin (pw.map fun b => (x * b).fmod p)

section
variable {prog : Program} {w : World} {A : Around} {E : Value → Shared → Prop} {s : Shared} {env : Env} {h : Heap}

theorem ev_min {y x r pw : Str} {px p1 p2 p3 p4 p5 p6 p7 p8 pos : Pos} {scope : Scope} {cl : List (Str × Addr)} {av pv : Int} {t2 t3 : Tok} {c c2 D : Addr} {vs : List Value} {ps : List Int} (hh : A.handled = none) (k : ∀ b o, h.get? b = some o → s.heap.get? b = some o)
    (rmin : Rd env h (Str.ofString "min") (.builtin "min")) (rpw : Rd env h pw (.ref D)) (hl : h.IsList D vs.toArray) (hi : IntsAre vs ps) (hne : 0 < ps.length) (hlen : ps.length ≤ 4000)
    (hclos : closureFor scope env = pure cl) (hcell : ∀ y ∈ scope.names, y.2 ≠ .cell) (hkind : scope.kind = .function)
    (hnames : ∀ y ∈ scope.names, y.2 = .local → scope.names.lookup y.1 = some .local) (hx : scope.names.lookup y = some .local)
    (hlx : ∀ C, (compEnvC scope cl C env).kindOf y = some .local) (hdx : (y == ("__debug__" : Str)) = false)
    (hr : ∀ C (h : Heap), h.IsCell c (some (.int pv t3)) → Rd (compEnvC scope cl C env) h r (.int pv t3)) (hy : ∀ C (h : Heap), h.IsCell c2 (some (.int av t2)) → Rd (compEnvC scope cl C env) h x (.int av t2)) (hp : pv ≠ 0) (hav : av.natAbs < 2 ^ 63)
    (hc : h.IsCell c (some (.int pv t3))) (hc2 : h.IsCell c2 (some (.int av t2))) (hst : starEach [.ListComp (.BinOp (.BinOp (.Name x p1) .Mult (.Name y p2) p3) .Mod (.Name r p4) p5) [⟨.Name y px, .Name pw p6, [], 0⟩] scope pos] env = (false, eval (.ListComp (.BinOp (.BinOp (.Name x p1) .Mult (.Name y p2) p3) .Mod (.Name r p4) p5) [⟨.Name y px, .Name pw p6, [], 0⟩] scope pos) env) :: starEach [] env) :
    wpAny (model prog w) A (eval (.Call (.Name (Str.ofString "min") p7) [.ListComp (.BinOp (.BinOp (.Name x p1) .Mult (.Name y p2) p3) .Mod (.Name r p4) p5) [⟨.Name y px, .Name pw p6, [], 0⟩] scope pos] [] p8) env) (fun v s' => (∃ u, v = .int (leastOf ps pv av) u) ∧ Keeps s s') E s := by
  refine wpAny_Call_NameR (rmin.go k ?_)
  refine callWith_builtin1 (wpAny_items_cons ?_ hst) hst
  refine comp_prods (c := c) (t3 := t3) (c2 := c2) (t2 := t2) hh hclos hcell hkind hnames hx hlx hdx hr hy hp hav (rpw.go k ?_) (by intro _; rfl)
  have hl' : s.heap.IsList D vs.toArray := let ⟨o, e, r⟩ := hl; ⟨o, k _ _ e, r⟩
  refine ⟨D, ps, rfl, src_list hl' hi, hlen, hc.keeps k, hc2.keeps k, fun D' h' tk ws hD hl₁ hi₁ hk => wpAny_items_nil ?_⟩
  refine min_call hh hl₁ hi₁ (by rw [List.length_map]; exact hne) fun h'' tk'' t hk' => ?_
  exact ⟨⟨t, rfl⟩, h'', tk'', rfl, fun b o e => hk' b o (hk b o e)⟩

theorem newFun_cell {M : Model} {scope : Scope} {globals : Addr} {cl : List (Str × Addr)} {qual : Str} {a : Addr} {code : Value} {bu : Addr} {Q : Env → Shared → Prop} {n2 n3 n4 x : Str} {k2 k3 k4 : NameKind} {v : Value}
    (hn : scope.names = [(x, .cell), (n2, k2), (n3, k3), (n4, k4)]) (h2 : k2 ≠ .cell) (h3 : k3 ≠ .cell) (h4 : k4 ≠ .cell) (hk : scope.kind = .function)
    (h : ∀ h', h'.IsCell (s.heap.objs.size + 1 : Nat) (some v) → (∀ b o, s.heap.get? b = some o → h'.get? b = some o) →
      Q { scope := scope, locals := s.heap.objs.size, globals := globals, cells := (x, (s.heap.objs.size + 1 : Nat)) :: cl, qual := qual, func := some a, code := code, frame := some s.heap.objs.size, builtins := bu } { s with heap := h' }) :
    wpAny M A (newFunctionEnv scope globals cl [(x, v)] qual (some a) code none bu) Q E s := by
  have e : ∀ {k : NameKind}, k ≠ .cell → (k == .cell) = false := fun hk => by simpa using hk
  simp only [newFunctionEnv, Option.isSome_none, Bool.false_eq_true, if_false]
  refine wpAny_bind (wpAny_alloc ?_)
  rw [hn]
  simp only [List.forIn_cons, List.forIn_nil, e h2, e h3, e h4, Bool.false_eq_true, if_false, pure_bind]
  rw [if_pos (by rfl)]
  refine wpAny_bind (wpAny_bind (wpAny_bind (wpAny_alloc (wpAny_pure ?_))))
  refine wpAny_pure ?_
  dsimp only
  rw [Heap.size_push]
  have hc : ((s.heap.push { cls := .type "frame", data := .dict #[] }).push { cls := .type "cell", data := .cell none }).IsCell (s.heap.objs.size + 1 : Nat) none := by
    have := Heap.get?_push_size (s.heap.push { cls := .type "frame", data := .dict #[] }) (o := { cls := .type "cell", data := .cell none }) rfl
    rw [Heap.size_push] at this
    exact ⟨_, this, rfl⟩
  refine wpAny_bind (wpAny_bind (wpAny_bind ?_))
  refine wpAny_storeName_cell (c := (s.heap.objs.size + 1 : Nat)) hk ?_ ?_ (v₀ := none) ?_ fun h' hv hs => ?_
  · show scope.names.lookup x = some .cell
    rw [hn]; simp
  · show List.lookup x ((x, (s.heap.objs.size + 1 : Nat)) :: cl) = _
    simp
  · exact hc
  · refine wpAny_pure (wpAny_pure (wpAny_pure (h h' hv fun b o eb => (hs.2 b (Nat.ne_of_lt (Nat.lt_succ_of_lt (Heap.lt_size eb)))).trans (Heap.get?_push_of_some _ (Heap.get?_push_of_some _ eb)))))
end
end Mine

namespace Mine
open PySem PySem.W PySem.Calls PyProof.Rows
set_option maxRecDepth 100000

section
variable {w : World} {g : Heap} {L fa : Nat} {os : OsState} {ml cm : Str → Option Value} {tb : Array Value} {s : Shared} {mg : Str → Option Value} {E : Value → Shared → Prop}

theorem key2 (C : LCtx w.params g L mg) {B : Heap} {kf c' D : Nat} {pm ctv : Value} {qual : Str} {p : Int} {tp : Tok} {vs : List Value} {ps : List Int} (hp : p ∈ P8) (hB : ∀ b o, g.get? b = some o → B.get? b = some o)
    (hkf : B.get? kf = some (kla_obj (Str.ofString "<lambda>") qual lam2.params lam2.body lam2.scope [(Str.ofString "powers", (L + 1 + 1 + 1 + 1 : Nat)), (Str.ofString "p", (L + 1 + 1 + 1 : Nat))] pm c' ctv))
    (hcr : B.CodeRec (.ref c') qual) (hcell : B.IsCell (L + 1 + 1 + 1 : Nat) (some (.int p tp))) (hcw : B.IsCell (L + 1 + 1 + 1 + 1 : Nat) (some (.ref D))) (hl : B.IsList D vs.toArray) (hi : IntsAre vs ps) (hne : 0 < ps.length) (hlen : ps.length ≤ 4000) :
    KeyOk PySem.Challenge.pw_ij0068_01 w B kf (fun x => leastOf ps p x) (intsR 1 p) := by
  have hs := P8_small p hp
  obtain ⟨pp, loose, mb, T⟩ := C.top
  refine ⟨⟨_, _, _, _, hkf⟩, fun A u E Q x t hh hd hx hk hq => ?_⟩
  have hx' := mem_intsR hx
  refine wpAny_call (kla_callFunE (by have : recursionLimit = 1000 := rfl; omega) (hk _ _ hkf) rfl (by rfl) (by rfl) rfl (hcr.keeps hk) ?_)
  refine BindsTo.of_eq (binds := [(Str.ofString "x", .int x t)]) rfl _ _ _ _ ?_
  refine newFun_cell (scope := lam2.scope) (x := Str.ofString "x") (by rfl) (by decide) (by decide) (by decide) (by rfl) fun h₁ hc₁ k₁ => ?_
  have kB : ∀ b o, B.get? b = some o → h₁.get? b = some o := fun b o e => k₁ b o (hk b o e)
  refine ⟨(T.nolimit.keeps hB).keeps kB, kla_codeExpr ?_⟩
  refine wpAny_mono (ev_min (h := h₁) (c := (L + 1 + 1 + 1 : Nat)) (t3 := tp) (c2 := (u.heap.objs.size + 1 : Nat)) (t2 := t) (av := x) (pv := p) (D := D) (vs := vs) (ps := ps) (y := Str.ofString "y") (x := Str.ofString "x") (r := Str.ofString "p") (pw := Str.ofString "powers")
    (cl := [(Str.ofString "x", (u.heap.objs.size + 1 : Nat)), (Str.ofString "p", (L + 1 + 1 + 1 : Nat))]) hh (fun _ _ e => e) (rd_builtin C.K T (fun b o e => kB b o (hB b o e)) (by rfl) (by rfl) (by decide) (by rfl) (by rfl) (by rfl) (by rfl) (by decide))
    (rd_free (by rfl) (by rfl) (by rfl) (hcw.keeps kB) (by decide) (by decide)) (let ⟨o, e, r⟩ := hl; ⟨o, kB _ _ e, r⟩) hi hne hlen (by rfl) (by decide) (by rfl) (by decide) (by rfl) (fun _ => by rfl) (by decide)
    (fun Cc hh hc => rd_free (by rfl) (by rfl) (by rfl) hc (by decide) (by decide)) (fun Cc hh hc => rd_cell (by rfl) (by rfl) (by rfl) hc (by decide)) (by omega) (by omega) (hcell.keeps kB) hc₁ (by rfl)) (fun v s' hv => ?_) fun _ _ z => z
  obtain ⟨⟨uu, rfl⟩, h', tk, rfl, hk'⟩ := hv
  exact hq h' tk uu fun b o e => hk' b o (k₁ b o e)
end
end Mine

namespace Mine
open PySem PySem.W PySem.Calls PyProof.Rows
set_option maxRecDepth 100000

section
variable {w : World} {g : Heap} {L fa : Nat} {os : OsState} {ml cm : Str → Option Value} {tb : Array Value} {s : Shared} {mg : Str → Option Value} {E : Value → Shared → Prop}

theorem tab_off {h : Heap} {D : Nat} {vs : Array Value} (n : h.get? 61 = some (tabObj tb)) (l : h.IsList D vs) : D ≠ 61 := fun e => by
  obtain ⟨o', ho', hc, k, hd'⟩ := l
  rw [e, n] at ho'; cases ho'
  cases hc

theorem st15 (C : LCtx w.params g L mg) {c1 : Nat} (I : LS g L os ml cm (#[] ++ #[rawInt lam1.pos.line, rawInt lam1.pos.col, .ref c1]) s) {p q a : Int} (N : Nums cm p q a) {l : Nat} {vs : List Value} {ps : List Int} (hcw : cm (Str.ofString "powers") = some (.ref l)) (hl : s.heap.IsList l vs.toArray) (hi : IntsAre vs ps) (hne : 0 < ps.length) (hlen : ps.length ≤ 4000)
    (h : ∀ (s' : Shared) ml' tb' (l' : Nat) (ws : List Value), LS g L os ml' cm tb' s' → s'.heap.IsList l vs.toArray → ml' (Str.ofString "least") = some (.ref l') → s'.heap.IsList l' ws.toArray → IntsAre ws (ded (leastOf ps p) [] (intsR 1 p)) → LGoal w g os L fa (lawBody.drop 16) s') :
    LGoal w g os L fa (lawBody.drop 15) s := by
  refine lgoal_cons 15 (by decide) ?_
  obtain ⟨tp, hcp⟩ := N.cp
  have hs := P8_small p N.hp
  have rp : Rd (lenv L fa) s.heap (Str.ofString "p") (.int p tp) := I.rdc (by rfl) hcp (by rfl) (by decide)
  have hlL : l ≠ L := list_off I.fr.ns hl
  have hl61 : l ≠ 61 := tab_off I.tab hl
  refine wpAny_Assign_Name ?_
  refine told_keyE C I (f := leastOf ps p) (params := lam2.params) (body := lam2.body) (scope := lam2.scope) (pos := lam2.pos) (clos := [(Str.ofString "powers", (L + 1 + 1 + 1 + 1 : Nat)), (Str.ofString "p", (L + 1 + 1 + 1 : Nat))]) (RngE.two C I rp) (by omega) (by omega) (by omega) (by omega) (by rfl) (by rfl) trivial (by rfl)
    (fun B kf c' ctv hB hcells hold hkf hcr => ?_) (fun _ => by rfl) fun s' D c' ws hlw hiw hDL I' hk => ?_
  · exact key2 (L := L) C N.hp hB hkf hcr (hcp ▸ hcells _ _ (by rfl)) (hcw ▸ hcells (Str.ofString "powers") _ (by rfl)) (let ⟨o, e, r⟩ := hl; ⟨o, hold _ _ hlL hl61 e, r⟩) hi hne hlen
  · refine I'.stL (by rfl) (fun H₂ I₂ k₂ => ?_) C.tabL
    exact h _ _ _ D ws I₂ (let ⟨o, e, r⟩ := hl; ⟨o, k₂ _ _ hlL (hk _ _ hlL hl61 e), r⟩) (if_pos rfl) (let ⟨o, e, r⟩ := hlw; ⟨o, k₂ _ _ hDL e, r⟩) hiw

theorem st16 (C : LCtx w.params g L mg) (I : LS g L os ml cm tb s) {p q a : Int} (N : Nums cm p q a) {l l' : Nat} {vs ws : List Value} {ps : List Int} (hcw : cm (Str.ofString "powers") = some (.ref l)) (hl : s.heap.IsList l vs.toArray) (hi : IntsAre vs ps) (hne : 0 < ps.length) (hlen : ps.length ≤ 4000)
    (hml : ml (Str.ofString "least") = some (.ref l')) (hl' : s.heap.IsList l' ws.toArray) (hi' : IntsAre ws ((intsR 1 p).filter fun x => x == leastOf ps p x))
    (h : ∀ (s' : Shared), LS g L os ml cm tb s' → (∀ b o, s.heap.get? b = some o → s'.heap.get? b = some o) → LGoal w g os L fa (lawBody.drop 17) s') :
    LGoal w g os L fa (lawBody.drop 16) s := by
  refine lgoal_cons 16 (by decide) ?_
  obtain ⟨tp, hcp⟩ := N.cp
  obtain ⟨pp, loose, mb, T⟩ := C.top
  have hs := P8_small p N.hp
  have hcell : s.heap.IsCell (L + 1 + 1 + 1 : Nat) (some (.int p tp)) := I.cell (by rfl) hcp
  have hcellw : s.heap.IsCell (L + 1 + 1 + 1 + 1 : Nat) (some (.ref l)) := I.cell (by rfl) hcw
  have rp : Rd (lenv L fa) s.heap (Str.ofString "p") (.int p tp) := I.rdc (by rfl) hcp (by rfl) (by decide)
  refine if_ne (I.loc hml (by rfl) (by decide)) hl' hi' ?_ (fun h' tk hk => h _ (I.keeps tk hk) hk) (by with_unfolding_all rfl)
  intro Q E hq
  refine comp_cell (pz := fun x => x == leastOf ps p x) (f := fun x => x) (x := Str.ofString "x") (cl := [(Str.ofString "powers", (L + 1 + 1 + 1 + 1 : Nat)), (Str.ofString "p", (L + 1 + 1 + 1 : Nat))]) (by rfl) (by rfl) (by decide) (by decide) (by decide) (by decide) (by rfl) (by rfl) (by decide) (fun _ _ => by rfl) ?_ (by intro _; rfl)
  refine SrcE.range2 C I (a := 1) rp (by decide) (by decide) (by omega) (by omega) _ _ fun r h₁ tk₁ hsr hk₁ => ?_
  refine ⟨r, intsR 1 p, rfl, hsr, by rw [intsR_length]; omega, fun Cc c x t s₃ E' hx hcx hcn hk₃ => ?_, fun Cc c x t s₃ E' hx _ hcx hcn hk₃ => ?_, fun D h₂ tk₂ us hD hl₂ hi₂ hk₂ => ?_⟩
  · have hx' := mem_intsR hx
    have kS : ∀ b o, s.heap.get? b = some o → s₃.heap.get? b = some o := fun b o e => hk₃ b o (hk₁ b o e)
    simp only [List.forIn_cons, List.forIn_nil, if_true]
    refine wpAny_bind (wpAny_bind ?_)
    refine wpAny_isTrue_Compare1 ((rd_cell (by rfl) (by rfl) (by rfl) hcx (by decide)).go (fun _ _ e => e) ?_)
    refine wpAny_mono (ev_min (h := s₃.heap) (c := (L + 1 + 1 + 1 : Nat)) (t3 := tp) (c2 := c) (t2 := t) (av := x) (pv := p) (D := l) (vs := vs) (ps := ps) (y := Str.ofString "y") (x := Str.ofString "x") (r := Str.ofString "p") (pw := Str.ofString "powers")
      (cl := [(Str.ofString "x", c), (Str.ofString "p", (L + 1 + 1 + 1 : Nat))]) (by rfl) (fun _ _ e => e) (rd_builtin C.K T (fun b o e => kS b o (I.fr.keep b o e)) (by rfl) (by rfl) (by decide) (by rfl) (by rfl) (by rfl) (by rfl) (by decide))
      (rd_cell (by rfl) (by rfl) (by rfl) (hcellw.keeps kS) (by decide)) (let ⟨o, e, r⟩ := hl; ⟨o, kS _ _ e, r⟩) hi hne hlen (by rfl) (by decide) (by rfl) (by decide) (by rfl) (fun _ => by rfl) (by decide)
      (fun Cc hh hc => rd_cell (by rfl) (by rfl) (by rfl) hc (by decide)) (fun Cc hh hc => rd_cell (by rfl) (by rfl) (by rfl) hc (by decide)) (by omega) (by omega) (hcell.keeps kS) hcx (by rfl)) (fun v s' hv => ?_) fun _ _ z => z
    obtain ⟨⟨uu, rfl⟩, h', tk, rfl, hk'⟩ := hv
    refine PySem.P.eq_int (wpAny_truthy_bool ?_)
    exact wpAny_pure (wpAny_pure ⟨rfl, h', tk, rfl, hk'⟩)
  · exact (rd_cell (by rfl) (by rfl) (by rfl) hcx (by decide)).go (fun _ _ e => e) ⟨⟨_, rfl⟩, keeps_toks _ _⟩
  · exact hq D h₂ tk₂ us hl₂ (by rw [List.map_id'] at hi₂; exact hi₂) (list_off (ml := ml) ((I.fr.ns.keeps hk₁).keeps hk₂) hl₂) fun b o e => hk₂ b o (hk₁ b o e)
end
end Mine

namespace Mine
open PySem PySem.W PySem.Calls PyProof.Rows
set_option maxRecDepth 100000

section
variable {w : World} {g : Heap} {L fa : Nat} {os : OsState} {ml cm : Str → Option Value} {tb : Array Value} {s : Shared} {mg : Str → Option Value} {E : Value → Shared → Prop}

theorem lenE (C : LCtx w.params g L mg) (I : LS g L os ml cm tb s) {y : Str} {l : Nat} {vs : List Value} {xs : List Int} {p1 p2 p3 : Pos} (hl : s.heap.IsList l vs.toArray) (hi : IntsAre vs xs) (hlen : xs.length ≤ 4000) (ry : Rd (lenv L fa) s.heap y (.ref l)) (tk₀ : Nat) {Q E : Value → Shared → Prop}
    (hq : ∀ t tk, Q (.int xs.length t) { s with toks := tk }) : wpAny (model PySem.Challenge.pw_ij0068_01 w) (lA L fa) (eval (.Call (.Name (Str.ofString "len") p1) [.Name y p2] [] p3) (lenv L fa)) Q E { s with toks := tk₀ } := by
  have hvl : vs.length = xs.length := hi.length
  refine wpAny_Call_NameR ((I.bu C (y := Str.ofString "len") (v := .builtin "len") (by rfl) (by rfl) (by decide) (by rfl) (by decide)).go (fun _ _ e => e) ?_)
  refine callWith_builtin1 (wpAny_items_cons (ry.go (fun _ _ e => e) (wpAny_items_nil ?_)))
  refine call_len_list hl (by rw [List.size_toArray, hvl]; omega) ?_
  rw [List.size_toArray, hvl]
  exact hq _ _

theorem st17 (C : LCtx w.params g L mg) (I : LS g L os ml cm tb s) {p q a : Int} (N : Nums cm p q a) {l l' : Nat} {vs ws : List Value} {ps ls : List Int} (hcw : cm (Str.ofString "powers") = some (.ref l)) (hl : s.heap.IsList l vs.toArray) (hi : IntsAre vs ps) (hlen : ps.length ≤ 4000)
    (hml : ml (Str.ofString "least") = some (.ref l')) (hl' : s.heap.IsList l' ws.toArray) (hi' : IntsAre ws ls) (hlen' : ls.length ≤ 4000) (hlaw : (ls.length : Int) * ps.length = p - 1) : LGoal w g os L fa (lawBody.drop 17) s := by
  refine lgoal_cons 17 (by decide) ?_
  obtain ⟨tp, hcp⟩ := N.cp
  have rp : Rd (lenv L fa) s.heap (Str.ofString "p") (.int p tp) := I.rdc (by rfl) hcp (by rfl) (by decide)
  have rw' : Rd (lenv L fa) s.heap (Str.ofString "powers") (.ref l) := I.rdc (by rfl) hcw (by rfl) (by decide)
  have rl : Rd (lenv L fa) s.heap (Str.ofString "least") (.ref l') := I.loc hml (by rfl) (by decide)
  refine wpAny_Return_some (wpAny_Compare1 (wpAny_BinOp ?_))
  refine lenE C I hl' hi' hlen' rl s.toks fun t1 tk1 => ?_
  refine lenE C I hl hi hlen rw' tk1 fun t2 tk2 => ?_
  refine PySem.P.mul_int ?_ (IntMulOk.of_left (bits_small (by omega)))
  refine wpAny_BinOp (rp.go (fun _ _ e => e) (wpAny_Constant_int (PySem.P.sub_int (PySem.P.eq_int ?_))))
  rw [hlaw]
  exact ⟨by simp, I.fr.keep, I.os, I.gens, tb, I.tab⟩

/-- the plain law -/
structure PlainLaw (p q a : Int) : Prop where
  keyed : ded (fun x => (x * x).fmod p) [] (intsR 0 p) = intsR 0 ((p + 1).fdiv 2)
  sqP : ded (fun x => x) [] (sqs p p) = sqs p ((p + 1).fdiv 2)
  sqQ : ded (fun x => x) [] (sqs q q) = sqs q ((q + 1).fdiv 2)
  gauss : ((sqs p ((p + 1).fdiv 2)).any (· == q.fmod p) == (sqs q ((q + 1).fdiv 2)).any (· == p.fmod q)) = (p.fmod 4 == 1 || q.fmod 4 == 1)
  euler : (sqs p ((p + 1).fdiv 2)).any (· == a) = ((a ^ ((p - 1).fdiv 2).toNat).fmod p == 1)
  pow : ded (fun x => x) [] (pows a p p) = pows a p (ded (fun x => x) [] (pows a p p)).length
  powLen : 0 < (ded (fun x => x) [] (pows a p p)).length ∧ (ded (fun x => x) [] (pows a p p)).length ≤ 23
  one : (a ^ (ded (fun x => x) [] (pows a p p)).length).fmod p = 1
  least : ded (leastOf (ded (fun x => x) [] (pows a p p)) p) [] (intsR 1 p) = (intsR 1 p).filter fun x => x == leastOf (ded (fun x => x) [] (pows a p p)) p x
  count : ((ded (leastOf (ded (fun x => x) [] (pows a p p)) p) [] (intsR 1 p)).length : Int) * (ded (fun x => x) [] (pows a p p)).length = p - 1

theorem walk6 (PL : ∀ p q a : Int, p ∈ P8 → q ∈ P8 → q ≠ p → 1 ≤ a → a ≤ p - 1 → PlainLaw p q a) : Walk6 := by
  intro w g L fa os s mg ml cm p q a C I N
  have P := PL p q a N.hp N.hq N.ne N.a1 N.a2
  have hs := P8_small p N.hp
  refine st6 C I N P.keyed fun s₁ c1 I₁ => ?_
  refine st7 C I₁ N fun s₂ ml₂ l₂ vs₂ I₂ hml₂ hl₂ hi₂ => ?_
  rw [P.sqP] at hi₂
  refine st8 C I₂ N hml₂ hl₂ hi₂ fun s₃ I₃ k₃ => ?_
  have hl₃ : s₃.heap.IsList l₂ vs₂.toArray := let ⟨o, e, r⟩ := hl₂; ⟨o, k₃ _ _ e, r⟩
  refine st9 C I₃ N fun s₄ ml₄ l₄ vs₄ I₄ hm₄ hml₄ hl₄ hi₄ k₄ => ?_
  rw [P.sqQ] at hi₄
  have hl₃' : s₄.heap.IsList l₂ vs₂.toArray := let ⟨o, e, r⟩ := hl₃; ⟨o, k₄ _ _ (list_off I₃.fr.ns hl₃) (tab_off I₃.tab hl₃) e, r⟩
  have hml₂' : ml₄ (Str.ofString "squares") = some (.ref l₂) := (hm₄ _ (by decide)).trans hml₂
  refine st10 C I₄ N hml₄ hl₄ hi₄ fun s₅ I₅ k₅ => ?_
  have hl₅ : s₅.heap.IsList l₂ vs₂.toArray := let ⟨o, e, r⟩ := hl₃'; ⟨o, k₅ _ _ e, r⟩
  have hl₅' : s₅.heap.IsList l₄ vs₄.toArray := let ⟨o, e, r⟩ := hl₄; ⟨o, k₅ _ _ e, r⟩
  refine st11 C I₅ N hml₂' hl₅ hi₂ hml₄ hl₅' hi₄ P.gauss fun s₆ I₆ k₆ => ?_
  have hl₆ : s₆.heap.IsList l₂ vs₂.toArray := let ⟨o, e, r⟩ := hl₅; ⟨o, k₆ _ _ e, r⟩
  refine st12 C I₆ N hml₂' hl₆ hi₂ P.euler fun s₇ I₇ k₇ => ?_
  refine st13 C I₇ N fun s₈ cm₈ l₈ vs₈ I₈ N₈ hcw hl₈ hi₈ => ?_
  have hpl := P.powLen
  refine st14 C I₈ N₈ hcw hl₈ hi₈ P.pow hpl.2 P.one fun s₉ I₉ k₉ => ?_
  have hl₉ : s₉.heap.IsList l₈ vs₈.toArray := let ⟨o, e, r⟩ := hl₈; ⟨o, k₉ _ _ e, r⟩
  refine st15 C I₉ N₈ hcw hl₉ hi₈ hpl.1 (by omega) fun s₁₀ ml₁₀ tb₁₀ l₁₀ ws I₁₀ hl₁₀ hml₁₀ hlw hiw => ?_
  have hiw' := hiw
  rw [P.least] at hiw'
  refine st16 C I₁₀ N₈ hcw hl₁₀ hi₈ hpl.1 (by omega) hml₁₀ hlw hiw' fun s₁₁ I₁₁ k₁₁ => ?_
  refine st17 C I₁₁ N₈ hcw (let ⟨o, e, r⟩ := hl₁₀; ⟨o, k₁₁ _ _ e, r⟩) hi₈ (by omega) hml₁₀ (let ⟨o, e, r⟩ := hlw; ⟨o, k₁₁ _ _ e, r⟩) hiw ?_ P.count
  have := ded_length (leastOf (ded (fun x => x) [] (pows a p p)) p) (intsR 1 p) []
  rw [intsR_length] at this
  omega
end
end Mine

namespace Mine
open PySem PySem.W PySem.Calls PyProof.Rows
set_option maxRecDepth 100000

def chkP (p : Int) : Bool := decide (ded (fun x => (x * x).fmod p) [] (intsR 0 p) = intsR 0 ((p + 1).fdiv 2)) && decide (ded (fun x => x) [] (sqs p p) = sqs p ((p + 1).fdiv 2))
def chkG (p q : Int) : Bool := (((sqs p ((p + 1).fdiv 2)).any (· == q.fmod p) == (sqs q ((q + 1).fdiv 2)).any (· == p.fmod q)) == (p.fmod 4 == 1 || q.fmod 4 == 1))
def chkE (p a : Int) : Bool := ((sqs p ((p + 1).fdiv 2)).any (· == a) == ((a ^ ((p - 1).fdiv 2).toNat).fmod p == 1))
def chkW (p a : Int) (pw : List Int) : Bool := decide (ded (fun x => x) [] (pows a p p) = pw) && decide (pw = pows a p pw.length) && decide (0 < pw.length) && decide (pw.length ≤ 23) && decide ((a ^ pw.length).fmod p = 1)
def chkL (p : Int) (pw ls : List Int) : Bool := decide (ded (leastOf pw p) [] (intsR 1 p) = ls) && decide ((intsR 1 p).filter (fun x => x == leastOf pw p x) = ls) && decide ((ls.length : Int) * pw.length = p - 1)

theorem okP : P8.all chkP = true := by decide +kernel
theorem okG : P8.all (fun p => P8.all fun q => q == p || chkG p q) = true := by decide +kernel
theorem okE : P8.all (fun p => (intsR 1 p).all (chkE p)) = true := by decide +kernel

def pwOf (p a : Int) : List Int := ded (fun x => x) [] (pows a p p)
def lsOf (p a : Int) : List Int := ded (leastOf (pwOf p a) p) [] (intsR 1 p)
theorem okW : P8.all (fun p => (intsR 1 p).all fun a => chkW p a (pwOf p a)) = true := by decide +kernel
theorem okL5 : (intsR 1 5).all (fun a => chkL 5 (pwOf 5 a) (lsOf 5 a)) = true := by decide +kernel
theorem okL7 : (intsR 1 7).all (fun a => chkL 7 (pwOf 7 a) (lsOf 7 a)) = true := by decide +kernel
theorem okL11 : (intsR 1 11).all (fun a => chkL 11 (pwOf 11 a) (lsOf 11 a)) = true := by decide +kernel
theorem okL3 : (intsR 1 3).all (fun a => chkL 3 (pwOf 3 a) (lsOf 3 a)) = true := by decide +kernel
theorem okL13 : (intsR 1 13).all (fun a => chkL 13 (pwOf 13 a) (lsOf 13 a)) = true := by decide +kernel
theorem okL17 : (intsR 1 17).all (fun a => chkL 17 (pwOf 17 a) (lsOf 17 a)) = true := by decide +kernel
theorem okL19 : (intsR 1 19).all (fun a => chkL 19 (pwOf 19 a) (lsOf 19 a)) = true := by decide +kernel
theorem okL23 : (intsR 1 23).all (fun a => chkL 23 (pwOf 23 a) (lsOf 23 a)) = true := by decide +kernel

theorem intsR_mem {lo hi x : Int} (h0 : lo ≤ x) (h1 : x < hi) : x ∈ intsR lo hi := by
  unfold intsR
  exact List.mem_map.mpr ⟨(x - lo).toNat, List.mem_range.mpr (by omega), by omega⟩

theorem okL (p : Int) (hp : p ∈ P8) (a : Int) (ha : a ∈ intsR 1 p) : chkL p (pwOf p a) (lsOf p a) = true := by
  simp only [P8, List.mem_cons, List.not_mem_nil, or_false] at hp
  rcases hp with rfl | rfl | rfl | rfl | rfl | rfl | rfl | rfl
  · exact List.all_eq_true.mp okL3 a ha
  · exact List.all_eq_true.mp okL5 a ha
  · exact List.all_eq_true.mp okL7 a ha
  · exact List.all_eq_true.mp okL11 a ha
  · exact List.all_eq_true.mp okL13 a ha
  · exact List.all_eq_true.mp okL17 a ha
  · exact List.all_eq_true.mp okL19 a ha
  · exact List.all_eq_true.mp okL23 a ha

theorem plain (p q a : Int) (hp : p ∈ P8) (hq : q ∈ P8) (hne : q ≠ p) (h1 : 1 ≤ a) (h2 : a ≤ p - 1) : PlainLaw p q a := by
  have ha : a ∈ intsR 1 p := intsR_mem h1 (by omega)
  have cp := List.all_eq_true.mp okP p hp
  have cq := List.all_eq_true.mp okP q hq
  have cg := List.all_eq_true.mp (List.all_eq_true.mp okG p hp) q hq
  have ce := List.all_eq_true.mp (List.all_eq_true.mp okE p hp) a ha
  have cw := List.all_eq_true.mp (List.all_eq_true.mp okW p hp) a ha
  have cl := okL p hp a ha
  simp only [chkP, Bool.and_eq_true, decide_eq_true_eq] at cp cq
  simp only [chkG, Bool.or_eq_true, beq_iff_eq] at cg
  simp only [chkE, beq_iff_eq] at ce
  simp only [chkW, Bool.and_eq_true, decide_eq_true_eq] at cw
  simp only [chkL, Bool.and_eq_true, decide_eq_true_eq] at cl
  obtain ⟨⟨⟨⟨w1, w2⟩, w3⟩, w4⟩, w5⟩ := cw
  obtain ⟨⟨l1, l2⟩, l3⟩ := cl
  have cg' := cg.resolve_left hne
  exact ⟨cp.1, cp.2, cq.2, cg', ce, w2, ⟨w3, w4⟩, w5, l2.symm, l3⟩
end Mine

theorem PySem.Challenge.cw_ij0068_01_holds : PySem.Challenge.rw_ij0068_01.Holds := by
  exact Mine.law_head (Mine.walk0 (Mine.walk6 Mine.plain))
