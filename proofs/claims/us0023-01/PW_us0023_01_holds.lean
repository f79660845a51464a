import PyProof.Rows.All
import Wide.All
import OpenK.AllK
import Wide.FinOn
import KE.KRevSl
import KE.IntBitsLaws
import KE.BitLaws
import KE.KBytesWalk
import KE.KDictIter
import KE.KBytesAny
import KE.KRevIter
import Lean
import PySem.Challenge.RW_us0023_01
open PySem PySem.W PyProof.Rows PySem.Calls
set_option Elab.async false
set_option linter.unusedVariables false
set_option maxRecDepth 100000
set_option maxHeartbeats 0
set_option rowWalk.seconds 0
namespace Mine
section --Ev

noncomputable def Ev (pr : Program) (w : World) (n₀ : Nat) (ann : Option Value) (c : Code) (B : List Frame) {α : Type} (n : Nat) (t : Sem α) (s : Shared) (p : Pos) (a : α) (s' : Shared) (p' : Pos) : Prop :=
  ∀ (K : α → Sem Fin) (H : Value → Sem Fin) (gd : Bool → Bool) (lv : List Value → List Value) (N : Nat) (r : Shared),
    topRun treeTable pr w n₀ ann N s' ⟨K a, c, p', B⟩ = some r → topRun treeTable pr w n₀ ann (N + n) s ⟨t.wrap K H gd lv, c, p, B⟩ = some r

section
variable {pr : Program} {w : World} {n₀ : Nat} {ann : Option Value} {c : Code} {f : Frame} {B : List Frame} {α β : Type} {s s₁ s' : Shared} {p p₁ p' : Pos} {n k : Nat}
theorem Ev.pure (a : α) : Ev pr w n₀ ann c B 0 (Pure.pure a) s p a s p := fun _ _ _ _ _ _ h => h
theorem Ev.bind {m : Sem α} {g : α → Sem β} {a : α} {b : β} (x : Ev pr w n₀ ann c B n m s p a s₁ p₁) (y : Ev pr w n₀ ann c B k (g a) s₁ p₁ b s' p') :
    Ev pr w n₀ ann c B (k + n) (m >>= g) s p b s' p' := fun K H gd lv N r h => by
  have e : (m >>= g).wrap K H gd lv = m.wrap (fun a => (g a).wrap K H gd lv) H gd lv := by
    rw [Sem.bind_eq_wrap', Sem.wrap_wrap]; rfl
  rw [e, ← Nat.add_assoc]
  exact x _ _ _ _ _ _ (y _ _ _ _ _ _ h)
theorem Ev.keep {m : Sem α} {a : α} (vs : List Value) (x : Ev pr w n₀ ann c B n m s p a s' p') : Ev pr w n₀ ann c B n (m.keep vs) s p a s' p' := fun K H gd lv N r h => by
  rw [Sem.keep_eq_wrap, Sem.wrap_wrap]
  exact x _ _ _ _ _ _ h
theorem Ev.holding {m : Sem α} {a : α} (vs : List Value) (x : Ev pr w n₀ ann c B n m s p a s' p') : Ev pr w n₀ ann c B n (holding vs m) s p a s' p' := by
  unfold PySem.holding
  split
  · exact x
  · exact x.keep _
theorem Ev.onRaise {m : Sem α} {a : α} (h : Value → Sem Unit) (x : Ev pr w n₀ ann c B n m s p a s' p') : Ev pr w n₀ ann c B n (m.onRaise h) s p a s' p' := fun K H gd lv N r hh => by
  rw [Sem.onRaise_eq_wrap, Sem.wrap_wrap]
  exact x _ _ _ _ _ _ hh
theorem Ev.more {t : Sem α} {a : α} (x : Ev pr w n₀ ann c B n t s p a s' p') (h : n ≤ k) : Ev pr w n₀ ann c B k t s p a s' p' := fun K H gd lv N r hh => by
  have := topRun_mono (k - n) _ _ _ _ (x K H gd lv N r hh)
  rwa [show N + n + (k - n) = N + k by omega] at this

theorem Ev.load {a : Addr} {part : Option Value} {g : Obj → Sem α} {o : Obj} {b : α} (ho : s.heap.get? a = some o) (x : Ev pr w n₀ ann c (f :: B) n (g o) s p b s' p') :
    Ev pr w n₀ ann c (f :: B) (n + 1) (.load a part g) s p b s' p' := fun K H gd lv N r h => by
  obtain ⟨heap, gens, drawn, toks, os⟩ := s
  show (match step (denote treeTable) pr w ⟨heap, gens, drawn, toks, os⟩ ⟨.load a part fun x => (g x).wrap K H gd lv, c, p, f :: B⟩ with
    | .go s' t' => topRun treeTable pr w n₀ ann (N + n) s' t'
    | .halt _ _ => none) = some r
  have : step (denote treeTable) pr w ⟨heap, gens, drawn, toks, os⟩ ⟨.load a part fun x => (g x).wrap K H gd lv, c, p, f :: B⟩ = .go ⟨heap, gens, drawn, toks, os⟩ ⟨(g o).wrap K H gd lv, c, p, f :: B⟩ := by
    simp only [step]; rw [show heap.get? a = some o from ho]
  rw [this]
  exact x _ _ _ _ _ _ h
theorem Ev.update {a : Addr} {part : Option Value} {u : Obj → Obj} {g : Unit → Sem α} {b : α} (ha : Nat.ble n₀ a = true) (hs : (s.heap.get? a).isSome = true)
    (x : Ev pr w n₀ ann c (f :: B) n (g ()) { s with heap := s.heap.update a u } p b s' p') :
    Ev pr w n₀ ann c (f :: B) (n + 1) (.update a part u g) s p b s' p' := fun K H gd lv N r h => by
  obtain ⟨heap, gens, drawn, toks, os⟩ := s
  have ok : stepOk n₀ ann ⟨.update a part u fun x => (g x).wrap K H gd lv, c, p, f :: B⟩ = true := by
    show (_ && (Nat.ble n₀ a || a == mainNs || a == cStatics || ann == some (.ref a))) = true
    rw [ha]; rfl
  show (match stepOk n₀ ann ⟨.update a part u fun x => (g x).wrap K H gd lv, c, p, f :: B⟩ with
    | false => none
    | true => match step (denote treeTable) pr w ⟨heap, gens, drawn, toks, os⟩ ⟨.update a part u fun x => (g x).wrap K H gd lv, c, p, f :: B⟩ with
      | .go s' t' => topRun treeTable pr w n₀ ann (N + n) s' t'
      | .halt _ _ => none) = some r
  rw [ok]
  have : step (denote treeTable) pr w ⟨heap, gens, drawn, toks, os⟩ ⟨.update a part u fun x => (g x).wrap K H gd lv, c, p, f :: B⟩ = .go ⟨heap.update a u, gens, drawn, toks, os⟩ ⟨(g ()).wrap K H gd lv, c, p, f :: B⟩ := by
    simp only [step]; rw [if_pos (show (heap.get? a).isSome = true from hs)]
  rw [this]
  exact x _ _ _ _ _ _ h
theorem Ev.alloc {o : Obj} {g : Addr → Sem α} {b : α} (x : Ev pr w n₀ ann c (f :: B) n (g s.heap.objs.size) { s with heap := s.heap.push o } p b s' p') :
    Ev pr w n₀ ann c (f :: B) (n + 1) (.alloc o g) s p b s' p' := fun K H gd lv N r h => x _ _ _ _ _ _ h
theorem Ev.rule {tag : String} {g : Unit → Sem α} {b : α} (x : Ev pr w n₀ ann c (f :: B) n (g ()) s p b s' p') :
    Ev pr w n₀ ann c (f :: B) (n + 1) (.rule tag g) s p b s' p' := fun K H gd lv N r h => x _ _ _ _ _ _ h
theorem Ev.at {q : Pos} {g : Unit → Sem α} {b : α} (x : Ev pr w n₀ ann c (f :: B) n (g ()) s q b s' p') :
    Ev pr w n₀ ann c (f :: B) (n + 1) (.at q g) s p b s' p' := fun K H gd lv N r h => x _ _ _ _ _ _ h
theorem Ev.fresh {g : Tok → Sem α} {b : α} (x : Ev pr w n₀ ann c (f :: B) n (g s.toks) { s with toks := s.toks + 1 } p b s' p') :
    Ev pr w n₀ ann c (f :: B) (n + 1) (.fresh g) s p b s' p' := fun K H gd lv N r h => x _ _ _ _ _ _ h
theorem Ev.point {l : List Value} {g : Unit → Sem α} {b : α} (x : Ev pr w n₀ ann c (f :: B) n (g ()) s p b s' p') :
    Ev pr w n₀ ann c (f :: B) (n + 1) (.point l g) s p b s' p' := fun K H gd lv N r h => x _ _ _ _ _ _ h
end

end
section --Ev2

section
variable {pr : Program} {w : World} {n₀ : Nat} {ann : Option Value} {c : Code} {f : Frame} {B : List Frame} {α β : Type} {s s₁ s' : Shared} {p p₁ p' : Pos} {n k : Nat}
theorem hash_t (i : Int) (t : Tok) (heap : Heap) (gens : Array GenState) (drawn : Drawn) (toks : Nat) (os : OsState) (K : Int → Sem Fin) (H : Value → Sem Fin) (gd : Bool → Bool) (lv : List Value → List Value) (N : Nat) :
    topRun treeTable pr (w.withFollow "special-get-raises" true) n₀ ann (N + 5) ⟨heap, gens, drawn, toks, os⟩ ⟨(pyHash (.int i t)).wrap K H gd lv, c, p, f :: B⟩ =
    topRun treeTable pr (w.withFollow "special-get-raises" true) n₀ ann N ⟨heap, gens, drawn, toks + 1, os⟩ ⟨(pyHashByItsType.reduced (rawHash i)).wrap K H gd lv, c, p, f :: B⟩ := by
  kernel_rfl
theorem hash_f (i : Int) (t : Tok) (heap : Heap) (gens : Array GenState) (drawn : Drawn) (toks : Nat) (os : OsState) (K : Int → Sem Fin) (H : Value → Sem Fin) (gd : Bool → Bool) (lv : List Value → List Value) (N : Nat) :
    topRun treeTable pr (w.withFollow "special-get-raises" false) n₀ ann (N + 5) ⟨heap, gens, drawn, toks, os⟩ ⟨(pyHash (.int i t)).wrap K H gd lv, c, p, f :: B⟩ =
    topRun treeTable pr (w.withFollow "special-get-raises" false) n₀ ann N ⟨heap, gens, drawn, toks + 1, os⟩ ⟨(pyHashByItsType.reduced (rawHash i)).wrap K H gd lv, c, p, f :: B⟩ := by
  kernel_rfl
theorem Ev.hash (i : Int) (t : Tok) : Ev pr w n₀ ann c (f :: B) 5 (pyHash (.int i t)) s p (hashInt i) { s with toks := s.toks + 1 } p := fun K H gd lv N r h => by
  have hr := rawHash_range i
  have e : (pyHashByItsType.reduced (rawHash i)).wrap K H gd lv = K (hashInt i) := by
    unfold pyHashByItsType.reduced
    rw [if_pos (by rw [decide_eq_true hr.1, decide_eq_true hr.2]; rfl)]
    rfl
  obtain ⟨heap, gens, drawn, toks, os⟩ := s
  have z := World.withFollow_self w "special-get-raises"
  rw [← e] at h
  cases hb : w.params.followText "special-get-raises" <;> rw [hb] at z <;> rw [← z] at h ⊢
  · rw [hash_f]; exact h
  · rw [hash_t]; exact h
theorem dict_isD {es : Array DictEntry} {ep : Nat} {sl : Array (Option Value)} : (⟨.type "dict", none, .dict es ep, sl⟩ : Obj).isFreed = false := rfl
theorem Ev.find {d : Addr} {i : Int} {t : Tok} {h : Int} {o : Obj} {es : Array DictEntry} {ep : Nat} (ho : s.heap.get? d = some o) (hd : o.data = .dict es ep) (hn : ∀ e ∈ es, e.hash ≠ h) :
    Ev pr w n₀ ann c (f :: B) 1 (dictFind d (.int i t) h) s p none s p := by
  have hp : placesWithHash es.size (fun i => es[i]?.map (·.hash)) h = [] := by
    unfold placesWithHash
    rw [List.filter_eq_nil_iff]
    intro j hj q
    have hj' : j < es.size := List.mem_range.mp hj
    dsimp only at q
    rw [Array.getElem?_eq_getElem hj'] at q
    exact hn _ (Array.getElem_mem hj') (by simpa using q)
  unfold dictFind
  refine Ev.holding _ ?_
  refine Ev.bind (n := 1) (k := 0) (a := es) (s₁ := s) (p₁ := p) ?_ ?_
  · refine Ev.load ho ?_
    show Ev _ _ _ _ _ _ 0 (match o.data with | .dict es _ => (Pure.pure es : Sem (Array DictEntry)) | _ => unsupported "internal:not-a-dict") _ _ _ _ _
    rw [hd]; exact Ev.pure _
  · dsimp only
    rw [hp]
    exact Ev.pure _
theorem Ev.push {d : Addr} {part : Option Value} {e : DictEntry} {es : Array DictEntry} {ep : Nat} {cl : Value} {di : Option Addr} {sl : Array (Option Value)} (ho : s.heap.get? d = some ⟨cl, di, .dict es ep, sl⟩) (hd : Nat.ble n₀ d = true) (hz : es.size < 1000) :
    Ev pr w n₀ ann c (f :: B) 3 (updateDictKeys d (·.push e) part) s p () { s with heap := s.heap.update d (Obj.mapDictKeys (·.push e)) } p := by
  have hg := Heap.get?_update_self (Obj.mapDictKeys (·.push e)) ho (by rfl)
  refine Ev.load ho ?_
  refine Ev.update hd (by rw [ho]; rfl) ?_
  refine Ev.load hg ?_
  show Ev _ _ _ _ _ _ 0 ((match (Obj.mapDictKeys (·.push e) ⟨cl, di, .dict es ep, sl⟩).data.pastItsLine with | some what => unsupported what | _ => (Pure.pure () : Sem Unit)) : Sem Unit) _ _ _ _ _
  rw [show (Obj.mapDictKeys (·.push e) ⟨cl, di, .dict es ep, sl⟩).data.pastItsLine = none from pastItsLine_dict (by rw [Array.size_push, sizeLine_eq]; omega)]
  exact Ev.pure _
end

end
section --Ev3

noncomputable abbrev dO (es : List DictEntry) (n : Nat) : Obj := ⟨.type "dict", none, .dict es.toArray n, #[]⟩
noncomputable def mkH (pre : List Obj) (m : Obj) (post : List Obj) (l : Life) : Heap := ⟨(pre ++ m :: post).toArray, l⟩
section
variable {pre post : List Obj} {m o : Obj} {l : Life} {u : Obj → Obj}
theorem mkH_get (h : m.isFreed = false) : (mkH pre m post l).get? pre.length = some m := by
  refine Heap.get?_some_iff.mpr ⟨?_, h⟩
  simp [mkH]
theorem mkH_upd : (mkH pre m post l).update pre.length u = mkH pre (u m) post l := by
  unfold mkH Heap.update
  simp only [List.modify_toArray]
  congr 2
  induction pre with
  | nil => rfl
  | cons a r ih => simp only [List.cons_append, List.length_cons, List.modify_succ_cons]; exact congrArg _ ih
theorem mkH_push : (mkH pre m post l).push o = mkH pre m (post ++ [o]) l := by
  simp [mkH, Heap.push]
theorem mkH_one : (Heap.push ⟨pre.toArray, l⟩ o) = mkH pre o [] l := by
  simp [mkH, Heap.push]
theorem mkH_sub : mkH pre m (post ++ [o]) l = mkH (pre ++ m :: post) o [] l := by
  simp [mkH]
theorem mkH_size : (mkH pre m post l).objs.size = pre.length + 1 + post.length := by
  simp [mkH]; (first | lia | omega)
end

noncomputable def entsOf (T : Nat) : List (Int × Str) → List DictEntry
  | [] => []
  | (i, v) :: r => ⟨i, .int i T, .str v (T + 1)⟩ :: entsOf (T + 3) r
noncomputable def asc (lo : Int) : List (Int × Str) → Bool
  | [] => true
  | (i, _) :: r => decide (lo < i) && decide (i < 1000000) && asc i r
theorem hashInt_small {i : Int} (h0 : 0 ≤ i) (h1 : i < 1000000) : hashInt i = i := by
  have e : rawHash i = i := by
    unfold rawHash
    have h2 : ((i.natAbs % (2 ^ 61 - 1) : Nat) : Int) = i := by rw [Nat.mod_eq_of_lt (by (first | lia | omega))]; (first | lia | omega)
    show (if ((if i < 0 then -((i.natAbs % (2 ^ 61 - 1) : Nat) : Int) else ((i.natAbs % (2 ^ 61 - 1) : Nat) : Int)) == -1) = true then (-2 : Int) else _) = i
    rw [h2, if_neg (show ¬ i < 0 by (first | lia | omega)), if_neg (by simp; (first | lia | omega)), if_neg (show ¬ i < 0 by (first | lia | omega))]
    exact h2
  unfold hashInt
  rw [e, if_neg (by simp; (first | lia | omega))]
section
variable {pr : Program} {w : World} {n₀ : Nat} {ann : Option Value} {c : Code} {f : Frame} {B : List Frame} {α β : Type} {p q : Pos} {n k : Nat} {pre post : List Obj} {l : Life}
  {gens : Array GenState} {drawn : Drawn} {toks : Nat} {os : OsState}

theorem dict_push (es : List DictEntry) (k : Nat) (e : DictEntry) : Obj.mapDictKeys (·.push e) (dO es k) = dO (es ++ [e]) (k + 1) := by
  show (⟨.type "dict", none, .dict (es.toArray.push e) (k + 1), #[]⟩ : Obj) = _
  rw [List.push_toArray]

theorem ev_push {d : Addr} {part : Option Value} {e : DictEntry} {es : List DictEntry} {k : Nat} (hd : d = pre.length) (h0 : Nat.ble n₀ pre.length = true) (hz : es.length < 1000) :
    Ev pr w n₀ ann c (f :: B) 3 (updateDictKeys d (·.push e) part) ⟨mkH pre (dO es k) post l, gens, drawn, toks, os⟩ p () ⟨mkH pre (dO (es ++ [e]) (k + 1)) post l, gens, drawn, toks, os⟩ p := by
  subst hd
  have x := Ev.push (pr := pr) (w := w) (ann := ann) (c := c) (f := f) (B := B) (p := p) (part := part) (e := e) (s := ⟨mkH pre (dO es k) post l, gens, drawn, toks, os⟩) (mkH_get (m := dO es k) rfl) h0 (by simpa using hz)
  rw [mkH_upd, dict_push] at x
  exact x
theorem ev_put {d : Addr} {i : Int} {t : Tok} {h : Int} {v : Value} {es : List DictEntry} {k : Nat} (hd : d = pre.length) (h0 : Nat.ble n₀ pre.length = true) (hz : es.length < 1000) (hn : ∀ e ∈ es, e.hash ≠ h) :
    Ev pr w n₀ ann c (f :: B) 4 (dictPut d h (.int i t) v) ⟨mkH pre (dO es k) post l, gens, drawn, toks, os⟩ p () ⟨mkH pre (dO (es ++ [⟨h, .int i t, v⟩]) (k + 1)) post l, gens, drawn, toks, os⟩ p := by
  subst hd
  exact Ev.bind (n := 1) (k := 3) (Ev.find (es := es.toArray) (mkH_get rfl) rfl (by simpa using hn)) (ev_push rfl h0 hz)
theorem ev_set {d : Addr} {i : Int} {t : Tok} {v : Value} {es : List DictEntry} {k : Nat} (hd : d = pre.length) (h0 : Nat.ble n₀ pre.length = true) (hz : es.length < 1000) (i0 : 0 ≤ i) (i1 : i < 1000000) (hn : ∀ e ∈ es, e.hash ≠ i) :
    Ev pr w n₀ ann c (f :: B) 10 (dictSet d (.int i t) v) ⟨mkH pre (dO es k) post l, gens, drawn, toks, os⟩ p () ⟨mkH pre (dO (es ++ [⟨i, .int i t, v⟩]) (k + 1)) post l, gens, drawn, toks + 1, os⟩ p := by
  subst hd
  unfold dictSet
  refine Ev.holding _ (Ev.bind (n := 5) (k := 5) (Ev.hash i t) ?_)
  rw [hashInt_small i0 i1]
  unfold dictSetHashed
  refine Ev.holding _ (Ev.bind (n := 1) (k := 4) (Ev.find (es := es.toArray) (mkH_get rfl) rfl (by simpa using hn)) ?_)
  exact Ev.rule (ev_push rfl h0 hz)

theorem Ev.ends {m : Sem α} {s s' : Shared} {p p' : Pos} {a : α} (h : α → β) (x : Ev pr w n₀ ann c B n m s p a s' p') : Ev pr w n₀ ann c B n (m >>= fun y => Pure.pure (h y)) s p (h a) s' p' := by
  have := Ev.bind (g := fun y => Pure.pure (h y)) (k := 0) x (Ev.pure (h a))
  rwa [Nat.zero_add] at this
noncomputable def keyT (env : Env) (x : Int × Str) : Sem Value := constValue env (.int x.1)
noncomputable def valT (env : Env) (q : Pos) (x : Int × Str) : Sem Value := do let y ← constValue env (.str x.2); standAt q; pure y
theorem ev_key {env : Env} {x : Int × Str} {s : Shared} : Ev pr w n₀ ann c (f :: B) 1 (keyT env x) s p (.int x.1 s.toks) { s with toks := s.toks + 1 } p := Ev.fresh (Ev.pure _)
theorem ev_val {env : Env} {x : Int × Str} {s : Shared} : Ev pr w n₀ ann c (f :: B) 2 (valT env q x) s p (.str x.2 s.toks) { s with toks := s.toks + 1 } q := Ev.fresh (Ev.at (Ev.pure _))

theorem asc_cons {lo i : Int} {v : Str} {r : List (Int × Str)} (h : asc lo ((i, v) :: r) = true) : lo < i ∧ i < 1000000 ∧ asc i r = true := by
  simp only [asc, Bool.and_eq_true, decide_eq_true_eq] at h
  exact ⟨h.1.1, h.1.2, h.2⟩
theorem ev_fill (env : Env) {d : Addr} (hd : d = pre.length) (h0 : Nat.ble n₀ pre.length = true) : ∀ (kvs : List (Int × Str)) (es : List DictEntry) (lo : Int) (toks : Nat), 0 ≤ lo → (∀ e ∈ es, e.hash ≤ lo) → asc lo kvs = true → es.length + kvs.length ≤ 900 →
    Ev pr w n₀ ann c (f :: B) (13 * kvs.length) (forIn (kvs.map fun x => (keyT env x, valT env q x)) PUnit.unit fun (x : Sem Value × Sem Value) (_ : PUnit) => (do let kv ← x.1; let vv ← holding [kv] x.2; holding [kv, vv] (dictSet d kv vv); pure (ForInStep.yield PUnit.unit) : Sem (ForInStep PUnit)))
      ⟨mkH pre (dO es es.length) post l, gens, drawn, toks, os⟩ q PUnit.unit ⟨mkH pre (dO (es ++ entsOf toks kvs) (es.length + kvs.length)) post l, gens, drawn, toks + 3 * kvs.length, os⟩ q
  | [], es, lo, toks, _, _, _, _ => by
    simp only [List.map_nil, List.forIn_nil, entsOf, List.append_nil, List.length_nil, Nat.mul_zero, Nat.add_zero]
    exact Ev.pure _
  | (i, v) :: r, es, lo, toks, l0, hlo, ha, hz => by
    obtain ⟨a1, a2, a3⟩ := asc_cons ha
    simp only [List.length_cons] at hz
    have hn : ∀ e ∈ es, e.hash ≠ i := fun e he q => by have := hlo e he; (first | lia | omega)
    have ih := ev_fill env hd h0 r (es ++ [⟨i, .int i toks, .str v (toks + 1)⟩]) i (toks + 3) (by (first | lia | omega)) (fun e he => by
      rcases List.mem_append.mp he with he | he
      · have := hlo e he; (first | lia | omega)
      · rw [List.mem_singleton.mp he]; exact Int.le_refl _) a3 (by simp only [List.length_append, List.length_cons, List.length_nil]; (first | lia | omega))
    simp only [List.map_cons, List.forIn_cons]
    have e1 : (es ++ [⟨i, .int i toks, .str v (toks + 1)⟩]) ++ entsOf (toks + 3) r = es ++ entsOf toks ((i, v) :: r) := by simp [entsOf]
    have e2 : (es ++ [(⟨i, .int i toks, .str v (toks + 1)⟩ : DictEntry)]).length + r.length = es.length + ((i, v) :: r).length := by simp; (first | lia | omega)
    have e3 : toks + 3 + 3 * r.length = toks + 3 * ((i, v) :: r).length := by simp; (first | lia | omega)
    rw [e1, e2, e3] at ih
    have e4 : (es ++ [(⟨i, .int i toks, .str v (toks + 1)⟩ : DictEntry)]).length = es.length + 1 := by simp
    rw [e4] at ih
    rw [show 13 * ((i, v) :: r).length = 13 * r.length + 13 by simp; (first | lia | omega)]
    refine Ev.bind (n := 13) (k := 13 * r.length) (a := ForInStep.yield PUnit.unit) ?_ ih
    refine Ev.bind (n := 1) (k := 12) ev_key ?_
    refine Ev.bind (n := 2) (k := 10) (Ev.holding _ ev_val) ?_
    exact Ev.ends (fun _ => ForInStep.yield PUnit.unit) (Ev.holding _ (ev_set hd h0 (by (first | lia | omega)) (by (first | lia | omega)) a2 hn))

theorem ev_sub_long (env : Env) (h0 : Nat.ble n₀ pre.length = true) (kvs : List (Int × Str)) (lo : Int) (l0 : 0 ≤ lo) (ha : asc lo kvs = true) (hz : kvs.length ≤ 900) (hk : 16 ≤ kvs.length) :
    Ev pr w n₀ ann c (f :: B) (13 * kvs.length + 2) (subDict (kvs.map fun x => (keyT env x, valT env q x))) ⟨⟨pre.toArray, l⟩, gens, drawn, toks, os⟩ q pre.length
      ⟨mkH pre (dO (entsOf toks kvs) kvs.length) [] l, gens, drawn, toks + 3 * kvs.length, os⟩ q := by
  unfold subDict
  refine Ev.bind (n := 1) (k := 13 * kvs.length + 1) (a := pre.length) (s₁ := ⟨mkH pre (dO [] 0) [] l, gens, drawn, toks, os⟩) (p₁ := q) ?_ ?_
  · have x := Ev.alloc (pr := pr) (w := w) (n₀ := n₀) (ann := ann) (c := c) (f := f) (B := B) (n := 0) (α := Addr) (s := ⟨⟨pre.toArray, l⟩, gens, drawn, toks, os⟩) (p := q) (p' := q) (o := dO [] 0) (g := Sem.pure) (b := pre.length) (s' := ⟨mkH pre (dO [] 0) [] l, gens, drawn, toks, os⟩) (by
      rw [show (⟨pre.toArray, l⟩ : Heap).objs.size = pre.length by simp, ← mkH_one]
      exact Ev.pure _)
    exact x
  · refine Ev.ends (a := ()) (fun _ => pre.length) ?_
    refine Ev.holding _ ?_
    rw [if_neg (by rw [List.length_map]; (first | lia | omega))]
    refine Ev.rule ?_
    have x := ev_fill (pr := pr) (w := w) (ann := ann) (c := c) (f := f) (B := B) (post := []) (l := l) (gens := gens) (drawn := drawn) (os := os) (q := q) env rfl h0 kvs [] lo toks l0 (fun _ h => nomatch h) ha (by simpa using hz)
    simp only [List.nil_append, List.length_nil, Nat.zero_add] at x
    exact Ev.ends (fun _ => ()) x
end

end
section --Ev4

noncomputable def valsOf (T : Nat) : List (Int × Str) → List (Value × Value)
  | [] => []
  | (i, v) :: r => (.int i T, .str v (T + 1)) :: valsOf (T + 2) r
noncomputable def entsS (T : Nat) : List (Int × Str) → List DictEntry
  | [] => []
  | (i, v) :: r => ⟨i, .int i T, .str v (T + 1)⟩ :: entsS (T + 2) r
theorem sub_dict : (isSubtype (.type "dict") (.type "dict")) = (Pure.pure true : Sem Bool) := by kernel_rfl
theorem iter_dict : (typeLookup (.type "dict") "__iter__") = (Pure.pure (some (.builtin "dict.__iter__")) : Sem (Option Value)) := by kernel_rfl
section
variable {pr : Program} {w : World} {n₀ : Nat} {ann : Option Value} {c : Code} {f : Frame} {B : List Frame} {α β : Type} {p q : Pos} {n k : Nat} {pre post : List Obj} {l : Life}
  {gens : Array GenState} {drawn : Drawn} {toks : Nat} {os : OsState}

theorem ev_pairs (env : Env) : ∀ (kvs : List (Int × Str)) (h : Heap) (toks : Nat),
    Ev pr w n₀ ann c (f :: B) (3 * kvs.length) (evalPairs (kvs.map fun x => (keyT env x, valT env q x))) ⟨h, gens, drawn, toks, os⟩ q (valsOf toks kvs) ⟨h, gens, drawn, toks + 2 * kvs.length, os⟩ q
  | [], h, toks => Ev.pure _
  | (i, v) :: r, h, toks => by
    have ih := ev_pairs env r h (toks + 2)
    simp only [List.map_cons, evalPairs]
    have e3 : toks + 2 + 2 * r.length = toks + 2 * ((i, v) :: r).length := by simp; (first | lia | omega)
    rw [e3] at ih
    rw [show 3 * ((i, v) :: r).length = 3 * r.length + 2 + 1 by simp; (first | lia | omega)]
    refine Ev.bind (n := 1) (k := 3 * r.length + 2) ev_key ?_
    refine Ev.bind (n := 2) (k := 3 * r.length) (Ev.holding _ ev_val) ?_
    exact Ev.ends (fun z => _ :: z) (Ev.holding _ ih)
theorem ev_fillS {d : Addr} (hd : d = pre.length) (h0 : Nat.ble n₀ pre.length = true) : ∀ (kvs : List (Int × Str)) (es : List DictEntry) (lo : Int) (T toks : Nat), 0 ≤ lo → (∀ e ∈ es, e.hash ≤ lo) → asc lo kvs = true → es.length + kvs.length ≤ 900 →
    Ev pr w n₀ ann c (f :: B) (10 * kvs.length) (forIn (valsOf T kvs) PUnit.unit fun (x : Value × Value) (_ : PUnit) => (do dictSet d x.1 x.2; pure (ForInStep.yield PUnit.unit) : Sem (ForInStep PUnit)))
      ⟨mkH pre (dO es es.length) post l, gens, drawn, toks, os⟩ q PUnit.unit ⟨mkH pre (dO (es ++ entsS T kvs) (es.length + kvs.length)) post l, gens, drawn, toks + kvs.length, os⟩ q
  | [], es, lo, T, toks, _, _, _, _ => by
    simp only [valsOf, List.forIn_nil, entsS, List.append_nil, List.length_nil, Nat.mul_zero, Nat.add_zero]
    exact Ev.pure _
  | (i, v) :: r, es, lo, T, toks, l0, hlo, ha, hz => by
    obtain ⟨a1, a2, a3⟩ := asc_cons ha
    simp only [List.length_cons] at hz
    have hn : ∀ e ∈ es, e.hash ≠ i := fun e he q => by have := hlo e he; (first | lia | omega)
    have ih := ev_fillS hd h0 r (es ++ [⟨i, .int i T, .str v (T + 1)⟩]) i (T + 2) (toks + 1) (by (first | lia | omega)) (fun e he => by
      rcases List.mem_append.mp he with he | he
      · have := hlo e he; (first | lia | omega)
      · rw [List.mem_singleton.mp he]; exact Int.le_refl _) a3 (by simp only [List.length_append, List.length_cons, List.length_nil]; (first | lia | omega))
    simp only [valsOf, List.forIn_cons]
    have e1 : (es ++ [⟨i, .int i T, .str v (T + 1)⟩]) ++ entsS (T + 2) r = es ++ entsS T ((i, v) :: r) := by simp [entsS]
    have e2 : (es ++ [(⟨i, .int i T, .str v (T + 1)⟩ : DictEntry)]).length + r.length = es.length + ((i, v) :: r).length := by simp; (first | lia | omega)
    have e3 : toks + 1 + r.length = toks + ((i, v) :: r).length := by simp; (first | lia | omega)
    rw [e1, e2, e3] at ih
    have e4 : (es ++ [(⟨i, .int i T, .str v (T + 1)⟩ : DictEntry)]).length = es.length + 1 := by simp
    rw [e4] at ih
    rw [show 10 * ((i, v) :: r).length = 10 * r.length + 10 by simp; (first | lia | omega)]
    refine Ev.bind (n := 10) (k := 10 * r.length) (a := ForInStep.yield PUnit.unit) ?_ ih
    exact Ev.ends (fun _ => ForInStep.yield PUnit.unit) (ev_set hd h0 (by (first | lia | omega)) (by (first | lia | omega)) a2 hn)
theorem ev_alloc0 : Ev pr w n₀ ann c (f :: B) 1 (alloc { cls := .type "dict", data := .dict #[] }) ⟨⟨pre.toArray, l⟩, gens, drawn, toks, os⟩ q pre.length ⟨mkH pre (dO [] 0) [] l, gens, drawn, toks, os⟩ q := by
  have x := Ev.alloc (pr := pr) (w := w) (n₀ := n₀) (ann := ann) (c := c) (f := f) (B := B) (n := 0) (α := Addr) (s := ⟨⟨pre.toArray, l⟩, gens, drawn, toks, os⟩) (p := q) (p' := q) (o := dO [] 0) (g := Sem.pure) (b := pre.length) (s' := ⟨mkH pre (dO [] 0) [] l, gens, drawn, toks, os⟩) (by
    rw [show (⟨pre.toArray, l⟩ : Heap).objs.size = pre.length by simp, ← mkH_one]
    exact Ev.pure _)
  exact x
theorem ev_sub_short (env : Env) (h0 : Nat.ble n₀ pre.length = true) (kvs : List (Int × Str)) (lo : Int) (l0 : 0 ≤ lo) (ha : asc lo kvs = true) (hk : kvs.length ≤ 15) :
    Ev pr w n₀ ann c (f :: B) (13 * kvs.length + 1) (subDict (kvs.map fun x => (keyT env x, valT env q x))) ⟨⟨pre.toArray, l⟩, gens, drawn, toks, os⟩ q pre.length
      ⟨mkH pre (dO (entsS toks kvs) kvs.length) [] l, gens, drawn, toks + 3 * kvs.length, os⟩ q := by
  unfold subDict
  refine Ev.bind (n := 1) (k := 13 * kvs.length) ev_alloc0 ?_
  refine Ev.ends (a := ()) (fun _ => pre.length) ?_
  refine Ev.holding _ ?_
  rw [if_pos (by rw [List.length_map]; (first | lia | omega))]
  rw [show 13 * kvs.length = 10 * kvs.length + 3 * kvs.length by (first | lia | omega)]
  refine Ev.bind (n := 3 * kvs.length) (k := 10 * kvs.length) (ev_pairs env kvs _ _) ?_
  have x := ev_fillS (pr := pr) (w := w) (ann := ann) (c := c) (f := f) (B := B) (post := []) (l := l) (gens := gens) (drawn := drawn) (os := os) (q := q) rfl h0 kvs [] lo toks (toks + 2 * kvs.length) l0 (fun _ h => nomatch h) ha (by simp; (first | lia | omega))
  simp only [List.nil_append, List.length_nil, Nat.zero_add] at x
  rw [show toks + 2 * kvs.length + kvs.length = toks + 3 * kvs.length by (first | lia | omega)] at x
  exact Ev.holding _ (Ev.ends (fun _ => ()) x)

noncomputable def IntKey (e : DictEntry) : Prop := ∃ i t, e.key = .int i t
noncomputable def ascE (lo : Int) : List DictEntry → Prop
  | [] => True
  | e :: r => lo < e.hash ∧ ascE e.hash r
theorem ascE_of (lo : Int) : ∀ (kvs : List (Int × Str)) (T : Nat), asc lo kvs = true → ascE lo (entsOf T kvs)
  | [], _, _ => trivial
  | (i, v) :: r, T, h => ⟨(asc_cons h).1, ascE_of i r _ (asc_cons h).2.2⟩
theorem ascE_ofS (lo : Int) : ∀ (kvs : List (Int × Str)) (T : Nat), asc lo kvs = true → ascE lo (entsS T kvs)
  | [], _, _ => trivial
  | (i, v) :: r, T, h => ⟨(asc_cons h).1, ascE_ofS i r _ (asc_cons h).2.2⟩
theorem intKey_of : ∀ (kvs : List (Int × Str)) (T : Nat), ∀ e ∈ entsOf T kvs, IntKey e
  | [], _, _, h => absurd h List.not_mem_nil
  | (i, v) :: r, T, e, h => by
    rcases List.mem_cons.mp h with rfl | h
    · exact ⟨i, T, rfl⟩
    · exact intKey_of r _ e h
theorem intKey_ofS : ∀ (kvs : List (Int × Str)) (T : Nat), ∀ e ∈ entsS T kvs, IntKey e
  | [], _, _, h => absurd h List.not_mem_nil
  | (i, v) :: r, T, e, h => by
    rcases List.mem_cons.mp h with rfl | h
    · exact ⟨i, T, rfl⟩
    · exact intKey_ofS r _ e h

theorem ev_turns {a d : Addr} {S : List DictEntry} {j : Nat} (hd : d = pre.length) (ha : a = pre.length + 1 + post.length) (h0 : Nat.ble n₀ pre.length = true) : ∀ (rest done : List DictEntry) (E : List DictEntry) (lo : Int), S = done ++ rest → (∀ e ∈ E, e.hash ≤ lo) → ascE lo rest → (∀ e ∈ rest, IntKey e) → E.length + rest.length ≤ 900 →
    Ev pr w n₀ ann c (f :: B) (6 * rest.length) (forIn (List.range' done.length rest.length) PUnit.unit fun (i : Nat) (_ : PUnit) => (do
        let es ← dictEntries a
        match es[i]? with
          | some e => do
            holding [e.key, e.val] (dictPut d e.hash e.key e.val)
            let ep ← dictEpoch a
            if (ep != j) = true then do
                unsupported "dict.changed-during-merge"
                pure (ForInStep.yield PUnit.unit)
              else pure (ForInStep.yield PUnit.unit)
          | x => do
            unsupported "dict.changed-during-merge"
            pure (ForInStep.yield PUnit.unit) : Sem (ForInStep PUnit)))
      ⟨mkH pre (dO E E.length) (post ++ [dO S j]) l, gens, drawn, toks, os⟩ q PUnit.unit ⟨mkH pre (dO (E ++ rest) (E.length + rest.length)) (post ++ [dO S j]) l, gens, drawn, toks, os⟩ q
  | [], done, E, lo, _, _, _, _, _ => by
    simp only [List.length_nil, List.range'_zero, List.forIn_nil, List.append_nil, Nat.mul_zero, Nat.add_zero]
    exact Ev.pure _
  | e :: r, done, E, lo, hS, hlo, hasc, hkey, hz => by
    simp only [List.length_cons] at hz
    have getS : ∀ (M : Obj), (mkH pre M (post ++ [dO S j]) l).get? a = some (dO S j) := fun M => by
      rw [mkH_sub, ha, show pre.length + 1 + post.length = (pre ++ M :: post).length by simp; (first | lia | omega)]
      exact mkH_get rfl
    obtain ⟨i, t, hk⟩ := hkey e (.head _)
    have hn : ∀ x ∈ E, x.hash ≠ e.hash := fun x hx q => by have := hlo x hx; have := hasc.1; (first | lia | omega)
    have ih := ev_turns (a := a) (d := d) (S := S) (j := j) hd ha h0 r (done ++ [e]) (E ++ [e]) e.hash (by rw [hS]; simp) (fun x hx => by
      rcases List.mem_append.mp hx with hx | hx
      · have := hlo x hx; have := hasc.1; (first | lia | omega)
      · rw [List.mem_singleton.mp hx]; exact Int.le_refl _) hasc.2 (fun x hx => hkey x (.tail _ hx)) (by simp only [List.length_append, List.length_cons, List.length_nil]; (first | lia | omega))
    have e1 : (E ++ [e]) ++ r = E ++ e :: r := by simp
    have e2 : (E ++ [e]).length = E.length + 1 := by simp
    have e3 : E.length + 1 + r.length = E.length + (e :: r).length := by simp; (first | lia | omega)
    rw [e1, e2, e3] at ih
    rw [show (done ++ [e]).length = done.length + 1 by simp] at ih
    rw [show 6 * (e :: r).length = 6 * r.length + 6 by simp; (first | lia | omega)]
    simp only [List.length_cons, List.range'_succ, List.forIn_cons]
    refine Ev.bind (n := 6) (k := 6 * r.length) (a := ForInStep.yield PUnit.unit) ?_ ih
    refine Ev.bind (n := 1) (k := 5) (a := S.toArray) (s₁ := ⟨mkH pre (dO E E.length) (post ++ [dO S j]) l, gens, drawn, toks, os⟩) (p₁ := q) (Ev.load (getS _) (Ev.pure _)) ?_
    have gi : S.toArray[done.length]? = some e := by rw [hS]; simp
    rw [gi]
    dsimp only
    refine Ev.bind (n := 4) (k := 1) (Ev.holding _ (by rw [hk]; exact ev_put hd h0 (by (first | lia | omega)) hn)) ?_
    refine Ev.bind (n := 1) (k := 0) (a := j) (Ev.load (getS _) (Ev.pure _)) ?_
    rw [if_neg (by simp)]
    have e0 : (⟨e.hash, .int i t, e.val⟩ : DictEntry) = e := by rw [← hk]
    rw [e0]
    exact Ev.pure _

theorem ev_merge {a d : Addr} {S E : List DictEntry} {lo : Int} (hd : d = pre.length) (ha : a = pre.length + 1 + post.length) (hsys : (a == sysModules) = false) (h0 : Nat.ble n₀ pre.length = true) (hE : E ≠ [])
    (hlo : ∀ e ∈ E, e.hash ≤ lo) (hasc : ascE lo S) (hkey : ∀ e ∈ S, IntKey e) (hz : E.length + S.length ≤ 900) :
    Ev pr w n₀ ann c (f :: B) (6 * S.length + 5) (mergeMapping d (.ref a) false) ⟨mkH pre (dO E E.length) (post ++ [dO S S.length]) l, gens, drawn, toks, os⟩ q () ⟨mkH pre (dO (E ++ S) (E.length + S.length)) (post ++ [dO S S.length]) l, gens, drawn, toks, os⟩ q := by
  have getS : ∀ (M : Obj), (mkH pre M (post ++ [dO S S.length]) l).get? a = some (dO S S.length) := fun M => by
    rw [mkH_sub, ha, show pre.length + 1 + post.length = (pre ++ M :: post).length by simp; (first | lia | omega)]
    exact mkH_get rfl
  have getM : (mkH pre (dO E E.length) (post ++ [dO S S.length]) l).get? d = some (dO E E.length) := by rw [hd]; exact mkH_get rfl
  unfold mergeMapping
  refine Ev.bind (n := 1) (k := 6 * S.length + 4) (a := true) (s₁ := ⟨mkH pre (dO E E.length) (post ++ [dO S S.length]) l, gens, drawn, toks, os⟩) (p₁ := q) ?_ ?_
  · unfold isInstance
    refine Ev.bind (n := 1) (k := 0) (a := .type "dict") (Ev.load (getS _) (Ev.pure _)) ?_
    rw [sub_dict]; exact Ev.pure _
  dsimp only
  rw [if_pos rfl]
  refine Ev.bind (n := 1) (k := 6 * S.length + 3) (a := some (.builtin "dict.__iter__")) (s₁ := ⟨mkH pre (dO E E.length) (post ++ [dO S S.length]) l, gens, drawn, toks, os⟩) (p₁ := q) ?_ ?_
  · unfold specialOf
    refine Ev.bind (n := 1) (k := 0) (a := .type "dict") (Ev.load (getS _) (Ev.pure _)) ?_
    rw [iter_dict]; exact Ev.pure _
  rw [show (some (Value.builtin "dict.__iter__") == some (Value.builtin "dict.__iter__")) = true from by simp]
  refine Ev.bind (n := 0) (k := 6 * S.length + 3) (Ev.pure true) ?_
  dsimp only
  rw [hsys, if_neg Bool.false_ne_true]
  refine Ev.bind (n := 1) (k := 6 * S.length + 2) (a := E.toArray) (s₁ := ⟨mkH pre (dO E E.length) (post ++ [dO S S.length]) l, gens, drawn, toks, os⟩) (p₁ := q) (Ev.load getM (Ev.pure _)) ?_
  rw [if_neg (by cases E with
    | nil => exact absurd rfl hE
    | cons x r => simp)]
  refine Ev.bind (n := 1) (k := 6 * S.length + 1) (a := S.toArray) (s₁ := ⟨mkH pre (dO E E.length) (post ++ [dO S S.length]) l, gens, drawn, toks, os⟩) (p₁ := q) (Ev.load (getS _) (Ev.pure _)) ?_
  refine Ev.bind (n := 1) (k := 6 * S.length) (a := S.length) (s₁ := ⟨mkH pre (dO E E.length) (post ++ [dO S S.length]) l, gens, drawn, toks, os⟩) (p₁ := q) (Ev.load (getS _) (Ev.pure _)) ?_
  have x := ev_turns (pr := pr) (w := w) (n₀ := n₀) (ann := ann) (c := c) (f := f) (B := B) (post := post) (l := l) (gens := gens) (drawn := drawn) (toks := toks) (os := os) (q := q) (S := S) (j := S.length) hd ha h0 S [] E lo (List.nil_append S).symm hlo hasc hkey hz
  rw [List.length_nil, ← List.range_eq_range'] at x
  rw [show S.toArray.size = S.length by simp]
  exact Ev.ends (fun _ => ()) x
end

end
section --Ev5

noncomputable abbrev Prs := List (Sem Value × Sem Value)
noncomputable def flushF (run : Prs) (main : Option Addr) : Sem (Option Addr) :=
  if run.isEmpty = true then pure main
  else match main with
    | none => do
      let a ← subDict run
      pure (some a)
    | some d => do
      let sub ← holding [Value.ref d] (subDict run)
      (holding [Value.ref d, Value.ref sub] (mergeMapping d (Value.ref sub) false)).onRaise fun x => do
          let _ ← holding [Value.ref d, x] (runValue (Code.builtin "proto.let_go" { }))
          pure ()
      pure (some d)
noncomputable def lastK (lo : Int) : List (Int × Str) → Int
  | [] => lo
  | (i, _) :: r => lastK i r
theorem asc_app : ∀ (lo : Int) (c d : List (Int × Str)), asc lo (c ++ d) = true → asc lo c = true ∧ asc (lastK lo c) d = true
  | lo, [], d, h => ⟨rfl, h⟩
  | lo, (i, v) :: r, d, h => by
    obtain ⟨a1, a2, a3⟩ := asc_cons h
    obtain ⟨b1, b2⟩ := asc_app i r d a3
    exact ⟨by simp [asc, a1, a2, b1], b2⟩
theorem lastK_le : ∀ (lo : Int) (c : List (Int × Str)), asc lo c = true → lo ≤ lastK lo c
  | lo, [], h => Int.le_refl _
  | lo, (i, v) :: r, h => by
    obtain ⟨a1, a2, a3⟩ := asc_cons h
    have := lastK_le i r a3
    show lo ≤ lastK i r
    (first | lia | omega)
theorem ents_le : ∀ (lo : Int) (c : List (Int × Str)) (T : Nat), asc lo c = true → ∀ e ∈ entsOf T c, e.hash ≤ lastK lo c
  | _, [], _, _, _, he => absurd he List.not_mem_nil
  | lo, (i, v) :: r, T, h, e, he => by
    obtain ⟨a1, a2, a3⟩ := asc_cons h
    rcases List.mem_cons.mp he with rfl | he
    · exact lastK_le i r a3
    · exact ents_le i r _ a3 e he
theorem ents_len : ∀ (c : List (Int × Str)) (T : Nat), (entsOf T c).length = c.length
  | [], _ => rfl
  | (i, v) :: r, T => by simp [entsOf, ents_len r]
theorem entsS_len : ∀ (c : List (Int × Str)) (T : Nat), (entsS T c).length = c.length
  | [], _ => rfl
  | (i, v) :: r, T => by simp [entsS, entsS_len r]
noncomputable def runE (T : Nat) : List (List (Int × Str)) → List DictEntry → List DictEntry
  | [], E => E
  | c :: cs, E => runE (T + 3 * c.length) cs (E ++ entsOf T c)
noncomputable def runP (T : Nat) : List (List (Int × Str)) → List Obj → List Obj
  | [], P => P
  | c :: cs, P => runP (T + 3 * c.length) cs (P ++ [dO (entsOf T c) c.length])
section
variable {pr : Program} {w : World} {n₀ : Nat} {ann : Option Value} {c : Code} {f : Frame} {B : List Frame} {α β : Type} {p q : Pos} {n k : Nat} {pre post : List Obj} {l : Life}
  {gens : Array GenState} {drawn : Drawn} {toks : Nat} {os : OsState}
noncomputable abbrev prT (env : Env) (q : Pos) (x : Int × Str) : Sem Value × Sem Value := (keyT env x, valT env q x)
noncomputable abbrev itT (env : Env) (q : Pos) (x : Int × Str) : Option (Sem Value) × Sem Value := (some (keyT env x), valT env q x)

theorem ev_flush1 (env : Env) (h0 : Nat.ble n₀ pre.length = true) (kvs : List (Int × Str)) (lo : Int) (l0 : 0 ≤ lo) (ha : asc lo kvs = true) (hz : kvs.length ≤ 900) (hk : 16 ≤ kvs.length) :
    Ev pr w n₀ ann c (f :: B) (13 * kvs.length + 2) (flushF (kvs.map (prT env q)) none) ⟨⟨pre.toArray, l⟩, gens, drawn, toks, os⟩ q (some pre.length)
      ⟨mkH pre (dO (entsOf toks kvs) kvs.length) [] l, gens, drawn, toks + 3 * kvs.length, os⟩ q := by
  unfold flushF
  rw [if_neg (by cases kvs with
    | nil => simp at hk
    | cons x r => simp)]
  exact Ev.ends some (ev_sub_long env h0 kvs lo l0 ha hz hk)
theorem mkH_pre {M : Obj} : mkH pre M post l = ⟨(pre ++ M :: post).toArray, l⟩ := rfl
theorem ev_flushL (env : Env) (h0 : Nat.ble n₀ pre.length = true) (h1 : Nat.ble n₀ (pre.length + 1 + post.length) = true) (hsys : (pre.length + 1 + post.length == sysModules) = false) (kvs : List (Int × Str)) (E : List DictEntry) (lo : Int) (l0 : 0 ≤ lo) (hE : E ≠ []) (hlo : ∀ e ∈ E, e.hash ≤ lo) (ha : asc lo kvs = true) (hz : E.length + kvs.length ≤ 900) (hk : 16 ≤ kvs.length) :
    Ev pr w n₀ ann c (f :: B) (19 * kvs.length + 7) (flushF (kvs.map (prT env q)) (some pre.length)) ⟨mkH pre (dO E E.length) post l, gens, drawn, toks, os⟩ q (some pre.length)
      ⟨mkH pre (dO (E ++ entsOf toks kvs) (E ++ entsOf toks kvs).length) (post ++ [dO (entsOf toks kvs) kvs.length]) l, gens, drawn, toks + 3 * kvs.length, os⟩ q := by
  unfold flushF
  rw [if_neg (by cases kvs with
    | nil => simp at hk
    | cons x r => simp)]
  have hL : (pre ++ dO E E.length :: post).length = pre.length + 1 + post.length := by simp; (first | lia | omega)
  have x := ev_sub_long (pr := pr) (w := w) (n₀ := n₀) (ann := ann) (c := c) (f := f) (B := B) (q := q) (pre := pre ++ dO E E.length :: post) (l := l) (gens := gens) (drawn := drawn) (toks := toks) (os := os) env (by rw [hL]; exact h1) kvs lo l0 ha (by (first | lia | omega)) hk
  rw [← mkH_pre, ← mkH_sub, hL] at x
  have y := ev_merge (pr := pr) (w := w) (n₀ := n₀) (ann := ann) (c := c) (f := f) (B := B) (q := q) (pre := pre) (post := post) (l := l) (gens := gens) (drawn := drawn) (toks := toks + 3 * kvs.length) (os := os) (a := pre.length + 1 + post.length) (d := pre.length) (S := entsOf toks kvs) rfl rfl hsys h0 hE hlo (ascE_of lo kvs _ ha) (intKey_of kvs _) (by rw [ents_len]; exact hz)
  rw [ents_len] at y
  rw [show 19 * kvs.length + 7 = 6 * kvs.length + 5 + (13 * kvs.length + 2) by (first | lia | omega), show (E ++ entsOf toks kvs).length = E.length + kvs.length by rw [List.length_append, ents_len]]
  exact Ev.bind (Ev.holding _ x) (Ev.ends (fun _ => some pre.length) (Ev.onRaise _ (Ev.holding _ y)))
theorem ev_flushS (env : Env) (h0 : Nat.ble n₀ pre.length = true) (h1 : Nat.ble n₀ (pre.length + 1 + post.length) = true) (hsys : (pre.length + 1 + post.length == sysModules) = false) (kvs : List (Int × Str)) (E : List DictEntry) (lo : Int) (l0 : 0 ≤ lo) (hE : E ≠ []) (hlo : ∀ e ∈ E, e.hash ≤ lo) (ha : asc lo kvs = true) (hz : E.length + kvs.length ≤ 900) (hk : kvs.length ≤ 15) (hk0 : kvs ≠ []) :
    Ev pr w n₀ ann c (f :: B) (19 * kvs.length + 6) (flushF (kvs.map (prT env q)) (some pre.length)) ⟨mkH pre (dO E E.length) post l, gens, drawn, toks, os⟩ q (some pre.length)
      ⟨mkH pre (dO (E ++ entsS toks kvs) (E ++ entsS toks kvs).length) (post ++ [dO (entsS toks kvs) kvs.length]) l, gens, drawn, toks + 3 * kvs.length, os⟩ q := by
  unfold flushF
  rw [if_neg (by cases kvs with
    | nil => exact absurd rfl hk0
    | cons x r => simp)]
  have hL : (pre ++ dO E E.length :: post).length = pre.length + 1 + post.length := by simp; (first | lia | omega)
  have x := ev_sub_short (pr := pr) (w := w) (n₀ := n₀) (ann := ann) (c := c) (f := f) (B := B) (q := q) (pre := pre ++ dO E E.length :: post) (l := l) (gens := gens) (drawn := drawn) (toks := toks) (os := os) env (by rw [hL]; exact h1) kvs lo l0 ha hk
  rw [← mkH_pre, ← mkH_sub, hL] at x
  have y := ev_merge (pr := pr) (w := w) (n₀ := n₀) (ann := ann) (c := c) (f := f) (B := B) (q := q) (pre := pre) (post := post) (l := l) (gens := gens) (drawn := drawn) (toks := toks + 3 * kvs.length) (os := os) (a := pre.length + 1 + post.length) (d := pre.length) (S := entsS toks kvs) rfl rfl hsys h0 hE hlo (ascE_ofS lo kvs _ ha) (intKey_ofS kvs _) (by rw [entsS_len]; exact hz)
  rw [entsS_len] at y
  rw [show 19 * kvs.length + 6 = 6 * kvs.length + 5 + (13 * kvs.length + 1) by (first | lia | omega), show (E ++ entsS toks kvs).length = E.length + kvs.length by rw [List.length_append, entsS_len]]
  exact Ev.bind (Ev.holding _ x) (Ev.ends (fun _ => some pre.length) (Ev.onRaise _ (Ev.holding _ y)))

noncomputable abbrev St2 := Option Addr × Prs
variable (G : Option (Sem Value) × Sem Value → St2 → Sem (ForInStep St2))
  (hG : ∀ k v main run, G (some k, v) (main, run) = if ((run ++ [(k, v)]).length == 17) = true then (flushF (run ++ [(k, v)]) main >>= fun m => pure (ForInStep.yield (m, []))) else pure (ForInStep.yield (main, run ++ [(k, v)])))
include hG
theorem for_acc (env : Env) (main : Option Addr) (rest : List (Option (Sem Value) × Sem Value)) : ∀ (kvs : List (Int × Str)) (run : Prs), run.length + kvs.length ≤ 16 →
    forIn (kvs.map (itT env q) ++ rest) (main, run) G = forIn rest (main, run ++ kvs.map (prT env q)) G
  | [], run, _ => by simp
  | x :: r, run, h => by
    have ih := for_acc env main rest r (run ++ [prT env q x]) (by simp at h ⊢; (first | lia | omega))
    simp only [List.map_cons, List.cons_append, List.forIn_cons]
    rw [hG, if_neg (by simp at h ⊢; (first | lia | omega))]
    rw [show run ++ prT env q x :: r.map (prT env q) = (run ++ [prT env q x]) ++ r.map (prT env q) by simp, ← ih]
    rfl
theorem for_chunk (env : Env) (main : Option Addr) (rest : List (Option (Sem Value) × Sem Value)) (kvs : List (Int × Str)) (hk : kvs.length = 17) :
    forIn (kvs.map (itT env q) ++ rest) (main, []) G = ((flushF (kvs.map (prT env q)) main >>= fun m => pure (ForInStep.yield (m, []))) >>= fun r => match r with | .done b => pure b | .yield b => forIn rest b G) := by
  have hne : kvs ≠ [] := fun e => by rw [e] at hk; cases hk
  have e := List.dropLast_concat_getLast hne
  have hl : kvs.dropLast.length = 16 := by rw [List.length_dropLast, hk]
  generalize kvs.dropLast = a at e hl
  generalize kvs.getLast hne = b at e
  subst e
  rw [List.map_append, List.append_assoc, for_acc G hG env main _ a [] (by simp [hl])]
  simp only [List.map_cons, List.map_nil, List.cons_append, List.nil_append, List.forIn_cons]
  rw [hG, if_pos (by simp [hl])]
  simp only [List.map_append, List.map_cons, List.map_nil]
  refine congrArg (Sem.bind _) (funext fun x => ?_)
  cases x <;> rfl
theorem ev_chunks (env : Env) (h0 : Nat.ble n₀ pre.length = true) (rest : List (Option (Sem Value) × Sem Value)) : ∀ (cs : List (List (Int × Str))) (E : List DictEntry) (post : List Obj) (lo : Int) (T : Nat) (tail : List (Int × Str)), (∀ c ∈ cs, c.length = 17) → 0 ≤ lo → E ≠ [] → (∀ e ∈ E, e.hash ≤ lo) → asc lo (cs.flatten ++ tail) = true → E.length + (cs.flatten ++ tail).length ≤ 900 → Nat.blt sysModules pre.length = true →
    ∀ {n : Nat} {a : St2} {s' : Shared}, (∀ lo', 0 ≤ lo' → (∀ e ∈ runE T cs E, e.hash ≤ lo') → asc lo' tail = true → runE T cs E ≠ [] → (runE T cs E).length + tail.length ≤ 900 →
        Ev pr w n₀ ann c (f :: B) n (forIn rest (some pre.length, []) G) ⟨mkH pre (dO (runE T cs E) (runE T cs E).length) (runP T cs post) l, gens, drawn, T + 3 * cs.flatten.length, os⟩ q a s' q) →
      Ev pr w n₀ ann c (f :: B) (n + 330 * cs.length) (forIn (cs.flatten.map (itT env q) ++ rest) (some pre.length, []) G) ⟨mkH pre (dO E E.length) post l, gens, drawn, T, os⟩ q a s' q
  | [], E, post, lo, T, tail, _, l0, hE, hlo, ha, hz, _, n, a, s', h => by
    have := h lo l0 hlo (by simpa using ha) hE (by simpa [runE] using hz)
    simpa [runE, runP] using this
  | d :: cs, E, post, lo, T, tail, hc, l0, hE, hlo, ha, hz, hsys, n, a, s', h => by
    have hd := hc d (.head _)
    simp only [List.flatten_cons, List.append_assoc, List.length_append] at ha hz
    obtain ⟨a1, a2⟩ := asc_app lo d _ ha
    have h1 : Nat.ble n₀ (pre.length + 1 + post.length) = true := by rw [Nat.ble_eq] at h0 ⊢; (first | lia | omega)
    have hs1 : (pre.length + 1 + post.length == sysModules) = false := by
      rw [beq_eq_false_iff_ne]; intro e
      have e' : @Eq Nat (pre.length + 1 + post.length) sysModules := e
      have h' : @LT.lt Nat _ sysModules pre.length := (Nat.blt_eq).mp hsys
      (first | lia | omega)
    have fl := ev_flushL (pr := pr) (w := w) (n₀ := n₀) (ann := ann) (c := c) (f := f) (B := B) (q := q) (pre := pre) (post := post) (l := l) (gens := gens) (drawn := drawn) (toks := T) (os := os) env h0 h1 hs1 d E lo l0 hE hlo a1 (by (first | lia | omega)) (by (first | lia | omega))
    have ih := ev_chunks env h0 rest cs (E ++ entsOf T d) (post ++ [dO (entsOf T d) d.length]) (lastK lo d) (T + 3 * d.length) tail (fun x hx => hc x (.tail _ hx)) (by have := lastK_le lo d a1; (first | lia | omega)) (fun e => hE (List.append_eq_nil_iff.mp e).1) (fun e he => by
      rcases List.mem_append.mp he with he | he
      · have := hlo e he; have := lastK_le lo d a1; (first | lia | omega)
      · exact ents_le lo d T a1 e he) a2 (by simp only [List.length_append, ents_len]; (first | lia | omega)) hsys (n := n) (a := a) (s' := s') (fun lo' x1 x2 x3 x4 x5 => by
        have := h lo' x1 x2 x3 x4 x5
        rw [show T + 3 * (d :: cs).flatten.length = T + 3 * d.length + 3 * cs.flatten.length by simp; (first | lia | omega)] at this
        exact this)
    rw [List.flatten_cons, List.map_append, List.append_assoc, for_chunk G hG env _ _ d hd]
    rw [show n + 330 * (d :: cs).length = (n + 330 * cs.length) + 330 by simp; (first | lia | omega)]
    refine Ev.bind (n := 330) (k := n + 330 * cs.length) (Ev.more (Ev.ends (fun m => ForInStep.yield (m, [])) fl) (by (first | lia | omega))) ih
end
set_option maxHeartbeats 1000000 in
theorem ev_display {pr : Program} {w : World} {n₀ : Nat} {ann : Option Value} {c : Code} {f : Frame} {B : List Frame} {q : Pos} {pre : List Obj} {l : Life} {gens : Array GenState} {drawn : Drawn} {T : Nat} {os : OsState}
    (env : Env) (h0 : Nat.ble n₀ pre.length = true) (hsys : Nat.blt sysModules pre.length = true) (d : List (Int × Str)) (cs : List (List (Int × Str))) (tail : List (Int × Str)) (hd : d.length = 17) (hc : ∀ c ∈ cs, c.length = 17) (ht : tail.length ≤ 15) (ht0 : tail ≠ [])
    (ha : asc 0 (d ++ (cs.flatten ++ tail)) = true) (hz : (d ++ (cs.flatten ++ tail)).length ≤ 900) :
    Ev pr w n₀ ann c (f :: B) (330 * cs.length + 330 + 330) (dictDisplay ((d ++ (cs.flatten ++ tail)).map (itT env q))) ⟨⟨pre.toArray, l⟩, gens, drawn, T, os⟩ q (.ref pre.length)
      ⟨mkH pre (dO (runE (T + 51) cs (entsOf T d) ++ entsS (T + 51 + 3 * cs.flatten.length) tail) (runE (T + 51) cs (entsOf T d) ++ entsS (T + 51 + 3 * cs.flatten.length) tail).length)
        (runP (T + 51) cs [] ++ [dO (entsS (T + 51 + 3 * cs.flatten.length) tail) tail.length]) l, gens, drawn, T + 51 + 3 * cs.flatten.length + 3 * tail.length, os⟩ q := by
  obtain ⟨a1, a2⟩ := asc_app 0 d _ ha
  simp only [List.length_append] at hz
  have key : ∀ (G : Option (Sem Value) × Sem Value → St2 → Sem (ForInStep St2)), (∀ k v main run, G (some k, v) (main, run) = if ((run ++ [(k, v)]).length == 17) = true then (flushF (run ++ [(k, v)]) main >>= fun m => pure (ForInStep.yield (m, []))) else pure (ForInStep.yield (main, run ++ [(k, v)]))) →
      Ev pr w n₀ ann c (f :: B) (330 * cs.length + 330 + 330) (forIn ((d ++ (cs.flatten ++ tail)).map (itT env q)) (none, []) G >>= fun r => (flushF r.2 r.1 >>= fun x => match x with | some d => pure (Value.ref d) | none => newDict)) ⟨⟨pre.toArray, l⟩, gens, drawn, T, os⟩ q (.ref pre.length)
      ⟨mkH pre (dO (runE (T + 51) cs (entsOf T d) ++ entsS (T + 51 + 3 * cs.flatten.length) tail) (runE (T + 51) cs (entsOf T d) ++ entsS (T + 51 + 3 * cs.flatten.length) tail).length)
        (runP (T + 51) cs [] ++ [dO (entsS (T + 51 + 3 * cs.flatten.length) tail) tail.length]) l, gens, drawn, T + 51 + 3 * cs.flatten.length + 3 * tail.length, os⟩ q := by
    intro G hG
    have hE : entsOf T d ≠ [] := fun e => by have := ents_len d T; rw [e] at this; rw [hd] at this; cases this
    have l1 := lastK_le 0 d a1
    -- the loop behind the first chunk
    have loop : ∀ lo', 0 ≤ lo' → (∀ e ∈ runE (T + 51) cs (entsOf T d), e.hash ≤ lo') → asc lo' tail = true → runE (T + 51) cs (entsOf T d) ≠ [] → (runE (T + 51) cs (entsOf T d)).length + tail.length ≤ 900 →
        Ev pr w n₀ ann c (f :: B) 0 (forIn (tail.map (itT env q)) (some pre.length, []) G) ⟨mkH pre (dO (runE (T + 51) cs (entsOf T d)) (runE (T + 51) cs (entsOf T d)).length) (runP (T + 51) cs []) l, gens, drawn, T + 51 + 3 * cs.flatten.length, os⟩ q
          (some pre.length, tail.map (prT env q)) ⟨mkH pre (dO (runE (T + 51) cs (entsOf T d)) (runE (T + 51) cs (entsOf T d)).length) (runP (T + 51) cs []) l, gens, drawn, T + 51 + 3 * cs.flatten.length, os⟩ q := by
      intro lo' _ _ _ _ _
      have z := for_acc (q := q) G hG env (some pre.length) [] tail [] (by simp; (first | lia | omega))
      rw [List.append_nil, List.nil_append] at z
      rw [z]
      exact Ev.pure _
    have facts : ∃ lo', 0 ≤ lo' ∧ (∀ e ∈ runE (T + 51) cs (entsOf T d), e.hash ≤ lo') ∧ asc lo' tail = true ∧ runE (T + 51) cs (entsOf T d) ≠ [] ∧ (runE (T + 51) cs (entsOf T d)).length + tail.length ≤ 900 := by
      have gen : ∀ (cs : List (List (Int × Str))) (E : List DictEntry) (lo : Int) (T : Nat), 0 ≤ lo → (∀ e ∈ E, e.hash ≤ lo) → asc lo (cs.flatten ++ tail) = true → E ≠ [] → E.length + (cs.flatten ++ tail).length ≤ 900 → (∀ c ∈ cs, c.length = 17) →
          ∃ lo', 0 ≤ lo' ∧ (∀ e ∈ runE T cs E, e.hash ≤ lo') ∧ asc lo' tail = true ∧ runE T cs E ≠ [] ∧ (runE T cs E).length + tail.length ≤ 900 := by
        intro cs
        induction cs with
        | nil => intro E lo T h1 h2 h3 h4 h5 _; exact ⟨lo, h1, h2, by simpa using h3, h4, by simpa [runE] using h5⟩
        | cons x cs ih =>
          intro E lo T h1 h2 h3 h4 h5 h6
          simp only [List.flatten_cons, List.append_assoc, List.length_append] at h3 h5
          obtain ⟨b1, b2⟩ := asc_app lo x _ h3
          have b3 := lastK_le lo x b1
          exact ih (E ++ entsOf T x) (lastK lo x) (T + 3 * x.length) (by (first | lia | omega)) (fun e he => by
            rcases List.mem_append.mp he with he | he
            · have := h2 e he; (first | lia | omega)
            · exact ents_le lo x T b1 e he) b2 (fun e => h4 (List.append_eq_nil_iff.mp e).1) (by simp only [List.length_append, ents_len]; (first | lia | omega)) fun y hy => h6 y (.tail _ hy)
      exact gen cs (entsOf T d) (lastK 0 d) (T + 51) (by (first | lia | omega)) (ents_le 0 d T a1) a2 hE (by simp only [List.length_append, ents_len]; (first | lia | omega)) hc
    obtain ⟨lo', f1, f2, f3, f4, f5⟩ := facts
    have fin : Ev pr w n₀ ann c (f :: B) 330 (flushF (tail.map (prT env q)) (some pre.length) >>= fun x => match x with | some d => pure (Value.ref d) | none => newDict) ⟨mkH pre (dO (runE (T + 51) cs (entsOf T d)) (runE (T + 51) cs (entsOf T d)).length) (runP (T + 51) cs []) l, gens, drawn, T + 51 + 3 * cs.flatten.length, os⟩ q (.ref pre.length)
        ⟨mkH pre (dO (runE (T + 51) cs (entsOf T d) ++ entsS (T + 51 + 3 * cs.flatten.length) tail) (runE (T + 51) cs (entsOf T d) ++ entsS (T + 51 + 3 * cs.flatten.length) tail).length)
        (runP (T + 51) cs [] ++ [dO (entsS (T + 51 + 3 * cs.flatten.length) tail) tail.length]) l, gens, drawn, T + 51 + 3 * cs.flatten.length + 3 * tail.length, os⟩ q := by
      have h1 : Nat.ble n₀ (pre.length + 1 + (runP (T + 51) cs []).length) = true := by rw [Nat.ble_eq] at h0 ⊢; (first | lia | omega)
      have hs1 : (pre.length + 1 + (runP (T + 51) cs []).length == sysModules) = false := by
        rw [beq_eq_false_iff_ne]; intro e
        have e' : @Eq Nat (pre.length + 1 + (runP (T + 51) cs []).length) sysModules := e
        have h' : @LT.lt Nat _ sysModules pre.length := (Nat.blt_eq).mp hsys
        (first | lia | omega)
      have fl := ev_flushS (pr := pr) (w := w) (n₀ := n₀) (ann := ann) (c := c) (f := f) (B := B) (q := q) (pre := pre) (post := runP (T + 51) cs []) (l := l) (gens := gens) (drawn := drawn) (toks := T + 51 + 3 * cs.flatten.length) (os := os) env h0 h1 hs1 tail _ lo' f1 f4 f2 f3 f5 ht ht0
      have y := Ev.bind (n := 19 * tail.length + 6) (k := 0) (g := fun x : Option Addr => (match x with | some d => (Pure.pure (Value.ref d) : Sem Value) | none => newDict)) fl (Ev.pure (Value.ref pre.length))
      refine Ev.more y ?_
      (first | lia | omega)
    rw [List.map_append, for_chunk G hG env none _ d hd]
    have fl := ev_flush1 (pr := pr) (w := w) (n₀ := n₀) (ann := ann) (c := c) (f := f) (B := B) (q := q) (pre := pre) (l := l) (gens := gens) (drawn := drawn) (toks := T) (os := os) env h0 d 0 (Int.le_refl _) a1 (by (first | lia | omega)) (by (first | lia | omega))
    rw [show 3 * d.length = 51 by (first | lia | omega)] at fl
    have ch := ev_chunks (pr := pr) (w := w) (n₀ := n₀) (ann := ann) (c := c) (f := f) (B := B) (q := q) (pre := pre) (l := l) (gens := gens) (drawn := drawn) (os := os) G hG env h0 (tail.map (itT env q)) cs (entsOf T d) [] (lastK 0 d) (T + 51) tail hc (by (first | lia | omega)) hE (ents_le 0 d T a1) a2 (by simp only [List.length_append, ents_len]; (first | lia | omega)) hsys loop
    rw [ents_len] at ch
    rw [List.map_append]
    rw [show 330 * cs.length + 330 + 330 = 330 + (0 + 330 * cs.length + 330) by (first | lia | omega)]
    refine Ev.bind (n := 0 + 330 * cs.length + 330) (k := 330) (a := (some pre.length, tail.map (prT env q))) ?_ fin
    exact Ev.bind (n := 330) (k := 0 + 330 * cs.length) (Ev.more (Ev.ends (fun m => ForInStep.yield (m, [])) fl) (by (first | lia | omega))) ch
  unfold dictDisplay
  exact key _ fun k v main run => rfl

end
section --HeadX

noncomputable abbrev prg : Program := PySem.Challenge.rw_us0023_01.row.prog
noncomputable def env0 : Env := { scope := prg.main.scope, locals := mainNs, globals := mainNs, cells := [], code := .ref 13, frame := some 14 }
noncomputable def cd0 : Code := .body (behindTheImports prg) env0
noncomputable def o3 (P : Params) (v : Value) (more : List DictEntry) (n : Nat) : Obj := dO ([⟨PyData.keyHash P "__name__", .str "__name__" 165, v⟩, ⟨PyData.keyHash P "__doc__", .str "__doc__" 166, .none⟩, ⟨PyData.keyHash P "__package__", .str "__package__" 167, .none⟩,
  ⟨PyData.keyHash P "__loader__", .str "__loader__" 168, .builtin "__main__.__loader__#opaque"⟩, ⟨PyData.keyHash P "__spec__", .str "__spec__" 169, .none⟩, ⟨PyData.keyHash P "__annotations__", .str "__annotations__" 170, .ref 6⟩, ⟨PyData.keyHash P "__builtins__", .str "__builtins__" 171, .ref 4⟩,
  ⟨PyData.keyHash P "__file__", .str "__file__" 173, .str "/claim/cut.py" 172⟩, ⟨PyData.keyHash P "__cached__", .str "__cached__" 174, .none⟩] ++ more) n
noncomputable def o13 : Obj := { cls := .type "code", data := .fields #[.str "<module>" 182, .str "<module>" 183, .str "/claim/cut.py" 184, .int 1 0, .int 0 0, .int 0 0, .int 0 0, .int 0 0, .ref 11, .bool false, .int 181 0, .ref 12, .none, .none, .none, .none, .int 185 0, .int 1 0, .str "/claim/cut.py" 186] }
noncomputable def o14 : Obj := { cls := .type "frame", slots := #[some (.ref 13), some (.ref 3), some (.ref 3), none, some (.str "__main__" 164), none, some (.ref 0)] }
noncomputable def preL (P : Params) (m : Obj) : List Obj := [boot_o_0 P, boot_o_1 P, boot_o_2 P, m, boot_o_4 P, boot_o_5 P, boot_o_6 P, boot_o_7 P, boot_o_8 P, boot_o_9 P, boot_o_10 P, { cls := .type "tuple", data := .seq #[] }, { cls := .none, data := .fields #[] }, o13, o14]
noncomputable def nm1 : Value := .str "cpy313.stringprep" 187
noncomputable def stB (w : World) (os : OsState) : Shared := ⟨⟨(preL w.params (o3 w.params nm1 [] 9)).toArray, {}⟩, #[], {}, 189, os⟩
noncomputable abbrev fr0 : Frame := topFrame ⟨0, 0, 0, 0⟩
noncomputable abbrev ROW := "special-get-raises"

noncomputable def stA (w : World) (os : OsState) : Shared := ⟨⟨(preL w.params (boot_o_3 w.params)).toArray, {}⟩, #[], {}, 187, os⟩
theorem h_pre (w : World) (os : OsState) : topGo treeTable prg w 11 (some (.ref 6)) 12 ⟨boot_heap w.params, Array.mk [], boot_drawn, boot_toks, os⟩ (topStub prg) = some (stA w os, ⟨denote treeTable cd0, cd0, ⟨0,0,0,0⟩, [fr0]⟩) := by kernel_rfl
theorem h_block (w : World) (os : OsState) : segRun treeTable prg w 11 (some (.ref 6)) 1 1 (stA w os) (blockOf (behindTheImports prg) env0 cd0 ⟨0,0,0,0⟩ [fr0]) = some (.next, stA w os, cd0, ⟨0,0,0,0⟩) := by kernel_rfl
noncomputable def st0 : Stmt := .Assign [.Name "__name__" ⟨1, 0, 1, 8⟩] (.Constant (.str "cpy313.stringprep") 0 ⟨1, 11, 1, 30⟩) ⟨1, 0, 1, 30⟩
theorem h_name (w : World) (os : OsState) : segRun treeTable prg w 11 (some (.ref 6)) 1 10 (stA w os) (pieceOf st0 env0 cd0 ⟨0,0,0,0⟩ [fr0]) = some (.next, stB w os, cd0, ⟨1, 0, 1, 8⟩) := by kernel_rfl
theorem h_start (w : World) (os : OsState) {N : Nat} {r : Shared} (h : topRun treeTable prg w 11 (some (.ref 6)) N (stB w os) (restOf ((behindTheImports prg).drop 1) env0 cd0 ⟨1, 0, 1, 8⟩ [fr0]) = some r) :
    topRun treeTable prg w 11 (some (.ref 6)) (12 + (1 + (10 + N))) ⟨boot_heap w.params, Array.mk [], boot_drawn, boot_toks, os⟩ (topStub prg) = some r :=
  go_top (h_pre w os) (piece_block (h_block w os) (piece_cons (st := st0) (rest := (behindTheImports prg).drop 1) (h_name w os) h))
noncomputable def dKeys : List (Option Expr) := match (behindTheImports prg).drop 1 with
  | .Assign _ (.Dict ks _ _) _ :: _ => ks
  | _ => []
noncomputable def dVals : List Expr := match (behindTheImports prg).drop 1 with
  | .Assign _ (.Dict _ vs _) _ :: _ => vs
  | _ => []
noncomputable def pairOf : Option Expr × Expr → Option (Int × Str)
  | (some (.Constant (.int i) _ _), .Constant (.str v) _ _) => some (i, v)
  | _ => none
noncomputable def kvs : List (Int × Str) := (dKeys.zip dVals).filterMap pairOf
noncomputable def chunks : Nat → List (Int × Str) → List (List (Int × Str))
  | 0, _ => []
  | n + 1, l => l.take 17 :: chunks n (l.drop 17)
noncomputable def kA : List (Int × Str) := kvs.take 17
noncomputable def kB : List (List (Int × Str)) := chunks 37 (kvs.drop 17)
noncomputable def kC : List (Int × Str) := kvs.drop 646
noncomputable abbrev q1 : Pos := ⟨2, 16, 2, 8704⟩
noncomputable def st1 : Stmt := .Assign [.Name "b3_exceptions" ⟨2, 0, 2, 13⟩] (.Dict dKeys dVals q1) ⟨2, 0, 2, 8704⟩
theorem body_1 : (behindTheImports prg).drop 1 = st1 :: (behindTheImports prg).drop 2 := by kernel_rfl
theorem items_1 : (evalEachOpt dKeys env0).zip ((evalEach dVals env0).map fun v => do let x ← v; standAt q1; pure x) = (kA ++ (kB.flatten ++ kC)).map (itT env0 q1) := by kernel_rfl
theorem kA_len : kA.length = 17 := by decide +kernel
theorem kB_len : (kB.all fun c => decide (c.length = 17)) = true := by decide +kernel
theorem kB_17 : ∀ c ∈ kB, c.length = 17 := fun c hc => of_decide_eq_true (List.all_eq_true.mp kB_len c hc)
theorem kB_num : kB.length = 37 := by decide +kernel
theorem kB_flat : kB.flatten.length = 629 := by decide +kernel
theorem kC_len : kC.length = 4 := by decide +kernel
theorem k_asc : asc 0 (kA ++ (kB.flatten ++ kC)) = true := by decide +kernel
theorem swaps_1 : swapsWith (.Dict dKeys dVals q1) (some (.Name "b3_exceptions" ⟨2, 0, 2, 13⟩)) (2 : Nat) env0 = pure false := by kernel_rfl
noncomputable def bigE : List DictEntry := runE 240 kB (entsOf 189 kA) ++ entsS 2127 kC
noncomputable def bigO : Obj := dO bigE 650
noncomputable def subs : List Obj := runP 240 kB [] ++ [dO (entsS 2127 kC) 4]
noncomputable def stC (w : World) (os : OsState) : Shared := ⟨mkH (preL w.params (o3 w.params nm1 [] 9)) bigO subs {}, #[], {}, 2139, os⟩
noncomputable def stD (w : World) (os : OsState) : Shared := ⟨mkH (preL w.params (o3 w.params nm1 [⟨PyData.keyHash w.params "b3_exceptions", .str "b3_exceptions" 2139, .ref 15⟩] 10)) bigO subs {}, #[], {}, 2140, os⟩
theorem h_bind_f (w : World) (os : OsState) (K : Unit → Sem Fin) (H : Value → Sem Fin) (gd : Bool → Bool) (lv : List Value → List Value) (N : Nat) :
    topRun treeTable prg w 11 (some (.ref 6)) (N + 6) (stC w os) ⟨(bindName env0 "b3_exceptions" (.ref 15)).wrap K H gd lv, cd0, ⟨2, 0, 2, 13⟩, [fr0]⟩ =
    topRun treeTable prg w 11 (some (.ref 6)) N (stD w os) ⟨K (), cd0, ⟨2, 0, 2, 13⟩, [fr0]⟩ := by kernel_rfl
theorem h_dict (w : World) (os : OsState) {N : Nat} {r : Shared} (h : topRun treeTable prg w 11 (some (.ref 6)) N (stD w os) (restOf ((behindTheImports prg).drop 2) env0 cd0 ⟨2, 0, 2, 13⟩ [fr0]) = some r) :
    topRun treeTable prg w 11 (some (.ref 6)) (N + 12880) (stB w os) (restOf ((behindTheImports prg).drop 1) env0 cd0 ⟨1, 0, 1, 8⟩ [fr0]) = some r := by
  have disp := ev_display (pr := prg) (w := w) (n₀ := 11) (ann := some (.ref 6)) (c := cd0) (f := fr0) (B := []) (q := q1) (pre := preL w.params (o3 w.params nm1 [] 9)) (l := {}) (gens := #[]) (drawn := {}) (T := 189) (os := os) env0 rfl rfl kA kB kC kA_len kB_17 (by rw [kC_len]; decide) (by intro e; have := kC_len; rw [e] at this; cases this) k_asc (by simp only [List.length_append, kA_len, kB_flat, kC_len]; decide)
  rw [kB_flat, kC_len, kB_num] at disp
  have hlen : (runE (189 + 51) kB (entsOf 189 kA) ++ entsS (189 + 51 + 3 * 629) kC).length = 650 := by decide +kernel
  rw [hlen] at disp
  have ev : Ev prg w 11 (some (.ref 6)) cd0 [fr0] 12880 (exec st1 env0) (stB w os) ⟨1, 0, 1, 8⟩ .next (stD w os) ⟨2, 0, 2, 13⟩ := by
    unfold st1
    rw [exec_Assign_Name _ _ _ _ _ swaps_1]
    refine Ev.more (n := (0 + 6 + 1 + (330 * 37 + 330 + 330 + 1)) + 1) ?_ (by decide)
    refine Ev.bind (n := 1) (k := 0 + 6 + 1 + (330 * 37 + 330 + 330 + 1)) (a := ()) (s₁ := stB w os) (p₁ := ⟨2, 0, 2, 8704⟩) (Ev.at (Ev.pure _)) ?_
    refine Ev.bind (n := 330 * 37 + 330 + 330 + 1) (k := 0 + 6 + 1) (a := .ref 15) (s₁ := stC w os) (p₁ := q1) ?_ ?_
    · show Ev _ _ _ _ _ _ _ (do standAt q1; dictDisplay ((evalEachOpt dKeys env0).zip ((evalEach dVals env0).map fun v => do let x ← v; standAt q1; pure x))) _ _ _ _ _
      rw [items_1]
      exact Ev.bind (n := 1) (k := 330 * 37 + 330 + 330) (a := ()) (s₁ := stB w os) (p₁ := q1) (Ev.at (Ev.pure _)) disp
    · refine Ev.bind (n := 1) (k := 0 + 6) (a := ()) (s₁ := stC w os) (p₁ := ⟨2, 0, 2, 13⟩) (Ev.at (Ev.pure _)) ?_
      refine Ev.bind (n := 6) (k := 0) (a := ()) (s₁ := stD w os) (p₁ := ⟨2, 0, 2, 13⟩) ?_ (Ev.pure _)
      intro K H gd lv N r h
      rw [h_bind_f]; exact h
  rw [body_1]
  unfold restOf
  rw [execs_cons_wrap]
  exact ev _ _ _ _ _ _ h

end
section --HeadW

noncomputable def bE0 : List DictEntry := [⟨181, .int 181 189, .str "μ" 190⟩, ⟨223, .int 223 192, .str "ss" 193⟩, ⟨304, .int 304 195, .str "i̇" 196⟩, ⟨329, .int 329 198, .str "ʼn" 199⟩, ⟨383, .int 383 201, .str "s" 202⟩, ⟨496, .int 496 204, .str "ǰ" 205⟩, ⟨837, .int 837 207, .str "ι" 208⟩, ⟨890, .int 890 210, .str " ι" 211⟩, ⟨912, .int 912 213, .str "ΐ" 214⟩, ⟨944, .int 944 216, .str "ΰ" 217⟩, ⟨962, .int 962 219, .str "σ" 220⟩, ⟨976, .int 976 222, .str "β" 223⟩, ⟨977, .int 977 225, .str "θ" 226⟩, ⟨978, .int 978 228, .str "υ" 229⟩, ⟨979, .int 979 231, .str "ύ" 232⟩, ⟨980, .int 980 234, .str "ϋ" 235⟩, ⟨981, .int 981 237, .str "φ" 238⟩, ⟨982, .int 982 240, .str "π" 241⟩, ⟨1008, .int 1008 243, .str "κ" 244⟩, ⟨1009, .int 1009 246, .str "ρ" 247⟩, ⟨1010, .int 1010 249, .str "σ" 250⟩, ⟨1013, .int 1013 252, .str "ε" 253⟩, ⟨1415, .int 1415 255, .str "եւ" 256⟩, ⟨7830, .int 7830 258, .str "ẖ" 259⟩, ⟨7831, .int 7831 261, .str "ẗ" 262⟩, ⟨7832, .int 7832 264, .str "ẘ" 265⟩, ⟨7833, .int 7833 267, .str "ẙ" 268⟩, ⟨7834, .int 7834 270, .str "aʾ" 271⟩, ⟨7835, .int 7835 273, .str "ṡ" 274⟩, ⟨8016, .int 8016 276, .str "ὐ" 277⟩, ⟨8018, .int 8018 279, .str "ὒ" 280⟩, ⟨8020, .int 8020 282, .str "ὔ" 283⟩, ⟨8022, .int 8022 285, .str "ὖ" 286⟩, ⟨8064, .int 8064 288, .str "ἀι" 289⟩, ⟨8065, .int 8065 291, .str "ἁι" 292⟩, ⟨8066, .int 8066 294, .str "ἂι" 295⟩, ⟨8067, .int 8067 297, .str "ἃι" 298⟩, ⟨8068, .int 8068 300, .str "ἄι" 301⟩, ⟨8069, .int 8069 303, .str "ἅι" 304⟩, ⟨8070, .int 8070 306, .str "ἆι" 307⟩, ⟨8071, .int 8071 309, .str "ἇι" 310⟩, ⟨8072, .int 8072 312, .str "ἀι" 313⟩, ⟨8073, .int 8073 315, .str "ἁι" 316⟩, ⟨8074, .int 8074 318, .str "ἂι" 319⟩, ⟨8075, .int 8075 321, .str "ἃι" 322⟩, ⟨8076, .int 8076 324, .str "ἄι" 325⟩, ⟨8077, .int 8077 327, .str "ἅι" 328⟩, ⟨8078, .int 8078 330, .str "ἆι" 331⟩, ⟨8079, .int 8079 333, .str "ἇι" 334⟩, ⟨8080, .int 8080 336, .str "ἠι" 337⟩]
noncomputable def bE1 : List DictEntry := [⟨8081, .int 8081 339, .str "ἡι" 340⟩, ⟨8082, .int 8082 342, .str "ἢι" 343⟩, ⟨8083, .int 8083 345, .str "ἣι" 346⟩, ⟨8084, .int 8084 348, .str "ἤι" 349⟩, ⟨8085, .int 8085 351, .str "ἥι" 352⟩, ⟨8086, .int 8086 354, .str "ἦι" 355⟩, ⟨8087, .int 8087 357, .str "ἧι" 358⟩, ⟨8088, .int 8088 360, .str "ἠι" 361⟩, ⟨8089, .int 8089 363, .str "ἡι" 364⟩, ⟨8090, .int 8090 366, .str "ἢι" 367⟩, ⟨8091, .int 8091 369, .str "ἣι" 370⟩, ⟨8092, .int 8092 372, .str "ἤι" 373⟩, ⟨8093, .int 8093 375, .str "ἥι" 376⟩, ⟨8094, .int 8094 378, .str "ἦι" 379⟩, ⟨8095, .int 8095 381, .str "ἧι" 382⟩, ⟨8096, .int 8096 384, .str "ὠι" 385⟩, ⟨8097, .int 8097 387, .str "ὡι" 388⟩, ⟨8098, .int 8098 390, .str "ὢι" 391⟩, ⟨8099, .int 8099 393, .str "ὣι" 394⟩, ⟨8100, .int 8100 396, .str "ὤι" 397⟩, ⟨8101, .int 8101 399, .str "ὥι" 400⟩, ⟨8102, .int 8102 402, .str "ὦι" 403⟩, ⟨8103, .int 8103 405, .str "ὧι" 406⟩, ⟨8104, .int 8104 408, .str "ὠι" 409⟩, ⟨8105, .int 8105 411, .str "ὡι" 412⟩, ⟨8106, .int 8106 414, .str "ὢι" 415⟩, ⟨8107, .int 8107 417, .str "ὣι" 418⟩, ⟨8108, .int 8108 420, .str "ὤι" 421⟩, ⟨8109, .int 8109 423, .str "ὥι" 424⟩, ⟨8110, .int 8110 426, .str "ὦι" 427⟩, ⟨8111, .int 8111 429, .str "ὧι" 430⟩, ⟨8114, .int 8114 432, .str "ὰι" 433⟩, ⟨8115, .int 8115 435, .str "αι" 436⟩, ⟨8116, .int 8116 438, .str "άι" 439⟩, ⟨8118, .int 8118 441, .str "ᾶ" 442⟩, ⟨8119, .int 8119 444, .str "ᾶι" 445⟩, ⟨8124, .int 8124 447, .str "αι" 448⟩, ⟨8126, .int 8126 450, .str "ι" 451⟩, ⟨8130, .int 8130 453, .str "ὴι" 454⟩, ⟨8131, .int 8131 456, .str "ηι" 457⟩, ⟨8132, .int 8132 459, .str "ήι" 460⟩, ⟨8134, .int 8134 462, .str "ῆ" 463⟩, ⟨8135, .int 8135 465, .str "ῆι" 466⟩, ⟨8140, .int 8140 468, .str "ηι" 469⟩, ⟨8146, .int 8146 471, .str "ῒ" 472⟩, ⟨8147, .int 8147 474, .str "ΐ" 475⟩, ⟨8150, .int 8150 477, .str "ῖ" 478⟩, ⟨8151, .int 8151 480, .str "ῗ" 481⟩, ⟨8162, .int 8162 483, .str "ῢ" 484⟩, ⟨8163, .int 8163 486, .str "ΰ" 487⟩]
noncomputable def bE2 : List DictEntry := [⟨8164, .int 8164 489, .str "ῤ" 490⟩, ⟨8166, .int 8166 492, .str "ῦ" 493⟩, ⟨8167, .int 8167 495, .str "ῧ" 496⟩, ⟨8178, .int 8178 498, .str "ὼι" 499⟩, ⟨8179, .int 8179 501, .str "ωι" 502⟩, ⟨8180, .int 8180 504, .str "ώι" 505⟩, ⟨8182, .int 8182 507, .str "ῶ" 508⟩, ⟨8183, .int 8183 510, .str "ῶι" 511⟩, ⟨8188, .int 8188 513, .str "ωι" 514⟩, ⟨8360, .int 8360 516, .str "rs" 517⟩, ⟨8450, .int 8450 519, .str "c" 520⟩, ⟨8451, .int 8451 522, .str "°c" 523⟩, ⟨8455, .int 8455 525, .str "ɛ" 526⟩, ⟨8457, .int 8457 528, .str "°f" 529⟩, ⟨8459, .int 8459 531, .str "h" 532⟩, ⟨8460, .int 8460 534, .str "h" 535⟩, ⟨8461, .int 8461 537, .str "h" 538⟩, ⟨8464, .int 8464 540, .str "i" 541⟩, ⟨8465, .int 8465 543, .str "i" 544⟩, ⟨8466, .int 8466 546, .str "l" 547⟩, ⟨8469, .int 8469 549, .str "n" 550⟩, ⟨8470, .int 8470 552, .str "no" 553⟩, ⟨8473, .int 8473 555, .str "p" 556⟩, ⟨8474, .int 8474 558, .str "q" 559⟩, ⟨8475, .int 8475 561, .str "r" 562⟩, ⟨8476, .int 8476 564, .str "r" 565⟩, ⟨8477, .int 8477 567, .str "r" 568⟩, ⟨8480, .int 8480 570, .str "sm" 571⟩, ⟨8481, .int 8481 573, .str "tel" 574⟩, ⟨8482, .int 8482 576, .str "tm" 577⟩, ⟨8484, .int 8484 579, .str "z" 580⟩, ⟨8488, .int 8488 582, .str "z" 583⟩, ⟨8492, .int 8492 585, .str "b" 586⟩, ⟨8493, .int 8493 588, .str "c" 589⟩, ⟨8496, .int 8496 591, .str "e" 592⟩, ⟨8497, .int 8497 594, .str "f" 595⟩, ⟨8499, .int 8499 597, .str "m" 598⟩, ⟨8510, .int 8510 600, .str "γ" 601⟩, ⟨8511, .int 8511 603, .str "π" 604⟩, ⟨8517, .int 8517 606, .str "d" 607⟩, ⟨13169, .int 13169 609, .str "hpa" 610⟩, ⟨13171, .int 13171 612, .str "au" 613⟩, ⟨13173, .int 13173 615, .str "ov" 616⟩, ⟨13184, .int 13184 618, .str "pa" 619⟩, ⟨13185, .int 13185 621, .str "na" 622⟩, ⟨13186, .int 13186 624, .str "μa" 625⟩, ⟨13187, .int 13187 627, .str "ma" 628⟩, ⟨13188, .int 13188 630, .str "ka" 631⟩, ⟨13189, .int 13189 633, .str "kb" 634⟩, ⟨13190, .int 13190 636, .str "mb" 637⟩]
noncomputable def bE3 : List DictEntry := [⟨13191, .int 13191 639, .str "gb" 640⟩, ⟨13194, .int 13194 642, .str "pf" 643⟩, ⟨13195, .int 13195 645, .str "nf" 646⟩, ⟨13196, .int 13196 648, .str "μf" 649⟩, ⟨13200, .int 13200 651, .str "hz" 652⟩, ⟨13201, .int 13201 654, .str "khz" 655⟩, ⟨13202, .int 13202 657, .str "mhz" 658⟩, ⟨13203, .int 13203 660, .str "ghz" 661⟩, ⟨13204, .int 13204 663, .str "thz" 664⟩, ⟨13225, .int 13225 666, .str "pa" 667⟩, ⟨13226, .int 13226 669, .str "kpa" 670⟩, ⟨13227, .int 13227 672, .str "mpa" 673⟩, ⟨13228, .int 13228 675, .str "gpa" 676⟩, ⟨13236, .int 13236 678, .str "pv" 679⟩, ⟨13237, .int 13237 681, .str "nv" 682⟩, ⟨13238, .int 13238 684, .str "μv" 685⟩, ⟨13239, .int 13239 687, .str "mv" 688⟩, ⟨13240, .int 13240 690, .str "kv" 691⟩, ⟨13241, .int 13241 693, .str "mv" 694⟩, ⟨13242, .int 13242 696, .str "pw" 697⟩, ⟨13243, .int 13243 699, .str "nw" 700⟩, ⟨13244, .int 13244 702, .str "μw" 703⟩, ⟨13245, .int 13245 705, .str "mw" 706⟩, ⟨13246, .int 13246 708, .str "kw" 709⟩, ⟨13247, .int 13247 711, .str "mw" 712⟩, ⟨13248, .int 13248 714, .str "kω" 715⟩, ⟨13249, .int 13249 717, .str "mω" 718⟩, ⟨13251, .int 13251 720, .str "bq" 721⟩, ⟨13254, .int 13254 723, .str "c∕kg" 724⟩, ⟨13255, .int 13255 726, .str "co." 727⟩, ⟨13256, .int 13256 729, .str "db" 730⟩, ⟨13257, .int 13257 732, .str "gy" 733⟩, ⟨13259, .int 13259 735, .str "hp" 736⟩, ⟨13261, .int 13261 738, .str "kk" 739⟩, ⟨13262, .int 13262 741, .str "km" 742⟩, ⟨13271, .int 13271 744, .str "ph" 745⟩, ⟨13273, .int 13273 747, .str "ppm" 748⟩, ⟨13274, .int 13274 750, .str "pr" 751⟩, ⟨13276, .int 13276 753, .str "sv" 754⟩, ⟨13277, .int 13277 756, .str "wb" 757⟩, ⟨64256, .int 64256 759, .str "ff" 760⟩, ⟨64257, .int 64257 762, .str "fi" 763⟩, ⟨64258, .int 64258 765, .str "fl" 766⟩, ⟨64259, .int 64259 768, .str "ffi" 769⟩, ⟨64260, .int 64260 771, .str "ffl" 772⟩, ⟨64261, .int 64261 774, .str "st" 775⟩, ⟨64262, .int 64262 777, .str "st" 778⟩, ⟨64275, .int 64275 780, .str "մն" 781⟩, ⟨64276, .int 64276 783, .str "մե" 784⟩, ⟨64277, .int 64277 786, .str "մի" 787⟩]
noncomputable def bE4 : List DictEntry := [⟨64278, .int 64278 789, .str "վն" 790⟩, ⟨64279, .int 64279 792, .str "մխ" 793⟩, ⟨119808, .int 119808 795, .str "a" 796⟩, ⟨119809, .int 119809 798, .str "b" 799⟩, ⟨119810, .int 119810 801, .str "c" 802⟩, ⟨119811, .int 119811 804, .str "d" 805⟩, ⟨119812, .int 119812 807, .str "e" 808⟩, ⟨119813, .int 119813 810, .str "f" 811⟩, ⟨119814, .int 119814 813, .str "g" 814⟩, ⟨119815, .int 119815 816, .str "h" 817⟩, ⟨119816, .int 119816 819, .str "i" 820⟩, ⟨119817, .int 119817 822, .str "j" 823⟩, ⟨119818, .int 119818 825, .str "k" 826⟩, ⟨119819, .int 119819 828, .str "l" 829⟩, ⟨119820, .int 119820 831, .str "m" 832⟩, ⟨119821, .int 119821 834, .str "n" 835⟩, ⟨119822, .int 119822 837, .str "o" 838⟩, ⟨119823, .int 119823 840, .str "p" 841⟩, ⟨119824, .int 119824 843, .str "q" 844⟩, ⟨119825, .int 119825 846, .str "r" 847⟩, ⟨119826, .int 119826 849, .str "s" 850⟩, ⟨119827, .int 119827 852, .str "t" 853⟩, ⟨119828, .int 119828 855, .str "u" 856⟩, ⟨119829, .int 119829 858, .str "v" 859⟩, ⟨119830, .int 119830 861, .str "w" 862⟩, ⟨119831, .int 119831 864, .str "x" 865⟩, ⟨119832, .int 119832 867, .str "y" 868⟩, ⟨119833, .int 119833 870, .str "z" 871⟩, ⟨119860, .int 119860 873, .str "a" 874⟩, ⟨119861, .int 119861 876, .str "b" 877⟩, ⟨119862, .int 119862 879, .str "c" 880⟩, ⟨119863, .int 119863 882, .str "d" 883⟩, ⟨119864, .int 119864 885, .str "e" 886⟩, ⟨119865, .int 119865 888, .str "f" 889⟩, ⟨119866, .int 119866 891, .str "g" 892⟩, ⟨119867, .int 119867 894, .str "h" 895⟩, ⟨119868, .int 119868 897, .str "i" 898⟩, ⟨119869, .int 119869 900, .str "j" 901⟩, ⟨119870, .int 119870 903, .str "k" 904⟩, ⟨119871, .int 119871 906, .str "l" 907⟩, ⟨119872, .int 119872 909, .str "m" 910⟩, ⟨119873, .int 119873 912, .str "n" 913⟩, ⟨119874, .int 119874 915, .str "o" 916⟩, ⟨119875, .int 119875 918, .str "p" 919⟩, ⟨119876, .int 119876 921, .str "q" 922⟩, ⟨119877, .int 119877 924, .str "r" 925⟩, ⟨119878, .int 119878 927, .str "s" 928⟩, ⟨119879, .int 119879 930, .str "t" 931⟩, ⟨119880, .int 119880 933, .str "u" 934⟩, ⟨119881, .int 119881 936, .str "v" 937⟩]
noncomputable def bE5 : List DictEntry := [⟨119882, .int 119882 939, .str "w" 940⟩, ⟨119883, .int 119883 942, .str "x" 943⟩, ⟨119884, .int 119884 945, .str "y" 946⟩, ⟨119885, .int 119885 948, .str "z" 949⟩, ⟨119912, .int 119912 951, .str "a" 952⟩, ⟨119913, .int 119913 954, .str "b" 955⟩, ⟨119914, .int 119914 957, .str "c" 958⟩, ⟨119915, .int 119915 960, .str "d" 961⟩, ⟨119916, .int 119916 963, .str "e" 964⟩, ⟨119917, .int 119917 966, .str "f" 967⟩, ⟨119918, .int 119918 969, .str "g" 970⟩, ⟨119919, .int 119919 972, .str "h" 973⟩, ⟨119920, .int 119920 975, .str "i" 976⟩, ⟨119921, .int 119921 978, .str "j" 979⟩, ⟨119922, .int 119922 981, .str "k" 982⟩, ⟨119923, .int 119923 984, .str "l" 985⟩, ⟨119924, .int 119924 987, .str "m" 988⟩, ⟨119925, .int 119925 990, .str "n" 991⟩, ⟨119926, .int 119926 993, .str "o" 994⟩, ⟨119927, .int 119927 996, .str "p" 997⟩, ⟨119928, .int 119928 999, .str "q" 1000⟩, ⟨119929, .int 119929 1002, .str "r" 1003⟩, ⟨119930, .int 119930 1005, .str "s" 1006⟩, ⟨119931, .int 119931 1008, .str "t" 1009⟩, ⟨119932, .int 119932 1011, .str "u" 1012⟩, ⟨119933, .int 119933 1014, .str "v" 1015⟩, ⟨119934, .int 119934 1017, .str "w" 1018⟩, ⟨119935, .int 119935 1020, .str "x" 1021⟩, ⟨119936, .int 119936 1023, .str "y" 1024⟩, ⟨119937, .int 119937 1026, .str "z" 1027⟩, ⟨119964, .int 119964 1029, .str "a" 1030⟩, ⟨119966, .int 119966 1032, .str "c" 1033⟩, ⟨119967, .int 119967 1035, .str "d" 1036⟩, ⟨119970, .int 119970 1038, .str "g" 1039⟩, ⟨119973, .int 119973 1041, .str "j" 1042⟩, ⟨119974, .int 119974 1044, .str "k" 1045⟩, ⟨119977, .int 119977 1047, .str "n" 1048⟩, ⟨119978, .int 119978 1050, .str "o" 1051⟩, ⟨119979, .int 119979 1053, .str "p" 1054⟩, ⟨119980, .int 119980 1056, .str "q" 1057⟩, ⟨119982, .int 119982 1059, .str "s" 1060⟩, ⟨119983, .int 119983 1062, .str "t" 1063⟩, ⟨119984, .int 119984 1065, .str "u" 1066⟩, ⟨119985, .int 119985 1068, .str "v" 1069⟩, ⟨119986, .int 119986 1071, .str "w" 1072⟩, ⟨119987, .int 119987 1074, .str "x" 1075⟩, ⟨119988, .int 119988 1077, .str "y" 1078⟩, ⟨119989, .int 119989 1080, .str "z" 1081⟩, ⟨120016, .int 120016 1083, .str "a" 1084⟩, ⟨120017, .int 120017 1086, .str "b" 1087⟩]
noncomputable def bE6 : List DictEntry := [⟨120018, .int 120018 1089, .str "c" 1090⟩, ⟨120019, .int 120019 1092, .str "d" 1093⟩, ⟨120020, .int 120020 1095, .str "e" 1096⟩, ⟨120021, .int 120021 1098, .str "f" 1099⟩, ⟨120022, .int 120022 1101, .str "g" 1102⟩, ⟨120023, .int 120023 1104, .str "h" 1105⟩, ⟨120024, .int 120024 1107, .str "i" 1108⟩, ⟨120025, .int 120025 1110, .str "j" 1111⟩, ⟨120026, .int 120026 1113, .str "k" 1114⟩, ⟨120027, .int 120027 1116, .str "l" 1117⟩, ⟨120028, .int 120028 1119, .str "m" 1120⟩, ⟨120029, .int 120029 1122, .str "n" 1123⟩, ⟨120030, .int 120030 1125, .str "o" 1126⟩, ⟨120031, .int 120031 1128, .str "p" 1129⟩, ⟨120032, .int 120032 1131, .str "q" 1132⟩, ⟨120033, .int 120033 1134, .str "r" 1135⟩, ⟨120034, .int 120034 1137, .str "s" 1138⟩, ⟨120035, .int 120035 1140, .str "t" 1141⟩, ⟨120036, .int 120036 1143, .str "u" 1144⟩, ⟨120037, .int 120037 1146, .str "v" 1147⟩, ⟨120038, .int 120038 1149, .str "w" 1150⟩, ⟨120039, .int 120039 1152, .str "x" 1153⟩, ⟨120040, .int 120040 1155, .str "y" 1156⟩, ⟨120041, .int 120041 1158, .str "z" 1159⟩, ⟨120068, .int 120068 1161, .str "a" 1162⟩, ⟨120069, .int 120069 1164, .str "b" 1165⟩, ⟨120071, .int 120071 1167, .str "d" 1168⟩, ⟨120072, .int 120072 1170, .str "e" 1171⟩, ⟨120073, .int 120073 1173, .str "f" 1174⟩, ⟨120074, .int 120074 1176, .str "g" 1177⟩, ⟨120077, .int 120077 1179, .str "j" 1180⟩, ⟨120078, .int 120078 1182, .str "k" 1183⟩, ⟨120079, .int 120079 1185, .str "l" 1186⟩, ⟨120080, .int 120080 1188, .str "m" 1189⟩, ⟨120081, .int 120081 1191, .str "n" 1192⟩, ⟨120082, .int 120082 1194, .str "o" 1195⟩, ⟨120083, .int 120083 1197, .str "p" 1198⟩, ⟨120084, .int 120084 1200, .str "q" 1201⟩, ⟨120086, .int 120086 1203, .str "s" 1204⟩, ⟨120087, .int 120087 1206, .str "t" 1207⟩, ⟨120088, .int 120088 1209, .str "u" 1210⟩, ⟨120089, .int 120089 1212, .str "v" 1213⟩, ⟨120090, .int 120090 1215, .str "w" 1216⟩, ⟨120091, .int 120091 1218, .str "x" 1219⟩, ⟨120092, .int 120092 1221, .str "y" 1222⟩, ⟨120120, .int 120120 1224, .str "a" 1225⟩, ⟨120121, .int 120121 1227, .str "b" 1228⟩, ⟨120123, .int 120123 1230, .str "d" 1231⟩, ⟨120124, .int 120124 1233, .str "e" 1234⟩, ⟨120125, .int 120125 1236, .str "f" 1237⟩]
noncomputable def bE7 : List DictEntry := [⟨120126, .int 120126 1239, .str "g" 1240⟩, ⟨120128, .int 120128 1242, .str "i" 1243⟩, ⟨120129, .int 120129 1245, .str "j" 1246⟩, ⟨120130, .int 120130 1248, .str "k" 1249⟩, ⟨120131, .int 120131 1251, .str "l" 1252⟩, ⟨120132, .int 120132 1254, .str "m" 1255⟩, ⟨120134, .int 120134 1257, .str "o" 1258⟩, ⟨120138, .int 120138 1260, .str "s" 1261⟩, ⟨120139, .int 120139 1263, .str "t" 1264⟩, ⟨120140, .int 120140 1266, .str "u" 1267⟩, ⟨120141, .int 120141 1269, .str "v" 1270⟩, ⟨120142, .int 120142 1272, .str "w" 1273⟩, ⟨120143, .int 120143 1275, .str "x" 1276⟩, ⟨120144, .int 120144 1278, .str "y" 1279⟩, ⟨120172, .int 120172 1281, .str "a" 1282⟩, ⟨120173, .int 120173 1284, .str "b" 1285⟩, ⟨120174, .int 120174 1287, .str "c" 1288⟩, ⟨120175, .int 120175 1290, .str "d" 1291⟩, ⟨120176, .int 120176 1293, .str "e" 1294⟩, ⟨120177, .int 120177 1296, .str "f" 1297⟩, ⟨120178, .int 120178 1299, .str "g" 1300⟩, ⟨120179, .int 120179 1302, .str "h" 1303⟩, ⟨120180, .int 120180 1305, .str "i" 1306⟩, ⟨120181, .int 120181 1308, .str "j" 1309⟩, ⟨120182, .int 120182 1311, .str "k" 1312⟩, ⟨120183, .int 120183 1314, .str "l" 1315⟩, ⟨120184, .int 120184 1317, .str "m" 1318⟩, ⟨120185, .int 120185 1320, .str "n" 1321⟩, ⟨120186, .int 120186 1323, .str "o" 1324⟩, ⟨120187, .int 120187 1326, .str "p" 1327⟩, ⟨120188, .int 120188 1329, .str "q" 1330⟩, ⟨120189, .int 120189 1332, .str "r" 1333⟩, ⟨120190, .int 120190 1335, .str "s" 1336⟩, ⟨120191, .int 120191 1338, .str "t" 1339⟩, ⟨120192, .int 120192 1341, .str "u" 1342⟩, ⟨120193, .int 120193 1344, .str "v" 1345⟩, ⟨120194, .int 120194 1347, .str "w" 1348⟩, ⟨120195, .int 120195 1350, .str "x" 1351⟩, ⟨120196, .int 120196 1353, .str "y" 1354⟩, ⟨120197, .int 120197 1356, .str "z" 1357⟩, ⟨120224, .int 120224 1359, .str "a" 1360⟩, ⟨120225, .int 120225 1362, .str "b" 1363⟩, ⟨120226, .int 120226 1365, .str "c" 1366⟩, ⟨120227, .int 120227 1368, .str "d" 1369⟩, ⟨120228, .int 120228 1371, .str "e" 1372⟩, ⟨120229, .int 120229 1374, .str "f" 1375⟩, ⟨120230, .int 120230 1377, .str "g" 1378⟩, ⟨120231, .int 120231 1380, .str "h" 1381⟩, ⟨120232, .int 120232 1383, .str "i" 1384⟩, ⟨120233, .int 120233 1386, .str "j" 1387⟩]
noncomputable def bE8 : List DictEntry := [⟨120234, .int 120234 1389, .str "k" 1390⟩, ⟨120235, .int 120235 1392, .str "l" 1393⟩, ⟨120236, .int 120236 1395, .str "m" 1396⟩, ⟨120237, .int 120237 1398, .str "n" 1399⟩, ⟨120238, .int 120238 1401, .str "o" 1402⟩, ⟨120239, .int 120239 1404, .str "p" 1405⟩, ⟨120240, .int 120240 1407, .str "q" 1408⟩, ⟨120241, .int 120241 1410, .str "r" 1411⟩, ⟨120242, .int 120242 1413, .str "s" 1414⟩, ⟨120243, .int 120243 1416, .str "t" 1417⟩, ⟨120244, .int 120244 1419, .str "u" 1420⟩, ⟨120245, .int 120245 1422, .str "v" 1423⟩, ⟨120246, .int 120246 1425, .str "w" 1426⟩, ⟨120247, .int 120247 1428, .str "x" 1429⟩, ⟨120248, .int 120248 1431, .str "y" 1432⟩, ⟨120249, .int 120249 1434, .str "z" 1435⟩, ⟨120276, .int 120276 1437, .str "a" 1438⟩, ⟨120277, .int 120277 1440, .str "b" 1441⟩, ⟨120278, .int 120278 1443, .str "c" 1444⟩, ⟨120279, .int 120279 1446, .str "d" 1447⟩, ⟨120280, .int 120280 1449, .str "e" 1450⟩, ⟨120281, .int 120281 1452, .str "f" 1453⟩, ⟨120282, .int 120282 1455, .str "g" 1456⟩, ⟨120283, .int 120283 1458, .str "h" 1459⟩, ⟨120284, .int 120284 1461, .str "i" 1462⟩, ⟨120285, .int 120285 1464, .str "j" 1465⟩, ⟨120286, .int 120286 1467, .str "k" 1468⟩, ⟨120287, .int 120287 1470, .str "l" 1471⟩, ⟨120288, .int 120288 1473, .str "m" 1474⟩, ⟨120289, .int 120289 1476, .str "n" 1477⟩, ⟨120290, .int 120290 1479, .str "o" 1480⟩, ⟨120291, .int 120291 1482, .str "p" 1483⟩, ⟨120292, .int 120292 1485, .str "q" 1486⟩, ⟨120293, .int 120293 1488, .str "r" 1489⟩, ⟨120294, .int 120294 1491, .str "s" 1492⟩, ⟨120295, .int 120295 1494, .str "t" 1495⟩, ⟨120296, .int 120296 1497, .str "u" 1498⟩, ⟨120297, .int 120297 1500, .str "v" 1501⟩, ⟨120298, .int 120298 1503, .str "w" 1504⟩, ⟨120299, .int 120299 1506, .str "x" 1507⟩, ⟨120300, .int 120300 1509, .str "y" 1510⟩, ⟨120301, .int 120301 1512, .str "z" 1513⟩, ⟨120328, .int 120328 1515, .str "a" 1516⟩, ⟨120329, .int 120329 1518, .str "b" 1519⟩, ⟨120330, .int 120330 1521, .str "c" 1522⟩, ⟨120331, .int 120331 1524, .str "d" 1525⟩, ⟨120332, .int 120332 1527, .str "e" 1528⟩, ⟨120333, .int 120333 1530, .str "f" 1531⟩, ⟨120334, .int 120334 1533, .str "g" 1534⟩, ⟨120335, .int 120335 1536, .str "h" 1537⟩]
noncomputable def bE9 : List DictEntry := [⟨120336, .int 120336 1539, .str "i" 1540⟩, ⟨120337, .int 120337 1542, .str "j" 1543⟩, ⟨120338, .int 120338 1545, .str "k" 1546⟩, ⟨120339, .int 120339 1548, .str "l" 1549⟩, ⟨120340, .int 120340 1551, .str "m" 1552⟩, ⟨120341, .int 120341 1554, .str "n" 1555⟩, ⟨120342, .int 120342 1557, .str "o" 1558⟩, ⟨120343, .int 120343 1560, .str "p" 1561⟩, ⟨120344, .int 120344 1563, .str "q" 1564⟩, ⟨120345, .int 120345 1566, .str "r" 1567⟩, ⟨120346, .int 120346 1569, .str "s" 1570⟩, ⟨120347, .int 120347 1572, .str "t" 1573⟩, ⟨120348, .int 120348 1575, .str "u" 1576⟩, ⟨120349, .int 120349 1578, .str "v" 1579⟩, ⟨120350, .int 120350 1581, .str "w" 1582⟩, ⟨120351, .int 120351 1584, .str "x" 1585⟩, ⟨120352, .int 120352 1587, .str "y" 1588⟩, ⟨120353, .int 120353 1590, .str "z" 1591⟩, ⟨120380, .int 120380 1593, .str "a" 1594⟩, ⟨120381, .int 120381 1596, .str "b" 1597⟩, ⟨120382, .int 120382 1599, .str "c" 1600⟩, ⟨120383, .int 120383 1602, .str "d" 1603⟩, ⟨120384, .int 120384 1605, .str "e" 1606⟩, ⟨120385, .int 120385 1608, .str "f" 1609⟩, ⟨120386, .int 120386 1611, .str "g" 1612⟩, ⟨120387, .int 120387 1614, .str "h" 1615⟩, ⟨120388, .int 120388 1617, .str "i" 1618⟩, ⟨120389, .int 120389 1620, .str "j" 1621⟩, ⟨120390, .int 120390 1623, .str "k" 1624⟩, ⟨120391, .int 120391 1626, .str "l" 1627⟩, ⟨120392, .int 120392 1629, .str "m" 1630⟩, ⟨120393, .int 120393 1632, .str "n" 1633⟩, ⟨120394, .int 120394 1635, .str "o" 1636⟩, ⟨120395, .int 120395 1638, .str "p" 1639⟩, ⟨120396, .int 120396 1641, .str "q" 1642⟩, ⟨120397, .int 120397 1644, .str "r" 1645⟩, ⟨120398, .int 120398 1647, .str "s" 1648⟩, ⟨120399, .int 120399 1650, .str "t" 1651⟩, ⟨120400, .int 120400 1653, .str "u" 1654⟩, ⟨120401, .int 120401 1656, .str "v" 1657⟩, ⟨120402, .int 120402 1659, .str "w" 1660⟩, ⟨120403, .int 120403 1662, .str "x" 1663⟩, ⟨120404, .int 120404 1665, .str "y" 1666⟩, ⟨120405, .int 120405 1668, .str "z" 1669⟩, ⟨120432, .int 120432 1671, .str "a" 1672⟩, ⟨120433, .int 120433 1674, .str "b" 1675⟩, ⟨120434, .int 120434 1677, .str "c" 1678⟩, ⟨120435, .int 120435 1680, .str "d" 1681⟩, ⟨120436, .int 120436 1683, .str "e" 1684⟩, ⟨120437, .int 120437 1686, .str "f" 1687⟩]
noncomputable def bE10 : List DictEntry := [⟨120438, .int 120438 1689, .str "g" 1690⟩, ⟨120439, .int 120439 1692, .str "h" 1693⟩, ⟨120440, .int 120440 1695, .str "i" 1696⟩, ⟨120441, .int 120441 1698, .str "j" 1699⟩, ⟨120442, .int 120442 1701, .str "k" 1702⟩, ⟨120443, .int 120443 1704, .str "l" 1705⟩, ⟨120444, .int 120444 1707, .str "m" 1708⟩, ⟨120445, .int 120445 1710, .str "n" 1711⟩, ⟨120446, .int 120446 1713, .str "o" 1714⟩, ⟨120447, .int 120447 1716, .str "p" 1717⟩, ⟨120448, .int 120448 1719, .str "q" 1720⟩, ⟨120449, .int 120449 1722, .str "r" 1723⟩, ⟨120450, .int 120450 1725, .str "s" 1726⟩, ⟨120451, .int 120451 1728, .str "t" 1729⟩, ⟨120452, .int 120452 1731, .str "u" 1732⟩, ⟨120453, .int 120453 1734, .str "v" 1735⟩, ⟨120454, .int 120454 1737, .str "w" 1738⟩, ⟨120455, .int 120455 1740, .str "x" 1741⟩, ⟨120456, .int 120456 1743, .str "y" 1744⟩, ⟨120457, .int 120457 1746, .str "z" 1747⟩, ⟨120488, .int 120488 1749, .str "α" 1750⟩, ⟨120489, .int 120489 1752, .str "β" 1753⟩, ⟨120490, .int 120490 1755, .str "γ" 1756⟩, ⟨120491, .int 120491 1758, .str "δ" 1759⟩, ⟨120492, .int 120492 1761, .str "ε" 1762⟩, ⟨120493, .int 120493 1764, .str "ζ" 1765⟩, ⟨120494, .int 120494 1767, .str "η" 1768⟩, ⟨120495, .int 120495 1770, .str "θ" 1771⟩, ⟨120496, .int 120496 1773, .str "ι" 1774⟩, ⟨120497, .int 120497 1776, .str "κ" 1777⟩, ⟨120498, .int 120498 1779, .str "λ" 1780⟩, ⟨120499, .int 120499 1782, .str "μ" 1783⟩, ⟨120500, .int 120500 1785, .str "ν" 1786⟩, ⟨120501, .int 120501 1788, .str "ξ" 1789⟩, ⟨120502, .int 120502 1791, .str "ο" 1792⟩, ⟨120503, .int 120503 1794, .str "π" 1795⟩, ⟨120504, .int 120504 1797, .str "ρ" 1798⟩, ⟨120505, .int 120505 1800, .str "θ" 1801⟩, ⟨120506, .int 120506 1803, .str "σ" 1804⟩, ⟨120507, .int 120507 1806, .str "τ" 1807⟩, ⟨120508, .int 120508 1809, .str "υ" 1810⟩, ⟨120509, .int 120509 1812, .str "φ" 1813⟩, ⟨120510, .int 120510 1815, .str "χ" 1816⟩, ⟨120511, .int 120511 1818, .str "ψ" 1819⟩, ⟨120512, .int 120512 1821, .str "ω" 1822⟩, ⟨120531, .int 120531 1824, .str "σ" 1825⟩, ⟨120546, .int 120546 1827, .str "α" 1828⟩, ⟨120547, .int 120547 1830, .str "β" 1831⟩, ⟨120548, .int 120548 1833, .str "γ" 1834⟩, ⟨120549, .int 120549 1836, .str "δ" 1837⟩]
noncomputable def bE11 : List DictEntry := [⟨120550, .int 120550 1839, .str "ε" 1840⟩, ⟨120551, .int 120551 1842, .str "ζ" 1843⟩, ⟨120552, .int 120552 1845, .str "η" 1846⟩, ⟨120553, .int 120553 1848, .str "θ" 1849⟩, ⟨120554, .int 120554 1851, .str "ι" 1852⟩, ⟨120555, .int 120555 1854, .str "κ" 1855⟩, ⟨120556, .int 120556 1857, .str "λ" 1858⟩, ⟨120557, .int 120557 1860, .str "μ" 1861⟩, ⟨120558, .int 120558 1863, .str "ν" 1864⟩, ⟨120559, .int 120559 1866, .str "ξ" 1867⟩, ⟨120560, .int 120560 1869, .str "ο" 1870⟩, ⟨120561, .int 120561 1872, .str "π" 1873⟩, ⟨120562, .int 120562 1875, .str "ρ" 1876⟩, ⟨120563, .int 120563 1878, .str "θ" 1879⟩, ⟨120564, .int 120564 1881, .str "σ" 1882⟩, ⟨120565, .int 120565 1884, .str "τ" 1885⟩, ⟨120566, .int 120566 1887, .str "υ" 1888⟩, ⟨120567, .int 120567 1890, .str "φ" 1891⟩, ⟨120568, .int 120568 1893, .str "χ" 1894⟩, ⟨120569, .int 120569 1896, .str "ψ" 1897⟩, ⟨120570, .int 120570 1899, .str "ω" 1900⟩, ⟨120589, .int 120589 1902, .str "σ" 1903⟩, ⟨120604, .int 120604 1905, .str "α" 1906⟩, ⟨120605, .int 120605 1908, .str "β" 1909⟩, ⟨120606, .int 120606 1911, .str "γ" 1912⟩, ⟨120607, .int 120607 1914, .str "δ" 1915⟩, ⟨120608, .int 120608 1917, .str "ε" 1918⟩, ⟨120609, .int 120609 1920, .str "ζ" 1921⟩, ⟨120610, .int 120610 1923, .str "η" 1924⟩, ⟨120611, .int 120611 1926, .str "θ" 1927⟩, ⟨120612, .int 120612 1929, .str "ι" 1930⟩, ⟨120613, .int 120613 1932, .str "κ" 1933⟩, ⟨120614, .int 120614 1935, .str "λ" 1936⟩, ⟨120615, .int 120615 1938, .str "μ" 1939⟩, ⟨120616, .int 120616 1941, .str "ν" 1942⟩, ⟨120617, .int 120617 1944, .str "ξ" 1945⟩, ⟨120618, .int 120618 1947, .str "ο" 1948⟩, ⟨120619, .int 120619 1950, .str "π" 1951⟩, ⟨120620, .int 120620 1953, .str "ρ" 1954⟩, ⟨120621, .int 120621 1956, .str "θ" 1957⟩, ⟨120622, .int 120622 1959, .str "σ" 1960⟩, ⟨120623, .int 120623 1962, .str "τ" 1963⟩, ⟨120624, .int 120624 1965, .str "υ" 1966⟩, ⟨120625, .int 120625 1968, .str "φ" 1969⟩, ⟨120626, .int 120626 1971, .str "χ" 1972⟩, ⟨120627, .int 120627 1974, .str "ψ" 1975⟩, ⟨120628, .int 120628 1977, .str "ω" 1978⟩, ⟨120647, .int 120647 1980, .str "σ" 1981⟩, ⟨120662, .int 120662 1983, .str "α" 1984⟩, ⟨120663, .int 120663 1986, .str "β" 1987⟩]
noncomputable def bE12 : List DictEntry := [⟨120664, .int 120664 1989, .str "γ" 1990⟩, ⟨120665, .int 120665 1992, .str "δ" 1993⟩, ⟨120666, .int 120666 1995, .str "ε" 1996⟩, ⟨120667, .int 120667 1998, .str "ζ" 1999⟩, ⟨120668, .int 120668 2001, .str "η" 2002⟩, ⟨120669, .int 120669 2004, .str "θ" 2005⟩, ⟨120670, .int 120670 2007, .str "ι" 2008⟩, ⟨120671, .int 120671 2010, .str "κ" 2011⟩, ⟨120672, .int 120672 2013, .str "λ" 2014⟩, ⟨120673, .int 120673 2016, .str "μ" 2017⟩, ⟨120674, .int 120674 2019, .str "ν" 2020⟩, ⟨120675, .int 120675 2022, .str "ξ" 2023⟩, ⟨120676, .int 120676 2025, .str "ο" 2026⟩, ⟨120677, .int 120677 2028, .str "π" 2029⟩, ⟨120678, .int 120678 2031, .str "ρ" 2032⟩, ⟨120679, .int 120679 2034, .str "θ" 2035⟩, ⟨120680, .int 120680 2037, .str "σ" 2038⟩, ⟨120681, .int 120681 2040, .str "τ" 2041⟩, ⟨120682, .int 120682 2043, .str "υ" 2044⟩, ⟨120683, .int 120683 2046, .str "φ" 2047⟩, ⟨120684, .int 120684 2049, .str "χ" 2050⟩, ⟨120685, .int 120685 2052, .str "ψ" 2053⟩, ⟨120686, .int 120686 2055, .str "ω" 2056⟩, ⟨120705, .int 120705 2058, .str "σ" 2059⟩, ⟨120720, .int 120720 2061, .str "α" 2062⟩, ⟨120721, .int 120721 2064, .str "β" 2065⟩, ⟨120722, .int 120722 2067, .str "γ" 2068⟩, ⟨120723, .int 120723 2070, .str "δ" 2071⟩, ⟨120724, .int 120724 2073, .str "ε" 2074⟩, ⟨120725, .int 120725 2076, .str "ζ" 2077⟩, ⟨120726, .int 120726 2079, .str "η" 2080⟩, ⟨120727, .int 120727 2082, .str "θ" 2083⟩, ⟨120728, .int 120728 2085, .str "ι" 2086⟩, ⟨120729, .int 120729 2088, .str "κ" 2089⟩, ⟨120730, .int 120730 2091, .str "λ" 2092⟩, ⟨120731, .int 120731 2094, .str "μ" 2095⟩, ⟨120732, .int 120732 2097, .str "ν" 2098⟩, ⟨120733, .int 120733 2100, .str "ξ" 2101⟩, ⟨120734, .int 120734 2103, .str "ο" 2104⟩, ⟨120735, .int 120735 2106, .str "π" 2107⟩, ⟨120736, .int 120736 2109, .str "ρ" 2110⟩, ⟨120737, .int 120737 2112, .str "θ" 2113⟩, ⟨120738, .int 120738 2115, .str "σ" 2116⟩, ⟨120739, .int 120739 2118, .str "τ" 2119⟩, ⟨120740, .int 120740 2121, .str "υ" 2122⟩, ⟨120741, .int 120741 2124, .str "φ" 2125⟩, ⟨120742, .int 120742 2127, .str "χ" 2128⟩, ⟨120743, .int 120743 2129, .str "ψ" 2130⟩, ⟨120744, .int 120744 2131, .str "ω" 2132⟩, ⟨120763, .int 120763 2133, .str "σ" 2134⟩]
noncomputable def bigL : List DictEntry := bE0 ++ bE1 ++ bE2 ++ bE3 ++ bE4 ++ bE5 ++ bE6 ++ bE7 ++ bE8 ++ bE9 ++ bE10 ++ bE11 ++ bE12
theorem bigE_lit : bigE = bigL := by kernel_rfl
noncomputable def subN (i : Nat) : Obj := subs.getD i default
theorem subs_lit : subs = [subN 0, subN 1, subN 2, subN 3, subN 4, subN 5, subN 6, subN 7, subN 8, subN 9, subN 10, subN 11, subN 12, subN 13, subN 14, subN 15, subN 16, subN 17, subN 18, subN 19, subN 20, subN 21, subN 22, subN 23, subN 24, subN 25, subN 26, subN 27, subN 28, subN 29, subN 30, subN 31, subN 32, subN 33, subN 34, subN 35, subN 36, subN 37] := by kernel_rfl
noncomputable def fnO (i : Nat) (g : Addr) (dflt kwd doc pm cd ct cls : Value) : Obj := match (behindTheImports prg)[i]? with
  | some (.FunctionDef name args body _ _ _ scope _ _ _) => { cls := cls, data := .func { name := name, qualname := name, params := args, body := .stmts body, scope := scope, globals := g, closure := [], defaults := dflt, kwdefaults := kwd, doc := doc, pyModule := pm, annotations := none, code := cd, closureTuple := ct, builtins := 0 } }
  | _ => default
noncomputable def o3F (P : Params) : Obj := dO [⟨PyData.keyHash P "__name__", .str "__name__" 165, .str "law_us0023_01" 2318⟩,
  ⟨PyData.keyHash P "__doc__", .str "__doc__" 166, .none⟩,
  ⟨PyData.keyHash P "__package__", .str "__package__" 167, .none⟩,
  ⟨PyData.keyHash P "__loader__", .str "__loader__" 168, .builtin "__main__.__loader__#opaque"⟩,
  ⟨PyData.keyHash P "__spec__", .str "__spec__" 169, .none⟩,
  ⟨PyData.keyHash P "__annotations__", .str "__annotations__" 170, .ref 6⟩,
  ⟨PyData.keyHash P "__builtins__", .str "__builtins__" 171, .ref 4⟩,
  ⟨PyData.keyHash P "__file__", .str "__file__" 173, .str "/claim/cut.py" 172⟩,
  ⟨PyData.keyHash P "__cached__", .str "__cached__" 174, .none⟩,
  ⟨PyData.keyHash P "b3_exceptions", .str "b3_exceptions" 2139, .ref 15⟩,
  ⟨PyData.keyHash P "map_table_b3", .str "map_table_b3" 2147, .ref 60⟩,
  ⟨PyData.keyHash P "_DIV_LIMIT", .str "_DIV_LIMIT" 2151, .int 4000 2150⟩,
  ⟨PyData.keyHash P "_div2n1n", .str "_div2n1n" 2168, .ref 67⟩,
  ⟨PyData.keyHash P "_div3n2n", .str "_div3n2n" 2182, .ref 74⟩,
  ⟨PyData.keyHash P "_int2digits", .str "_int2digits" 2193, .ref 81⟩,
  ⟨PyData.keyHash P "_digits2int", .str "_digits2int" 2204, .ref 88⟩,
  ⟨PyData.keyHash P "_divmod_pos", .str "_divmod_pos" 2219, .ref 95⟩,
  ⟨PyData.keyHash P "int_divmod", .str "int_divmod" 2229, .ref 102⟩,
  ⟨PyData.keyHash P "COMPILER_FLAG_NAMES", .str "COMPILER_FLAG_NAMES" 2262, .ref 103⟩,
  ⟨PyData.keyHash P "pretty_flags", .str "pretty_flags" 2272, .ref 110⟩,
  ⟨PyData.keyHash P "_parse_varint", .str "_parse_varint" 2281, .ref 117⟩,
  ⟨PyData.keyHash P "_MAX_STRING_SIZE", .str "_MAX_STRING_SIZE" 2285, .int 40 2284⟩,
  ⟨PyData.keyHash P "_MOVE_COST", .str "_MOVE_COST" 2287, .int 2 2286⟩,
  ⟨PyData.keyHash P "_CASE_COST", .str "_CASE_COST" 2289, .int 1 2288⟩,
  ⟨PyData.keyHash P "_substitution_cost", .str "_substitution_cost" 2297, .ref 124⟩,
  ⟨PyData.keyHash P "_levenshtein_distance", .str "_levenshtein_distance" 2317, .ref 131⟩,
  ⟨PyData.keyHash P "_law_row", .str "_law_row" 2326, .ref 138⟩,
  ⟨PyData.keyHash P "_law_first", .str "_law_first" 2332, .ref 143⟩,
  ⟨PyData.keyHash P "_law_code", .str "_law_code" 2338, .ref 148⟩,
  ⟨PyData.keyHash P "_law_dual", .str "_law_dual" 2351, .ref 155⟩,
  ⟨PyData.keyHash P "_law_typed", .str "_law_typed" 2364, .ref 162⟩,
  ⟨PyData.keyHash P "_law_flags", .str "_law_flags" 2370, .ref 167⟩,
  ⟨PyData.keyHash P "_law_names", .str "_law_names" 2381, .ref 174⟩,
  ⟨PyData.keyHash P "law", .str "law" 2387, .ref 179⟩] 34
noncomputable def o12F : Obj := { cls := .none, data := .fields #[.int 3 0, .int 0 0, .ref 59, .int 10 0, .int 0 0, .ref 66, .int 26 0, .int 0 0, .ref 73, .int 36 0, .int 0 0, .ref 80, .int 52 0, .int 0 0, .ref 87, .int 61 0, .int 0 0, .ref 94, .int 72 0, .int 0 0, .ref 101, .int 85 0, .int 0 0, .ref 109, .int 97 0, .int 0 0, .ref 116, .int 109 0, .int 0 0, .ref 123, .int 115 0, .int 0 0, .ref 130, .int 154 0, .int 0 0, .ref 137, .int 156 0, .int 0 0, .ref 142, .int 161 0, .int 0 0, .ref 147, .int 170 0, .int 0 0, .ref 154, .int 180 0, .int 0 0, .ref 161, .int 187 0, .int 0 0, .ref 166, .int 190 0, .int 0 0, .ref 173, .int 199 0, .int 0 0, .ref 178] }
noncomputable def allF (P : Params) : List Obj := [boot_o_0 P, boot_o_1 P, boot_o_2 P, o3F P, boot_o_4 P, boot_o_5 P, boot_o_6 P, boot_o_7 P, boot_o_8 P, boot_o_9 P, boot_o_10 P, { cls := .type "tuple", data := .seq #[] }, o12F, o13, o14, dO bigL 650, subN 0, subN 1, subN 2, subN 3, subN 4, subN 5, subN 6, subN 7, subN 8, subN 9, subN 10, subN 11, subN 12, subN 13, subN 14, subN 15, subN 16, subN 17, subN 18, subN 19, subN 20, subN 21, subN 22, subN 23, subN 24, subN 25, subN 26, subN 27, subN 28, subN 29, subN 30, subN 31, subN 32, subN 33, subN 34, subN 35, subN 36, subN 37,
  { cls := .type "tuple", data := .seq #[] 0 },
  { cls := .none, data := .fields #[] },
  { cls := .type "tuple", data := .seq #[.str "code" 2143, .str "r" 2144] 0 },
  { cls := .type "tuple", data := .seq #[] 0 },
  fnO 2 0 (.none) (.none) (.none) (.none) (.none) (.none) (.none),
  { cls := .type "code", data := .fields #[.str "map_table_b3" 2140, .str "map_table_b3" 2141, .str "/claim/cut.py" 2142, .int 3 0, .int 1 0, .int 0 0, .int 0 0, .int 3 0, .ref 54, .bool true, .int 181 0, .ref 55, .none, .ref 56, .ref 57, .ref 58, .int 2145 0, .int 3 0, .str "/claim/cut.py" 2146] },
  fnO 2 3 (.none) (.none) (.none) (.str "cpy313.stringprep" 187) (.ref 59) (.none) (.type "function"),
  { cls := .type "tuple", data := .seq #[] 0 },
  { cls := .none, data := .fields #[] },
  { cls := .type "tuple", data := .seq #[.str "a" 2155, .str "b" 2156, .str "n" 2157, .str "pad" 2158, .str "half_n" 2159, .str "mask" 2160, .str "b1" 2161, .str "b2" 2162, .str "q1" 2163, .str "r" 2164, .str "q2" 2165] 0 },
  { cls := .type "tuple", data := .seq #[] 0 },
  fnO 5 0 (.none) (.none) (.none) (.none) (.none) (.none) (.none),
  { cls := .type "code", data := .fields #[.str "_div2n1n" 2152, .str "_div2n1n" 2153, .str "/claim/cut.py" 2154, .int 10 0, .int 3 0, .int 0 0, .int 0 0, .int 3 0, .ref 61, .bool true, .int 181 0, .ref 62, .none, .ref 63, .ref 64, .ref 65, .int 2166 0, .int 10 0, .str "/claim/cut.py" 2167] },
  fnO 5 3 (.none) (.none) (.none) (.str "cpy313._pylong" 2148) (.ref 66) (.none) (.type "function"),
  { cls := .type "tuple", data := .seq #[] 0 },
  { cls := .none, data := .fields #[] },
  { cls := .type "tuple", data := .seq #[.str "a12" 2172, .str "a3" 2173, .str "b" 2174, .str "b1" 2175, .str "b2" 2176, .str "n" 2177, .str "q" 2178, .str "r" 2179] 0 },
  { cls := .type "tuple", data := .seq #[] 0 },
  fnO 6 0 (.none) (.none) (.none) (.none) (.none) (.none) (.none),
  { cls := .type "code", data := .fields #[.str "_div3n2n" 2169, .str "_div3n2n" 2170, .str "/claim/cut.py" 2171, .int 26 0, .int 6 0, .int 0 0, .int 0 0, .int 3 0, .ref 68, .bool true, .int 181 0, .ref 69, .none, .ref 70, .ref 71, .ref 72, .int 2180 0, .int 26 0, .str "/claim/cut.py" 2181] },
  fnO 6 3 (.none) (.none) (.none) (.str "cpy313._pylong" 2148) (.ref 73) (.none) (.type "function"),
  { cls := .type "tuple", data := .seq #[] 0 },
  { cls := .none, data := .fields #[] },
  { cls := .type "tuple", data := .seq #[.str "a" 2186, .str "n" 2187] 0 },
  { cls := .type "tuple", data := .seq #[.str "n" 2188, .str "a_digits" 2189, .str "inner" 2190] 0 },
  fnO 7 0 (.none) (.none) (.none) (.none) (.none) (.none) (.none),
  { cls := .type "code", data := .fields #[.str "_int2digits" 2183, .str "_int2digits" 2184, .str "/claim/cut.py" 2185, .int 36 0, .int 2 0, .int 0 0, .int 0 0, .int 3 0, .ref 75, .bool true, .int 181 0, .ref 76, .none, .ref 77, .ref 78, .ref 79, .int 2191 0, .int 36 0, .str "/claim/cut.py" 2192] },
  fnO 7 3 (.none) (.none) (.none) (.str "cpy313._pylong" 2148) (.ref 80) (.none) (.type "function"),
  { cls := .type "tuple", data := .seq #[] 0 },
  { cls := .none, data := .fields #[] },
  { cls := .type "tuple", data := .seq #[.str "digits" 2197, .str "n" 2198] 0 },
  { cls := .type "tuple", data := .seq #[.str "digits" 2199, .str "n" 2200, .str "inner" 2201] 0 },
  fnO 8 0 (.none) (.none) (.none) (.none) (.none) (.none) (.none),
  { cls := .type "code", data := .fields #[.str "_digits2int" 2194, .str "_digits2int" 2195, .str "/claim/cut.py" 2196, .int 52 0, .int 2 0, .int 0 0, .int 0 0, .int 3 0, .ref 82, .bool true, .int 181 0, .ref 83, .none, .ref 84, .ref 85, .ref 86, .int 2202 0, .int 52 0, .str "/claim/cut.py" 2203] },
  fnO 8 3 (.none) (.none) (.none) (.str "cpy313._pylong" 2148) (.ref 87) (.none) (.type "function"),
  { cls := .type "tuple", data := .seq #[] 0 },
  { cls := .none, data := .fields #[] },
  { cls := .type "tuple", data := .seq #[.str "a" 2208, .str "b" 2209, .str "n" 2210, .str "a_digits" 2211, .str "r" 2212, .str "q_digits" 2213, .str "a_digit" 2214, .str "q_digit" 2215, .str "q" 2216] 0 },
  { cls := .type "tuple", data := .seq #[] 0 },
  fnO 9 0 (.none) (.none) (.none) (.none) (.none) (.none) (.none),
  { cls := .type "code", data := .fields #[.str "_divmod_pos" 2205, .str "_divmod_pos" 2206, .str "/claim/cut.py" 2207, .int 61 0, .int 2 0, .int 0 0, .int 0 0, .int 3 0, .ref 89, .bool true, .int 181 0, .ref 90, .none, .ref 91, .ref 92, .ref 93, .int 2217 0, .int 61 0, .str "/claim/cut.py" 2218] },
  fnO 9 3 (.none) (.none) (.none) (.str "cpy313._pylong" 2148) (.ref 94) (.none) (.type "function"),
  { cls := .type "tuple", data := .seq #[] 0 },
  { cls := .none, data := .fields #[] },
  { cls := .type "tuple", data := .seq #[.str "a" 2223, .str "b" 2224, .str "q" 2225, .str "r" 2226] 0 },
  { cls := .type "tuple", data := .seq #[] 0 },
  fnO 10 0 (.none) (.none) (.none) (.none) (.none) (.none) (.none),
  { cls := .type "code", data := .fields #[.str "int_divmod" 2220, .str "int_divmod" 2221, .str "/claim/cut.py" 2222, .int 72 0, .int 2 0, .int 0 0, .int 0 0, .int 3 0, .ref 96, .bool true, .int 181 0, .ref 97, .none, .ref 98, .ref 99, .ref 100, .int 2227 0, .int 72 0, .str "/claim/cut.py" 2228] },
  fnO 10 3 (.none) (.none) (.none) (.str "cpy313._pylong" 2148) (.ref 101) (.none) (.type "function"),
  { cls := .type "dict", data := .dict #[⟨1, .int 1 2232, .str "OPTIMIZED" 2233⟩, ⟨2, .int 2 2234, .str "NEWLOCALS" 2235⟩, ⟨4, .int 4 2236, .str "VARARGS" 2237⟩, ⟨8, .int 8 2238, .str "VARKEYWORDS" 2239⟩, ⟨16, .int 16 2240, .str "NESTED" 2241⟩, ⟨32, .int 32 2242, .str "GENERATOR" 2243⟩, ⟨64, .int 64 2244, .str "NOFREE" 2245⟩, ⟨128, .int 128 2246, .str "COROUTINE" 2247⟩, ⟨256, .int 256 2248, .str "ITERABLE_COROUTINE" 2249⟩, ⟨512, .int 512 2250, .str "ASYNC_GENERATOR" 2251⟩] 10 },
  { cls := .type "tuple", data := .seq #[] 0 },
  { cls := .none, data := .fields #[] },
  { cls := .type "tuple", data := .seq #[.str "flags" 2266, .str "names" 2267, .str "i" 2268, .str "flag" 2269] 0 },
  { cls := .type "tuple", data := .seq #[] 0 },
  fnO 13 0 (.none) (.none) (.none) (.none) (.none) (.none) (.none),
  { cls := .type "code", data := .fields #[.str "pretty_flags" 2263, .str "pretty_flags" 2264, .str "/claim/cut.py" 2265, .int 85 0, .int 1 0, .int 0 0, .int 0 0, .int 3 0, .ref 104, .bool true, .int 181 0, .ref 105, .none, .ref 106, .ref 107, .ref 108, .int 2270 0, .int 85 0, .str "/claim/cut.py" 2271] },
  fnO 13 3 (.none) (.none) (.none) (.str "cpy313.dis" 2230) (.ref 109) (.none) (.type "function"),
  { cls := .type "tuple", data := .seq #[] 0 },
  { cls := .none, data := .fields #[] },
  { cls := .type "tuple", data := .seq #[.str "iterator" 2276, .str "b" 2277, .str "val" 2278] 0 },
  { cls := .type "tuple", data := .seq #[] 0 },
  fnO 14 0 (.none) (.none) (.none) (.none) (.none) (.none) (.none),
  { cls := .type "code", data := .fields #[.str "_parse_varint" 2273, .str "_parse_varint" 2274, .str "/claim/cut.py" 2275, .int 97 0, .int 1 0, .int 0 0, .int 0 0, .int 3 0, .ref 111, .bool true, .int 181 0, .ref 112, .none, .ref 113, .ref 114, .ref 115, .int 2279 0, .int 97 0, .str "/claim/cut.py" 2280] },
  fnO 14 3 (.none) (.none) (.none) (.str "cpy313.dis" 2230) (.ref 116) (.none) (.type "function"),
  { cls := .type "tuple", data := .seq #[] 0 },
  { cls := .none, data := .fields #[] },
  { cls := .type "tuple", data := .seq #[.str "ch_a" 2293, .str "ch_b" 2294] 0 },
  { cls := .type "tuple", data := .seq #[] 0 },
  fnO 19 0 (.none) (.none) (.none) (.none) (.none) (.none) (.none),
  { cls := .type "code", data := .fields #[.str "_substitution_cost" 2290, .str "_substitution_cost" 2291, .str "/claim/cut.py" 2292, .int 109 0, .int 2 0, .int 0 0, .int 0 0, .int 3 0, .ref 118, .bool true, .int 181 0, .ref 119, .none, .ref 120, .ref 121, .ref 122, .int 2295 0, .int 109 0, .str "/claim/cut.py" 2296] },
  fnO 19 3 (.none) (.none) (.none) (.str "cpy313.traceback" 2282) (.ref 123) (.none) (.type "function"),
  { cls := .type "tuple", data := .seq #[] 0 },
  { cls := .none, data := .fields #[] },
  { cls := .type "tuple", data := .seq #[.str "a" 2301, .str "b" 2302, .str "max_cost" 2303, .str "pre" 2304, .str "post" 2305, .str "row" 2306, .str "result" 2307, .str "bindex" 2308, .str "bchar" 2309, .str "distance" 2310, .str "minimum" 2311, .str "index" 2312, .str "substitute" 2313, .str "insert_delete" 2314] 0 },
  { cls := .type "tuple", data := .seq #[] 0 },
  fnO 20 0 (.none) (.none) (.none) (.none) (.none) (.none) (.none),
  { cls := .type "code", data := .fields #[.str "_levenshtein_distance" 2298, .str "_levenshtein_distance" 2299, .str "/claim/cut.py" 2300, .int 115 0, .int 3 0, .int 0 0, .int 0 0, .int 3 0, .ref 125, .bool true, .int 181 0, .ref 126, .none, .ref 127, .ref 128, .ref 129, .int 2315 0, .int 115 0, .str "/claim/cut.py" 2316] },
  fnO 20 3 (.none) (.none) (.none) (.str "cpy313.traceback" 2282) (.ref 130) (.none) (.type "function"),
  { cls := .type "tuple", data := .seq #[] 0 },
  { cls := .none, data := .fields #[] },
  { cls := .type "tuple", data := .seq #[.str "number" 2323] 0 },
  { cls := .type "tuple", data := .seq #[] 0 },
  fnO 22 0 (.none) (.none) (.none) (.none) (.none) (.none) (.none),
  { cls := .type "code", data := .fields #[.str "_law_row" 2320, .str "_law_row" 2321, .str "/claim/cut.py" 2322, .int 154 0, .int 1 0, .int 0 0, .int 0 0, .int 3 0, .ref 132, .bool true, .int 181 0, .ref 133, .none, .ref 134, .ref 135, .ref 136, .int 2324 0, .int 154 0, .str "/claim/cut.py" 2325] },
  fnO 22 3 (.none) (.none) (.none) (.str "law_us0023_01" 2318) (.ref 137) (.none) (.type "function"),
  { cls := .type "tuple", data := .seq #[] 0 },
  { cls := .none, data := .fields #[] },
  fnO 23 0 (.none) (.none) (.none) (.none) (.none) (.none) (.none),
  { cls := .type "code", data := .fields #[.str "_law_first" 2327, .str "_law_first" 2328, .str "/claim/cut.py" 2329, .int 156 0, .int 1 0, .int 0 0, .int 0 0, .int 3 0, .ref 139, .bool true, .int 181 0, .ref 140, .none, .none, .none, .ref 141, .int 2330 0, .int 156 0, .str "/claim/cut.py" 2331] },
  fnO 23 3 (.none) (.none) (.none) (.str "law_us0023_01" 2318) (.ref 142) (.none) (.type "function"),
  { cls := .type "tuple", data := .seq #[] 0 },
  { cls := .none, data := .fields #[] },
  fnO 24 0 (.none) (.none) (.none) (.none) (.none) (.none) (.none),
  { cls := .type "code", data := .fields #[.str "_law_code" 2333, .str "_law_code" 2334, .str "/claim/cut.py" 2335, .int 161 0, .int 2 0, .int 0 0, .int 0 0, .int 3 0, .ref 144, .bool true, .int 181 0, .ref 145, .none, .none, .none, .ref 146, .int 2336 0, .int 161 0, .str "/claim/cut.py" 2337] },
  fnO 24 3 (.none) (.none) (.none) (.str "law_us0023_01" 2318) (.ref 147) (.none) (.type "function"),
  { cls := .type "tuple", data := .seq #[] 0 },
  { cls := .none, data := .fields #[] },
  { cls := .type "tuple", data := .seq #[.str "first" 2342, .str "second" 2343, .str "numbers" 2344, .str "number" 2345, .str "a" 2346, .str "b" 2347, .str "c" 2348] 0 },
  { cls := .type "tuple", data := .seq #[] 0 },
  fnO 25 0 (.none) (.none) (.none) (.none) (.none) (.none) (.none),
  { cls := .type "code", data := .fields #[.str "_law_dual" 2339, .str "_law_dual" 2340, .str "/claim/cut.py" 2341, .int 170 0, .int 2 0, .int 0 0, .int 0 0, .int 3 0, .ref 149, .bool true, .int 181 0, .ref 150, .none, .ref 151, .ref 152, .ref 153, .int 2349 0, .int 170 0, .str "/claim/cut.py" 2350] },
  fnO 25 3 (.none) (.none) (.none) (.str "law_us0023_01" 2318) (.ref 154) (.none) (.type "function"),
  { cls := .type "tuple", data := .seq #[] 0 },
  { cls := .none, data := .fields #[] },
  { cls := .type "tuple", data := .seq #[.str "row" 2355, .str "alphabet" 2356, .str "latin" 2357, .str "greek" 2358, .str "kays" 2359, .str "thetas" 2360, .str "omegas" 2361] 0 },
  { cls := .type "tuple", data := .seq #[] 0 },
  fnO 26 0 (.none) (.none) (.none) (.none) (.none) (.none) (.none),
  { cls := .type "code", data := .fields #[.str "_law_typed" 2352, .str "_law_typed" 2353, .str "/claim/cut.py" 2354, .int 180 0, .int 2 0, .int 0 0, .int 0 0, .int 3 0, .ref 156, .bool true, .int 181 0, .ref 157, .none, .ref 158, .ref 159, .ref 160, .int 2362 0, .int 180 0, .str "/claim/cut.py" 2363] },
  fnO 26 3 (.none) (.none) (.none) (.str "law_us0023_01" 2318) (.ref 161) (.none) (.type "function"),
  { cls := .type "tuple", data := .seq #[] 0 },
  { cls := .none, data := .fields #[] },
  fnO 27 0 (.none) (.none) (.none) (.none) (.none) (.none) (.none),
  { cls := .type "code", data := .fields #[.str "_law_flags" 2365, .str "_law_flags" 2366, .str "/claim/cut.py" 2367, .int 187 0, .int 1 0, .int 0 0, .int 0 0, .int 3 0, .ref 163, .bool true, .int 181 0, .ref 164, .none, .none, .none, .ref 165, .int 2368 0, .int 187 0, .str "/claim/cut.py" 2369] },
  fnO 27 3 (.none) (.none) (.none) (.str "law_us0023_01" 2318) (.ref 166) (.none) (.type "function"),
  { cls := .type "tuple", data := .seq #[] 0 },
  { cls := .none, data := .fields #[] },
  { cls := .type "tuple", data := .seq #[.str "one" 2374, .str "other" 2375, .str "names" 2376, .str "told" 2377, .str "k" 2378] 0 },
  { cls := .type "tuple", data := .seq #[] 0 },
  fnO 28 0 (.none) (.none) (.none) (.none) (.none) (.none) (.none),
  { cls := .type "code", data := .fields #[.str "_law_names" 2371, .str "_law_names" 2372, .str "/claim/cut.py" 2373, .int 190 0, .int 2 0, .int 0 0, .int 0 0, .int 3 0, .ref 168, .bool true, .int 181 0, .ref 169, .none, .ref 170, .ref 171, .ref 172, .int 2379 0, .int 190 0, .str "/claim/cut.py" 2380] },
  fnO 28 3 (.none) (.none) (.none) (.str "law_us0023_01" 2318) (.ref 173) (.none) (.type "function"),
  { cls := .type "tuple", data := .seq #[] 0 },
  { cls := .none, data := .fields #[] },
  fnO 29 0 (.none) (.none) (.none) (.none) (.none) (.none) (.none),
  { cls := .type "code", data := .fields #[.str "law" 2382, .str "law" 2383, .str "/claim/cut.py" 2384, .int 199 0, .int 1 0, .int 0 0, .int 0 0, .int 3 0, .ref 175, .bool true, .int 181 0, .ref 176, .none, .none, .none, .ref 177, .int 2385 0, .int 199 0, .str "/claim/cut.py" 2386] },
  fnO 29 3 (.none) (.none) (.none) (.str "law_us0023_01" 2318) (.ref 178) (.none) (.type "function")]
noncomputable def stF (w : World) (os : OsState) : Shared := ⟨⟨⟨allF w.params⟩, {}⟩, #[], {}, 2388, os⟩
noncomputable def stE (w : World) (os : OsState) : Shared := ⟨⟨⟨preL w.params (o3 w.params nm1 [⟨PyData.keyHash w.params "b3_exceptions", .str "b3_exceptions" 2139, .ref 15⟩] 10) ++ dO bigL 650 :: [subN 0, subN 1, subN 2, subN 3, subN 4, subN 5, subN 6, subN 7, subN 8, subN 9, subN 10, subN 11, subN 12, subN 13, subN 14, subN 15, subN 16, subN 17, subN 18, subN 19, subN 20, subN 21, subN 22, subN 23, subN 24, subN 25, subN 26, subN 27, subN 28, subN 29, subN 30, subN 31, subN 32, subN 33, subN 34, subN 35, subN 36, subN 37]⟩, {}⟩, #[], {}, 2140, os⟩
theorem stD_lit (w : World) (os : OsState) : stD w os = stE w os := by
  unfold stD stE mkH bigO
  rw [bigE_lit, subs_lit]
noncomputable abbrev runR (w : World) (os : OsState) : Option Shared := topRun treeTable prg w 11 (some (.ref 6)) 1500 (stE w os) (restOf ((behindTheImports prg).drop 2) env0 cd0 ⟨2, 0, 2, 13⟩ [fr0])
theorem run_t (w : World) (os : OsState) : runR (w.withFollow ROW true) os = some (stF (w.withFollow ROW true) os) := by kernel_rfl
theorem run_f (w : World) (os : OsState) : runR (w.withFollow ROW false) os = some (stF (w.withFollow ROW false) os) := by kernel_rfl
theorem run_w (w : World) (os : OsState) : runR w os = some (stF w os) := by
  have z := World.withFollow_self w ROW
  cases hb : w.params.followText ROW <;> rw [hb] at z <;> rw [← z]
  · exact run_f w os
  · exact run_t w os
theorem opening_1 : opening prg = plainProg prg.main.scope.names := by kernel_rfl
theorem fence_1 (s : Shared) : fenceModules? prg s = some s := by kernel_rfl
theorem size_1 (w : World) : (((boot_heap w.params).isNs mainGlobals && (Array.mk [] : Array GenState).size == 0, (boot_heap w.params).objs.size, (boot_heap w.params).nsMap mainGlobals "__annotations__") : Bool × Nat × Option Value) = (true, 11, some (.ref 6)) := by kernel_rfl
theorem look_1 (w : World) (os : OsState) : (staticsOk (importedModules prg.main.body) (boot_heap w.params) (stF w os).heap && namesBound prg (stF w os).heap && gensDone (stF w os) && laidKept (boot_heap w.params) (stF w os).heap) = true := by kernel_rfl
theorem left_w {q : Program} {loose : List Str} {Xt : Shared → Bool} {α : Type} {Yf : Shared → α} {Ya : World → α}
    (h2 : ∀ (w : World) (os : OsState), openSeen q loose (importedModules prg.main.body) Xt true (stF w os) = openGood q loose) (h3 : ∀ (w : World) (os : OsState), Yf (stF w os) = Ya w) : LeftO prg q loose Xt Yf Ya 20000 true := fun w => by
  obtain ⟨⟨hh, gs, d, k, os⟩, e, e'⟩ := Option.map_eq_some_iff.mp (boot_open (p := prg) (N := 20000) opening_1 (by decide) fence_1 w)
  obtain ⟨rfl, rfl, rfl, rfl⟩ : hh = boot_heap w.params ∧ gs = Array.mk [] ∧ d = boot_drawn ∧ k = boot_toks := by simpa using e'
  obtain ⟨z1, z2, z3⟩ : _ ∧ _ ∧ _ := by simpa only [Prod.mk.injEq] using size_1 w
  have r2 := topRun_mono (20000 - (12 + (1 + (10 + (1500 + 12880))))) _ _ _ _ (h_start w os (h_dict w os (by rw [stD_lit]; exact run_w w os)))
  have t : topFrom treeTable prg w 20000 ⟨boot_heap w.params, Array.mk [], boot_drawn, boot_toks, os⟩ = some (stF w os) := by
    unfold topFrom
    dsimp only
    rw [z1, z2, z3]
    rw [show (12 + (1 + (10 + (1500 + 12880)))) + (20000 - (12 + (1 + (10 + (1500 + 12880))))) = 20000 from rfl] at r2
    rw [r2]
    show (match staticsOk (importedModules prg.main.body) (boot_heap w.params) (stF w os).heap && namesBound prg (stF w os).heap && gensDone (stF w os) && laidKept (boot_heap w.params) (stF w os).heap with | true => _ | false => _) = _
    rw [look_1]
  unfold openEnds
  rw [e]
  show (topFrom treeTable prg w 20000 _).map _ = _
  rw [t]
  exact congrArg some (Prod.ext (h2 w os) (h3 w os))
noncomputable def vw : Program := view prg [2, 4, 5, 6, 7, 8, 9, 10, 12, 13, 14, 16, 17, 18, 19, 20, 22, 23, 24, 25, 26, 27, 28, 29]
noncomputable abbrev lse : List Str := ["b3_exceptions", "COMPILER_FLAG_NAMES"]
theorem my_head (H : Hook) {d : DefRec} {kwd : List (Str × Expr)} (h3 : ∀ (w : World) (os : OsState), H.obs (stF w os) = H.val w)
    (hdef : defOf vw (OpenLaw.row PySem.Challenge.rw_us0023_01).name = some (d, kwd)) (hp : (OpenLaw.row PySem.Challenge.rw_us0023_01).prog.theDef (OpenLaw.row PySem.Challenge.rw_us0023_01).name = some (d.params, d.body, d.scope)) (hk : kwWritten? d.params.kwonlyargs d.params.kw_defaults = some kwd)
    (k1 : (OpenLaw.row PySem.Challenge.rw_us0023_01).wellSaid = true) (hw : (OpenLaw.row PySem.Challenge.rw_us0023_01).toRowW.promised) (hc : WalkO vw lse (XL vw []) H.says (OpenLaw.row PySem.Challenge.rw_us0023_01).toRowW d kwd fun f vs => PySem.call f vs) : (OpenLaw.row PySem.Challenge.rw_us0023_01).Holds :=
  holds_open (q := vw) (loose := lse) (Xt := fun s => xlAt vw [] s && recOk (RowW.records (OpenRow.toRowW (OpenLaw.row PySem.Challenge.rw_us0023_01))) s) (XP := XL vw []) (Yf := H.obs) (Ya := H.val) (YP := H.says) (N := 20000) (left_w (fun w os => by kernel_rfl) h3) H.of H.keeps
    (fun s e => xl_of s (Bool.and_eq_true_iff.mp e).1) XL.keeps hdef hp hk (fun s e => recFacts_of (Bool.and_eq_true_iff.mp e).2) (by rfl) k1 (by decide +kernel) ⟨rfl, rfl, rfl, rfl, rfl, by decide +kernel⟩ hw hc
theorem reg_head : True := by
  (k_with "my head" => ((case h3 => (intro w os; kernel_rfl)); (case hdef => rfl); (case hp => rfl); (case hk => rfl); (case k1 => assumption)))
  (k_with "my law" => (refine holds_law Mine.said_1 fun said => ?_))
  exact True.intro
local macro_rules | `(tactic| o_head $H) => `(tactic| (apply Mine.my_head $H; k_extra "my head"))
set_option maxHeartbeats 0 in
theorem said_1 : OpenLaw.wellSaid PySem.Challenge.rw_us0023_01 = true := by
  unfold OpenLaw.wellSaid OpenRow.wellSaid OpenRow.partSaid looksOpen
  repeat' (with_reducible refine look_both ?_ ?_)
  all_goals decide +kernel
local macro_rules | `(tactic| o_law) => `(tactic| k_extra "my law")
set_option maxRecDepth 100000 in
set_option maxHeartbeats 0 in
open_top hd for PySem.Challenge.rw_us0023_01

end
section --Base

theorem rm0 {u k c : Nat} (h : u + k < c) : u < c := Nat.lt_of_le_of_lt (Nat.le_add_right u k) h
theorem rm1 {u a k c : Nat} (h : u + k < c) (e : a ≤ k) : u + a < c := Nat.lt_of_le_of_lt (Nat.add_le_add_left e u) h
theorem rm2 {u a b k c : Nat} (h : u + k < c) (e : a + b ≤ k) : u + a + b < c := by rw [Nat.add_assoc]; exact rm1 h e
theorem ns1 {a : Nat} : a ≠ a + 1 := by omega
theorem ns2 {a : Nat} : a ≠ a + 1 + 1 := by omega
theorem ns3 {a : Nat} : a ≠ a + 1 + 1 + 1 := by omega
theorem wp_gen {α : Type} {M : Model} {A : Around} {m : Sem α} {Q : α → Shared → Prop} {E : Value → Shared → Prop} {s : Shared} (h : ∀ Q' : α → Shared → Prop, Q' = Q → wpAny M A m Q' E s) : wpAny M A m Q E s := h Q rfl
theorem turn_gen {M : Model} {A A' : Around} {α : Type} {m : Sem α} {b : List Stmt} {env : Env} {T : Flow → Shared → Prop} {E E' : Value → Shared → Prop} {s : Shared}
    (h : ∀ T' : Flow → Shared → Prop, T' = T → wpAny M A m (fun _ s' => wpAny M A' (execs b env) T' E' s') E s) : wpAny M A m (fun _ s' => wpAny M A' (execs b env) T E' s') E s := h T rfl
theorem turn_genW {M : Model} {A A' : Around} {m : Sem Bool} {b : List Stmt} {env : Env} {T Q : Flow → Shared → Prop} {E E' : Value → Shared → Prop} {s : Shared}
    (h : ∀ T' : Flow → Shared → Prop, T' = T → wpAny M A m (fun c s' => if c = true then wpAny M A' (execs b env) T' E' s' else Q .next s') E s) : wpAny M A m (fun c s' => if c = true then wpAny M A' (execs b env) T E' s' else Q .next s') E s := h T rfl
noncomputable abbrev lstO (vs : List Value) : Obj := W.listOf vs.toArray 0

noncomputable abbrev arnd (dp un : Nat) (gd : Option (List Code)) (outer : List Env) : Around := { handled := none, depth := dp, frames := some outer, guards := gd, units := un }

noncomputable def Spec (w : World) (f : Addr) (vs : List Value) (dk uk : Nat) (led : List (Addr × Obj)) (asks : Heap → Prop) (gives : Heap → Value → Heap → Prop) : Prop :=
  ∀ (p : Program) (loose : List Str) (mean : ExcName → Option Value) (mg mb : Str → Option Value) (dp un : Nat) (gd : Option (List Code)) (outer : List Env) (base h₀ : Heap) (s : Shared) (R : Result → Shared → Prop),
    Below (arnd dp un gd outer) base outer h₀ → (hd.heap_1 w.params).In h₀ → Top p loose mean mg mb h₀ → (∀ b o, h₀.get? b = some o → s.heap.get? b = some o) → h₀.objs.size ≤ s.heap.objs.size →
    (∀ q ∈ led, s.heap.get? q.1 = some q.2 ∧ h₀.get? q.1 = none) → dp + dk < recursionLimit → un + uk < cLine → asks h₀ →
    (∀ r h' tk', (∀ b o, h₀.get? b = some o → h'.get? b = some o) → gives h₀ r h' → R (.ok (.ret r)) { s with heap := h', toks := tk' }) →
    codeAny (model PySem.Challenge.rw_us0023_01.row.prog w) (arnd dp un gd outer) (.call (.ref f) ⟨vs, []⟩) R s

noncomputable def RowG (a b c : Int) (h₀ : Heap) (r : Value) (h' : Heap) : Prop := ∃ l t1 t2 t3 k, r = .ref l ∧ h₀.get? l = none ∧ h'.get? l = some (W.listOf #[.int a t1, .int b t2, .int c t3] k)
noncomputable def ListG (ns : List Int) (h₀ : Heap) (r : Value) (h' : Heap) : Prop := ∃ l vs k, r = .ref l ∧ h₀.get? l = none ∧ h'.get? l = some (W.listOf vs.toArray k) ∧ IntsAre vs ns
noncomputable def IntG (i : Int) (_ : Heap) (r : Value) (_ : Heap) : Prop := ∃ t : Tok, r = .int i t
noncomputable def StrG (x : Str) (_ : Heap) (r : Value) (_ : Heap) : Prop := ∃ t : Tok, r = .str x t
noncomputable def PairG (a b : Int) (h₀ : Heap) (r : Value) (h' : Heap) : Prop := ∃ l t1 t2 k, r = .ref l ∧ h₀.get? l = none ∧ h'.get? l = some { cls := .type "tuple", data := .seq #[.int a t1, .int b t2] k }
theorem row_g {h₀ h' : Heap} {L l : Addr} {news : List (Addr × Obj)} {x y z a b c : Int} {t1 t2 t3 : Tok} {k : Nat} (N : News h₀ L h' news) (hm : (l, W.listOf #[.int x t1, .int y t2, .int z t3] k) ∈ news) (e1 : x = a) (e2 : y = b) (e3 : z = c) : RowG a b c h₀ (.ref l) h' := by
  subst e1 e2 e3
  exact ⟨l, t1, t2, t3, k, rfl, N.fresh hm, N.get hm⟩
theorem list_g {h₀ h' : Heap} {L l : Addr} {news : List (Addr × Obj)} {vs : List Value} {ms ns : List Int} {k : Nat} (N : News h₀ L h' news) (hm : (l, W.listOf vs.toArray k) ∈ news) (i : IntsAre vs ms) (e : ms = ns) : ListG ns h₀ (.ref l) h' := by
  subst e
  exact ⟨l, vs, k, rfl, N.fresh hm, N.get hm, i⟩
noncomputable def NewO (h₀ : Heap) (r : Value) (h' : Heap) (P : Obj → Prop) : Prop := ∃ l o, r = .ref l ∧ h₀.get? l = none ∧ h'.get? l = some o ∧ P o

section
variable {prog : Program} {w : World} {s : Shared} {K : Frag} {h₀ base : Heap} {mg mb : Str → Option Value} {p : Program} {loose : List Str} {mean : ExcName → Option Value} {dp un : Nat} {gd : Option (List Code)} {outer : List Env} {led : List (Addr × Obj)}
theorem enterS {R : Result → Shared → Prop} {name qual : Str} {params : Arguments} {body : List Stmt} {scope : Scope} {dV kV doc pm cdv ct oc : Value} {an od : Option Addr} {osl : Array (Option Value)} {f : Addr} {args : Args} {binds : List (Str × Value)}
    (X : K.In h₀) (T : Top p loose mean mg mb h₀) (hkp : ∀ b o, h₀.get? b = some o → s.heap.get? b = some o) (hsz : h₀.objs.size ≤ s.heap.objs.size)
    (hled : ∀ q ∈ led, s.heap.get? q.1 = some q.2 ∧ h₀.get? q.1 = none)
    (ho : K.lookup f = some ⟨oc, od, .func (fnX name qual params body scope [] dV kV doc pm an cdv ct), osl⟩) (hcd : codeIn K cdv qual = true) (hroom : dp < recursionLimit)
    (hbind : BindsTo s (fnX name qual params body scope [] dV kV doc pm an cdv ct) args binds) (hloc : ∀ y ∈ binds, scope.names.lookup y.1 = some .local)
    (h : ∀ L' h₁ tk', Fr h₀ L' h₁ (fun y => binds.reverse.lookup y) → News h₀ L' h₁ led → (∀ q ∈ led, q.1 < L') →
      wpAny (model prog w) ((arnd dp un gd outer).deeper (envX qual scope L' f cdv [])) (execs body (envX qual scope L' f cdv []))
        (fun fl s' => R (.ok (.ret (match fl with | .ret v => v | _ => .none))) s')
        (fun _ _ => False)
        { s with heap := h₁, toks := tk' })
    (hco : scope.isCoroutine = false) (hgen : scope.isGenerator = false) (hk : scope.kind = .function)
    (hcell : ∀ x ∈ scope.names, x.2 ≠ .cell) : codeAny (model prog w) (arnd dp un gd outer) (.call (.ref f) args) R s := by
  refine codeAny_call_def (fd := fnX name qual params body scope [] dV kV doc pm an cdv ct) (body := body) (binds := binds) hroom (hkp _ _ (X _ _ ho)) rfl (T.nolimit.keeps hkp) ((codeRec_of X hcd).keeps hkp) rfl hbind hcell hloc (fun h₁ hns hk₁ => ?_) hco hgen hk
  refine wpAny_mono (h s.heap.objs.size h₁ _ ⟨hns, fun b o e => hk₁ b o (hkp b o e), hsz⟩ (fun q hq => ⟨hk₁ _ _ (hled q hq).1, Nat.ne_of_lt (Heap.lt_size (hled q hq).1), (hled q hq).2⟩) (fun q hq => Heap.lt_size (hled q hq).1)) (fun _ _ x => x) (fun _ _ x => x.elim)

theorem enterC {R : Result → Shared → Prop} {name qual : Str} {params : Arguments} {body : List Stmt} {scope : Scope} {dV kV doc pm cdv ct oc : Value} {an od : Option Addr} {osl : Array (Option Value)} {f : Addr} {args : Args} {binds : List (Str × Value)}
    (X : K.In h₀) (T : Top p loose mean mg mb h₀) (hkp : ∀ b o, h₀.get? b = some o → s.heap.get? b = some o) (hsz : h₀.objs.size ≤ s.heap.objs.size)
    (hled : ∀ q ∈ led, s.heap.get? q.1 = some q.2 ∧ h₀.get? q.1 = none)
    (ho : K.lookup f = some ⟨oc, od, .func (fnX name qual params body scope [] dV kV doc pm an cdv ct), osl⟩) (hcd : codeIn K cdv qual = true) (hroom : dp < recursionLimit)
    (hbind : BindsTo s (fnX name qual params body scope [] dV kV doc pm an cdv ct) args binds) (hkind : (binds.all fun y => scope.names.lookup y.1 == some .local || scope.names.lookup y.1 == some .cell) = true)
    (hnd : ((cellsFrom 0 scope.names []).map (·.1)).Nodup)
    (h : ∀ L' h₁ tk cells, Fr h₀ L' h₁ (bindL (envOfC qual scope L' f cdv).kindOf binds fun _ => none) → News h₀ L' h₁ (cells ++ led) →
      CellsAre (bindC (envOfC qual scope L' f cdv).kindOf binds fun _ => none) (cellsFrom (L' + 1) scope.names []) cells → (∀ q ∈ led, q.1 < L') →
      wpAny (model prog w) ((arnd dp un gd outer).deeper (envOfC qual scope L' f cdv)) (execs body (envOfC qual scope L' f cdv))
        (fun fl s' => R (.ok (.ret (match fl with | .ret v => v | _ => .none))) s')
        (fun _ _ => False)
        { s with heap := h₁, toks := tk })
    (hco : scope.isCoroutine = false) (hgen : scope.isGenerator = false) (hk : scope.kind = .function) : codeAny (model prog w) (arnd dp un gd outer) (.call (.ref f) args) R s := by
  refine codeAny_call_function hroom (hkp _ _ (X _ _ ho)) rfl hco hgen rfl ((codeRec_of X hcd).keeps hkp) (hbind _ _ _ _ ?_)
  refine wpAny_newFunctionEnv_cells hk (kindsX hkind _) fun env' he s' x => ?_
  subst he
  refine ⟨(T.nolimit.keeps hkp).keeps x.toInCall.keep, codeAny_func ?_⟩
  obtain ⟨h₁, tk, rfl, _⟩ := x.done
  have hk₁ := x.toInCall.keep
  obtain ⟨cells, NC, Y⟩ := Cl.news (h₀ := s.heap) (Nat.le_refl _) fun n c hm => ⟨x.cell n c (lookup_of_mem_nodup (cellsFrom_names scope.names 0 (s.heap.objs.size + 1) [] [] rfl ▸ hnd) hm), x.above n c hm⟩
  refine wpAny_mono (h s.heap.objs.size h₁ tk cells ⟨x.toInCall.ns, fun b o e => hk₁ b o (hkp b o e), hsz⟩ (fun p hp => ?_) Y (fun q hq => Heap.lt_size (hled q hq).1)) (fun _ _ x => x) (fun _ _ x => x.elim)
  rcases List.mem_append.mp hp with hp | hp
  · refine ⟨(NC p hp).1, (NC p hp).2.1, ?_⟩
    cases q : h₀.get? p.1 with
    | none => rfl
    | some o => have := hkp _ _ q; rw [(NC p hp).2.2] at this; cases this
  · exact ⟨hk₁ _ _ (hled p hp).1, Nat.ne_of_lt (Heap.lt_size (hled p hp).1), (hled p hp).2⟩
end

section
variable {w : World} {f : Addr} {vs : List Value} {dk uk : Nat} {asks : Heap → Prop} {gives : Heap → Value → Heap → Prop}
  {p : Program} {loose : List Str} {mean : ExcName → Option Value} {mg mb : Str → Option Value} {dp un : Nat} {gd : Option (List Code)} {cn : Str} {cs : Scope} {a : Addr} {ccd : Value} {cl : List (Str × Addr)} {outer : List Env} {A₀ : Around} {base h₀ : Heap} {L : Addr} {m : Str → Option Value} {news : List (Addr × Obj)} {s : Shared} {Q E : Value → Shared → Prop}
theorem Spec.use (S : Spec w f vs dk uk [] asks gives)
    (B : Below A₀ base outer h₀) (F : Fr h₀ L s.heap m) (X : (hd.heap_1 w.params).In h₀) (N : News h₀ L s.heap news) (T : Top p loose mean mg mb h₀) (hk : cs.kind = .function) (hd : dp + dk < recursionLimit) (hu : un + uk < cLine) (ha : asks s.heap)
    (h : ∀ r h' tk', Fr h₀ L h' m → News h₀ L h' news → gives s.heap r h' → Q r { s with heap := h', toks := tk' }) :
    wpAny (model PySem.Challenge.rw_us0023_01.row.prog w) (ktrTop dp un gd cn cs L a ccd cl outer) (call (.ref f) vs) Q E s := by
  have B₁ := pushX (env := envX cn cs L a ccd cl) B F rfl hk
  have B₂ : Below (arnd dp un gd (envX cn cs L a ccd cl :: outer)) base (envX cn cs L a ccd cl :: outer) s.heap := ⟨rfl, B₁.stays, B₁.frames⟩
  refine wpAny_call (S p loose mean mg mb dp un gd (envX cn cs L a ccd cl :: outer) base s.heap s _ B₂ (X.keeps F.keep) (T.keeps F.keep) (fun _ _ e => e) (Nat.le_refl _) (fun _ hq => nomatch hq) hd hu ha fun r h' tk' hk' hg => ?_)
  exact h r h' tk' ⟨F.ns.keeps hk', fun b o e => hk' b o (F.keep b o e), F.above⟩ (fun q hq => ⟨hk' _ _ (N q hq).1, (N q hq).2⟩) hg
theorem news_add {h h' : Heap} {l : Addr} {o : Obj} (F : Fr h₀ L h m) (N : News h₀ L h news) (N' : News h₀ L h' news) (h1 : h.get? l = none) (h2 : h'.get? l = some o) : News h₀ L h' ((l, o) :: news) ∧ LCg.Off1 l news := by
  refine ⟨fun q hq => ?_, ?_⟩
  · rcases List.mem_cons.mp hq with rfl | hq
    · refine ⟨h2, fun e => ?_, ?_⟩
      · obtain ⟨oL, _, _, hL, _⟩ := F.ns
        simp only at e; rw [e, hL] at h1; cases h1
      · cases q : h₀.get? l with
        | none => rfl
        | some o => rw [F.keep _ _ q] at h1; cases h1
    · exact N' q hq
  · clear N'
    induction news with
    | nil => trivial
    | cons q r ih => exact ⟨fun e => (by have := (N q (.head _)).1; rw [e, h1] at this; cases this), ih fun x hx => N x (.tail _ hx)⟩
end

end
section --Lp

noncomputable def AllAt (m : Str → Option Value) : List (Str × Value) → Prop
  | [] => True
  | p :: r => m p.1 = some p.2 ∧ AllAt m r
theorem AllAt.get {m : Str → Option Value} : ∀ {pl : List (Str × Value)}, AllAt m pl → ∀ p ∈ pl, m p.1 = some p.2
  | [], _, _, h => nomatch h
  | q :: r, x, p, h => by
    rcases List.mem_cons.mp h with rfl | h
    · exact x.1
    · exact AllAt.get x.2 p h
theorem allB {m : Str → Option Value} {pl : List (Str × Value)} (h : AllAt m pl) : kstB m pl = m := by
  funext z
  exact kstB_eq h.get fun _ => rfl
noncomputable def TE (h₀ : Heap) (L : Addr) (s : Shared) (I : Addr × Obj) (J : List (Addr × Obj) → List (Str × Value) → Prop) (Q : Flow → Shared → Prop) (f : Flow) (s₂ : Shared) : Prop :=
  match f with
  | .ret v => Q (.ret v) s₂
  | .brk => Q .next s₂
  | _ => ∃ h tk m all led pl, s₂ = { s with heap := h, toks := tk } ∧ Fr h₀ L h m ∧ News h₀ L h all ∧ AllAt m pl ∧ J led pl ∧ SubL (I :: led) all ∧ LCg.Off1 I.1 led
noncomputable def TW (h₀ : Heap) (L : Addr) (s : Shared) (J : List (Addr × Obj) → List (Str × Value) → Prop) (Q : Flow → Shared → Prop) (f : Flow) (s₂ : Shared) : Prop :=
  match f with
  | .ret v => Q (.ret v) s₂
  | .brk => Q .next s₂
  | _ => ∃ h tk m all led pl, s₂ = { s with heap := h, toks := tk } ∧ Fr h₀ L h m ∧ News h₀ L h all ∧ AllAt m pl ∧ J led pl ∧ SubL led all
section
variable {prog : Program} {w : World} {A : Around} {E : Value → Shared → Prop} {s : Shared} {env : Env} {h₀ : Heap} {x : Str} {px pos : Pos} {body orelse : List Stmt} {Q : Flow → Shared → Prop}
theorem off1_of {I : Addr} {h : Heap} {L : Addr} : ∀ {led : List (Addr × Obj)}, News h₀ L h led → h.get? I = none → LCg.Off1 I led
  | [], _, _ => trivial
  | q :: r, N, e => ⟨fun x => (by have := (N q (.head _)).1; rw [show q.1 = I from x, e] at this; cases this), off1_of (fun y hy => N y (.tail _ hy)) e⟩
theorem off1_ne {I : Addr} : ∀ {led : List (Addr × Obj)}, LCg.Off1 I led → ∀ p ∈ led, p.1 ≠ I
  | [], _, _, h => nomatch h
  | q :: r, x, p, h => by
    rcases List.mem_cons.mp h with e | h
    · subst e; exact x.1
    · exact off1_ne x.2 p h

theorem loop_my {I : Addr} {fp : List Addr} {n : Nat} {P : Nat → Value → Prop} {St : Nat → Heap → Prop} {m : Str → Option Value} {led : List (Addr × Obj)} {pl : List (Str × Value)} (kp : List (Addr × Obj)) (Inv : Nat → List (Addr × Obj) → List (Str × Value) → Prop)
    (W : Walks prog w A I fp [I] n P St) (hfp : ∀ b ∈ fp, b = I ∨ (∃ o, h₀.get? b = some o) ∨ ∃ o, (b, o) ∈ kp) (hkp : ∀ i led pl, Inv i led pl → ∀ p ∈ kp, p ∈ led)
    (hex : ∀ i h, St i h → ∃ o, h.get? I = some o) (hI : h₀.get? I = none) (hIL : I ≠ env.locals) (hst : St 0 s.heap)
    (F : Fr h₀ env.locals s.heap m) (N : News h₀ env.locals s.heap led) (hoff : LCg.Off1 I led) (hp : AllAt m pl) (hi : Inv 0 led pl)
    (hE : PassesOwn (model prog w) A env E)
    (turn : ∀ i v led pl u o h tk, i < n → P i v → Inv i led pl → LCg.Off1 I led → Fr h₀ env.locals h (kstB u pl) → News h₀ env.locals h ((I, o) :: led) →
      wpAny (model prog w) A (assign (.Name x px) env v) (fun _ s₂ => wpAny (model prog w) A (execs body env) (TE h₀ env.locals s (I, o) (Inv (i + 1)) Q) E s₂) E { s with heap := h, toks := tk })
    (done : ∀ led pl u h tk, Inv n led pl → Fr h₀ env.locals h (kstB u pl) → News h₀ env.locals h led → wpAny (model prog w) A (execs orelse env) Q E { s with heap := h, toks := tk }) :
    codeAny (model prog w) A (.forLoop (.Name x px) (.ref I) body orelse env) (fun r s' => match r with | .ok f => Q f s' | .error e => cameBackBy (model prog w) A env E e s') s := by
  have old : ∀ b o, h₀.get? b = some o → b ≠ I := fun b o e q => by rw [q, hI] at e; cases e
  refine codeAny_forLoop_any
    (fun k s' => ∃ h' tk m' led' pl' i, s' = { s with heap := h', toks := tk } ∧ St i h' ∧ Fr h₀ env.locals h' m' ∧ News h₀ env.locals h' led' ∧ LCg.Off1 I led' ∧ AllAt m' pl' ∧ Inv i led' pl' ∧ i ≤ n ∧ k = n + 1 - i) ?_ (n + 1)
    ⟨s.heap, s.toks, m, led, pl, 0, rfl, hst, F, N, hoff, hp, hi, Nat.zero_le _, rfl⟩
  rintro k s' ⟨h', tk, m', led', pl', i, rfl, hst', F', N', hoff', hp', hJ, hi, rfl⟩
  have next : ∀ h₁ : Heap, (∀ b o, b ∉ [I] → h'.get? b = some o → h₁.get? b = some o) → Fr h₀ env.locals h₁ m' ∧ News h₀ env.locals h₁ led' := fun h₁ hk₁ =>
    ⟨⟨F'.ns.at' fun o e => hk₁ _ o (fun q => hIL (List.mem_singleton.mp q).symm) e, fun b o e => hk₁ b o (fun q => old b o e (List.mem_singleton.mp q)) (F'.keep b o e), F'.above⟩,
      fun p hp => ⟨hk₁ _ _ (fun q => off1_ne hoff' p hp (List.mem_singleton.mp q)) (N' p hp).1, (N' p hp).2⟩⟩
  by_cases hlt : i < n
  · refine W.item i _ _ _ hlt hst' fun v h₁ tk₁ hP hst₁ hk₁ => ?_
    obtain ⟨F₁, N₁⟩ := next h₁ hk₁
    obtain ⟨oI, hoI⟩ := hex _ _ hst₁
    have N₂ : News h₀ env.locals h₁ ((I, oI) :: led') := fun p hp => by
      rcases List.mem_cons.mp hp with rfl | hp
      · exact ⟨hoI, hIL, hI⟩
      · exact N₁ p hp
    refine wpAny_pure ?_
    refine wpAny_mono (turn i v led' pl' m' oI h₁ tk₁ hlt hP hJ hoff' (by rw [allB hp']; exact F₁) N₂) (fun _ s₂ h₂' => wpAny_mono (wpAny_passesOwn hE h₂') (fun f s₃ h₄ => ?_) fun _ _ e => e) hE
    have fin : (∃ h tk m all led pl, s₃ = { s with heap := h, toks := tk } ∧ Fr h₀ env.locals h m ∧ News h₀ env.locals h all ∧ AllAt m pl ∧ Inv (i + 1) led pl ∧ SubL ((I, oI) :: led) all ∧ LCg.Off1 I led) →
        ∃ m₁, m₁ < n + 1 - i ∧ ∃ h' tk m' led' pl' i, s₃ = { s with heap := h', toks := tk } ∧ St i h' ∧ Fr h₀ env.locals h' m' ∧ News h₀ env.locals h' led' ∧ LCg.Off1 I led' ∧ AllAt m' pl' ∧ Inv i led' pl' ∧ i ≤ n ∧ m₁ = n + 1 - i := by
      rintro ⟨h₃, tk₃, m₃, all, led₃, pl₃, rfl, F₃, N₃, hp₃, hJ₃, sub, off₃⟩
      refine ⟨n + 1 - (i + 1), by omega, h₃, tk₃, m₃, led₃, pl₃, i + 1, rfl, ?_, F₃, fun p hp => N₃ p (sub.mem p (.tail _ hp)), off₃, hp₃, hJ₃, hlt, rfl⟩
      refine W.frame _ _ _ hst₁ fun b hb o e => ?_
      rcases hfp b hb with rfl | ⟨o₀, h0⟩ | ⟨o₀, hk⟩
      · rw [hoI] at e; cases e
        exact (N₃ _ (sub.mem _ (.head _))).1
      · have : o₀ = o := by have q := F₁.keep b o₀ h0; rw [e] at q; exact (Option.some.inj q).symm
        exact this ▸ F₃.keep b o₀ h0
      · have : o₀ = o := by have q := (N₁ _ (hkp _ _ _ hJ _ hk)).1; rw [e] at q; exact (Option.some.inj q).symm
        exact this ▸ (N₃ _ (sub.mem _ (.tail _ (hkp _ _ _ hJ₃ _ hk)))).1
    cases f with
    | ret v => exact h₄
    | brk => exact h₄
    | cont => exact fin h₄
    | next => exact fin h₄
  · have hin : i = n := by omega
    subst hin
    refine W.done _ _ _ hst' fun h₁ tk₁ hk₁ => ?_
    obtain ⟨F₁, N₁⟩ := next h₁ hk₁
    exact wpAny_passesOwn hE (done led' pl' m' h₁ tk₁ hJ (by rw [allB hp']; exact F₁) N₁)

noncomputable def MyLoop (prog : Program) (w : World) (A : Around) (h₀ : Heap) (env : Env) (x : Str) (px : Pos) (body orelse : List Stmt) (Q : Flow → Shared → Prop) (E : Value → Shared → Prop) (it : Value) (s₂ : Shared) : Prop :=
  codeAny (model prog w) A (.forLoop (.Name x px) it body orelse env) (fun r s' => match r with | .ok f => Q f s' | .error e => cameBackBy (model prog w) A env E e s') s₂
theorem For_my {m : Str → Option Value} {iter : Expr} (F : Fr h₀ env.locals s.heap m)
    (h : wpAny (model prog w) A (eval iter env) (fun xv s₁ => wpAny (model prog w) A (pyIter xv) (fun it s₂ => MyLoop prog w A h₀ env x px body orelse Q E it s₂) E s₁) E s)
    (hs : ∀ x, foldedSetIterable iter env x = pure x := by intro _; rfl) :
    wpAny (model prog w) A (exec (.For (.Name x px) iter body orelse pos) env) Q E s := wpAny_For h hs

theorem my_range {r : Addr} {a₀ b₀ : Int} {t₀ u₀ v₀ : Tok} {m : Str → Option Value} {led : List (Addr × Obj)} {n : Nat} (pl : List (Str × Value)) (Inv : Nat → List (Addr × Obj) → List (Str × Value) → Prop)
    (hh : A.handled = none) (hr : IsRange s.heap r a₀ b₀ 1 t₀ u₀ v₀) (hsmall : Builtin.Range.small a₀ b₀ 1 = true) (hn : Builtin.Range.rangeSize a₀ b₀ 1 = (n : Int))
    (F : Fr h₀ env.locals s.heap m) (N : News h₀ env.locals s.heap led) (hp : AllAt m pl) (hi : Inv 0 led pl)
    (turn : ∀ i v led pl I u o h tk, i < n → (∃ t, v = .int (a₀ + (i : Int)) t) → Inv i led pl → LCg.Off1 I led → Fr h₀ env.locals h (kstB u pl) → News h₀ env.locals h ((I, o) :: led) →
      wpAny (model prog w) A (assign (.Name x px) env v) (fun _ s₂ => wpAny (model prog w) A (execs body env) (TE h₀ env.locals s (I, o) (Inv (i + 1)) Q) E s₂) E { s with heap := h, toks := tk })
    (done : ∀ led pl u h tk, Inv n led pl → Fr h₀ env.locals h (kstB u pl) → News h₀ env.locals h led → wpAny (model prog w) A (execs orelse env) Q E { s with heap := h, toks := tk })
    (hE : PassesOwn (model prog w) A env E := by passes_own) :
    wpAny (model prog w) A (pyIter (.ref r)) (fun it s₂ => MyLoop prog w A h₀ env x px body orelse Q E it s₂) E s := by
  refine wpAny_pyIter_range hr hsmall ?_
  have W : Walks prog w A s.heap.objs.size [s.heap.objs.size] [s.heap.objs.size] n (fun i v => i < n ∧ ∃ t, v = .int (a₀ + i * 1) t)
      (fun i h => IsRangeIter h s.heap.objs.size (a₀ + (i : Nat) * 1) ((n : Int) - (i : Nat)) 1) := (Walks.range hh _ a₀ 1 n).bound
  refine loop_my [] Inv W (fun b hb => .inl (List.mem_singleton.mp hb)) (fun _ _ _ _ _ hp => nomatch hp) (fun i h hs => ?_) (next_is_new F) (fun e => absurd F.ns.lt (e ▸ Nat.lt_irrefl _)) (by show IsRangeIter _ _ _ _ _; rw [hn]; simpa using Heap.get?_push_size _ rfl) (F.push _)
    (fun p hp => ⟨Heap.get?_push_of_some _ (N p hp).1, (N p hp).2⟩) (off1_of N (Heap.get?_none_of_le (Nat.le_refl _))) hp hi hE ?_ ?_
  · exact ⟨_, hs⟩
  · rintro i v led pl u o h tk hi ⟨_, t, rfl⟩ hJ ho F₁ N₁
    exact turn i _ led pl _ u o h tk hi ⟨t, by rw [Int.mul_one]⟩ hJ ho F₁ N₁
  · exact fun led pl u h tk hJ F₁ N₁ => done led pl u h tk hJ F₁ N₁

theorem my_list {l : Addr} {items : Array Value} {k : Nat} {m : Str → Option Value} {led : List (Addr × Obj)} (pl : List (Str × Value)) (Inv : Nat → List (Addr × Obj) → List (Str × Value) → Prop)
    (hh : A.handled = none) (hl : (l, listOf items k) ∈ led) (hkp : ∀ i led pl, Inv i led pl → (l, listOf items k) ∈ led)
    (F : Fr h₀ env.locals s.heap m) (N : News h₀ env.locals s.heap led) (hp : AllAt m pl) (hi : Inv 0 led pl)
    (turn : ∀ i v led pl I u o h tk, i < items.size → items[i]? = some v → Inv i led pl → LCg.Off1 I led → Fr h₀ env.locals h (kstB u pl) → News h₀ env.locals h ((I, o) :: led) →
      wpAny (model prog w) A (assign (.Name x px) env v) (fun _ s₂ => wpAny (model prog w) A (execs body env) (TE h₀ env.locals s (I, o) (Inv (i + 1)) Q) E s₂) E { s with heap := h, toks := tk })
    (done : ∀ led pl u h tk, Inv items.size led pl → Fr h₀ env.locals h (kstB u pl) → News h₀ env.locals h led → wpAny (model prog w) A (execs orelse env) Q E { s with heap := h, toks := tk })
    (hE : PassesOwn (model prog w) A env E := by passes_own) :
    wpAny (model prog w) A (pyIter (.ref l)) (fun it s₂ => MyLoop prog w A h₀ env x px body orelse Q E it s₂) E s := by
  have hol : s.heap.get? l = some (listOf items k) := (N _ hl).1
  have hls : s.heap.IsList l items := ⟨_, hol, rfl, k, rfl⟩
  have hne : l ≠ s.heap.objs.size := Nat.ne_of_lt (Heap.lt_size hol)
  refine wpAny_pyIter_list hls ?_
  have W := Walks.list (prog := prog) (w := w) hh s.heap.objs.size l hne items
  refine loop_my [(l, listOf items k)] Inv W (fun b hb => ?_) (fun i led pl hJ p hp => (List.mem_singleton.mp hp) ▸ hkp i led pl hJ) (fun i h hs => ?_) (next_is_new F) (fun e => absurd F.ns.lt (e ▸ Nat.lt_irrefl _)) ⟨⟨_, Heap.get?_push_size _ rfl, rfl, rfl⟩, hls.at fun o e => Heap.get?_push_of_some _ e⟩ (F.push _)
    (fun p hp => ⟨Heap.get?_push_of_some _ (N p hp).1, (N p hp).2⟩) (off1_of N (Heap.get?_none_of_le (Nat.le_refl _))) hp hi hE ?_ ?_
  · rcases List.mem_cons.mp hb with rfl | hb
    · exact .inl rfl
    · rw [List.mem_singleton.mp hb]; exact .inr (.inr ⟨_, List.Mem.head _⟩)
  · obtain ⟨⟨o, ho, _⟩, _⟩ := hs
    exact ⟨o, ho⟩
  · intro i v led pl u o h tk hi hv hJ ho F₁ N₁
    exact turn i _ led pl _ u o h tk hi hv hJ ho F₁ N₁
  · exact fun led pl u h tk hJ F₁ N₁ => done led pl u h tk hJ F₁ N₁

theorem my_while {test : Expr} {m : Str → Option Value} {led : List (Addr × Obj)} (pl : List (Str × Value)) (Inv : Nat → List (Addr × Obj) → List (Str × Value) → Prop) (n : Nat)
    (F : Fr h₀ env.locals s.heap m) (N : News h₀ env.locals s.heap led) (hp : AllAt m pl) (hi : Inv n led pl)
    (turn : ∀ n led pl u h tk, Inv n led pl → Fr h₀ env.locals h (kstB u pl) → News h₀ env.locals h led →
      wpAny (model prog w) A (isTrue test env (eval test env)) (fun b s₂ =>
        if b = true then wpAny (model prog w) A (execs body env) (TW h₀ env.locals s (fun led pl => ∃ k, k < n ∧ Inv k led pl) Q) E s₂ else Q .next s₂) E { s with heap := h, toks := tk })
    (hE : PassesOwn (model prog w) A env E := by passes_own) :
    wpAny (model prog w) A (exec (.While test body [] pos) env) Q E s := by
  refine While_inv2 (fun n m nx => ∃ pl, AllAt m pl ∧ Inv n nx pl) F N ⟨pl, hp, hi⟩ ?_ hE
  rintro n m₁ nx h tk F₁ N₁ ⟨pl₁, hp₁, hJ⟩
  refine wpAny_mono (turn n nx pl₁ m₁ h tk hJ (by rw [allB hp₁]; exact F₁) N₁) (fun b s₂ p => ?_) fun _ _ x => x
  cases b with
  | false => simpa using p
  | true =>
    simp only [if_true] at p ⊢
    refine wpAny_mono p (fun f s₃ q => ?_) fun _ _ x => x
    have fin : (∃ h tk m all led pl, s₃ = { s with heap := h, toks := tk } ∧ Fr h₀ env.locals h m ∧ News h₀ env.locals h all ∧ AllAt m pl ∧ (∃ k, k < n ∧ Inv k led pl) ∧ SubL led all) →
        ∃ h' tk' m' nx n', s₃ = { s with heap := h', toks := tk' } ∧ Fr h₀ env.locals h' m' ∧ News h₀ env.locals h' nx ∧ n' < n ∧ ∃ pl, AllAt m' pl ∧ Inv n' nx pl := by
      rintro ⟨h', tk', m', all, led, pl, e, F', N', hp', ⟨k, hk, hJ'⟩, sub⟩
      exact ⟨h', tk', m', led, k, e, F', fun p hp => N' p (sub.mem p hp), hk, pl, hp', hJ'⟩
    cases f with
    | ret v => exact q
    | brk => exact q
    | next => exact fin q
    | cont => exact fin q
end
section
variable {prog : Program} {w : World} {A : Around} {E : Value → Shared → Prop} {s : Shared} {h₀ : Heap} {L : Addr} {m : Str → Option Value}
theorem base_item {value slice : Expr} {l : Addr} {items : Array Value} {n : Nat} {k : Int} {u : Tok} {x : Value} {Q : Value → Shared → Prop} (F : Fr h₀ L s.heap m) (hl : h₀.get? l = some (listOf items n))
    (h0 : 0 ≤ k) (hj : items[k.toNat]? = some x) (h1 : k < 2 ^ 63) (h : Q x s)
    (hs : subscripted slice false (.ref l) (.int k u) = operate [.ref l, .int k u] (getItem (.ref l) (.int k u)) := by with_unfolding_all rfl) (hg : ∀ r, letTemporaryGo value (.ref l) r = pure () := by intro _; with_unfolding_all rfl) :
    wpAny (model prog w) A (subscriptTail value slice (.ref l) (.int k u)) Q E s :=
  item_list (l := l) (items := items) ⟨_, F.keep _ _ hl, rfl, n, rfl⟩ h0 h1 hj h hs hg
end
theorem a30 {a b c : Value} : (#[a, b, c] : Array Value)[0]? = some a := rfl
theorem a31 {a b c : Value} : (#[a, b, c] : Array Value)[1]? = some b := rfl
theorem a32 {a b c : Value} : (#[a, b, c] : Array Value)[2]? = some c := rfl
theorem o1h {I : Addr} {p : Addr × Obj} {r : List (Addr × Obj)} (h : LCg.Off1 I (p :: r)) : @Ne Nat p.1 I := h.1
theorem o1t {I : Addr} {p : Addr × Obj} {r : List (Addr × Obj)} (h : LCg.Off1 I (p :: r)) : LCg.Off1 I r := h.2
theorem nsym {a b : Nat} (h : a ≠ b) : b ≠ a := Ne.symm h
section
variable {h₀ : Heap} {L : Addr} {s : Shared} {I : Addr × Obj} {J : List (Addr × Obj) → List (Str × Value) → Prop} {Q : Flow → Shared → Prop} {h : Heap} {tk : Nat} {m : Str → Option Value} {all led : List (Addr × Obj)} {pl : List (Str × Value)}
theorem te_next (F : Fr h₀ L h m) (N : News h₀ L h all) (sub : SubL (I :: led) all) (hp : AllAt m pl) (hJ : J led pl) (ho : LCg.Off1 I.1 led) : TE h₀ L s I J Q .next { s with heap := h, toks := tk } :=
  ⟨h, tk, m, all, led, pl, rfl, F, N, hp, hJ, sub, ho⟩
theorem tw_next (F : Fr h₀ L h m) (N : News h₀ L h all) (sub : SubL led all) (hp : AllAt m pl) (hJ : J led pl) : TW h₀ L s J Q .next { s with heap := h, toks := tk } :=
  ⟨h, tk, m, all, led, pl, rfl, F, N, hp, hJ, sub⟩
end
theorem ints_push {vs : Array Value} {ns : List Int} {n : Int} {t : Tok} (h : IntsAre vs.toList ns) : IntsAre (vs.push (.int n t)).toList (ns ++ [n]) := by
  rw [Array.toList_push]
  exact IntsAre.append h (.cons n t .nil)

end
section --Lq

theorem o1a {I : Addr} {p : Addr × Obj} {r : List (Addr × Obj)} : LCg.Off1 I (p :: r) → @Ne Nat p.1 I := fun h => h.1
theorem o1b {I : Addr} {p : Addr × Obj} {r : List (Addr × Obj)} : LCg.Off1 I (p :: r) → @Ne Nat I p.1 := fun h => Ne.symm h.1
theorem o1c {I : Addr} {p : Addr × Obj} {r : List (Addr × Obj)} {P : Prop} (h : LCg.Off1 I r → P) : LCg.Off1 I (p :: r) → P := fun x => h x.2
section
variable {prog : Program} {w : World} {A : Around} {E : Value → Shared → Prop} {s : Shared} {h₀ : Heap} {L : Addr} {m : Str → Option Value} {news : List (Addr × Obj)} {value slice : Expr} {l : Addr} {a b c : Value} {items : Array Value} {n : Nat} {k : Int} {u : Tok} {x : Value} {Q : Value → Shared → Prop}
theorem b3_0 (hk : k = 0) (F : Fr h₀ L s.heap m) (hl : h₀.get? l = some (listOf #[a, b, c] n)) (h : Q a s)
    (hs : subscripted slice false (.ref l) (.int k u) = operate [.ref l, .int k u] (getItem (.ref l) (.int k u)) := by with_unfolding_all rfl) (hg : ∀ r, letTemporaryGo value (.ref l) r = pure () := by intro _; with_unfolding_all rfl) :
    wpAny (model prog w) A (subscriptTail value slice (.ref l) (.int k u)) Q E s := by
  subst hk; exact base_item F hl (by decide) a30 (by decide) h hs hg
theorem b3_1 (hk : k = 1) (F : Fr h₀ L s.heap m) (hl : h₀.get? l = some (listOf #[a, b, c] n)) (h : Q b s)
    (hs : subscripted slice false (.ref l) (.int k u) = operate [.ref l, .int k u] (getItem (.ref l) (.int k u)) := by with_unfolding_all rfl) (hg : ∀ r, letTemporaryGo value (.ref l) r = pure () := by intro _; with_unfolding_all rfl) :
    wpAny (model prog w) A (subscriptTail value slice (.ref l) (.int k u)) Q E s := by
  subst hk; exact base_item F hl (by decide) a31 (by decide) h hs hg
theorem b3_2 (hk : k = 2) (F : Fr h₀ L s.heap m) (hl : h₀.get? l = some (listOf #[a, b, c] n)) (h : Q c s)
    (hs : subscripted slice false (.ref l) (.int k u) = operate [.ref l, .int k u] (getItem (.ref l) (.int k u)) := by with_unfolding_all rfl) (hg : ∀ r, letTemporaryGo value (.ref l) r = pure () := by intro _; with_unfolding_all rfl) :
    wpAny (model prog w) A (subscriptTail value slice (.ref l) (.int k u)) Q E s := by
  subst hk; exact base_item F hl (by decide) a32 (by decide) h hs hg
theorem news_item (N : News h₀ L s.heap news) (hm : (l, W.listOf items n) ∈ news)
    (h0 : 0 ≤ k) (hj : items[k.toNat]? = some x) (h1 : k < 2 ^ 63) (h : Q x s)
    (hs : subscripted slice false (.ref l) (.int k u) = operate [.ref l, .int k u] (getItem (.ref l) (.int k u)) := by with_unfolding_all rfl) (hg : ∀ r, letTemporaryGo value (.ref l) r = pure () := by intro _; with_unfolding_all rfl) :
    wpAny (model prog w) A (subscriptTail value slice (.ref l) (.int k u)) Q E s :=
  item_list (l := l) (items := items) ⟨_, N.get hm, rfl, n, rfl⟩ h0 h1 hj h hs hg
end
noncomputable def StrsG (ss : List Str) (h₀ : Heap) (r : Value) (h' : Heap) : Prop := ∃ l vs k, r = .ref l ∧ h₀.get? l = none ∧ h'.get? l = some (W.listOf vs.toArray k) ∧ StrsAre vs ss
theorem strs_g {h₀ h' : Heap} {L l : Addr} {news : List (Addr × Obj)} {vs : List Value} {ms ns : List Str} {k : Nat} (N : News h₀ L h' news) (hm : (l, W.listOf vs.toArray k) ∈ news) (i : StrsAre vs ms) (e : ms = ns) : StrsG ns h₀ (.ref l) h' := by
  subst e
  exact ⟨l, vs, k, rfl, N.fresh hm, N.get hm, i⟩

end
section --Cut

theorem execs_app (env : Env) : ∀ (l₁ l₂ : List Stmt), execs (l₁ ++ l₂) env = (do match ← execs l₁ env with | .next => execs l₂ env | f => pure f)
  | [], l₂ => by rw [List.nil_append, execs_nil, pure_bind]
  | st :: r, l₂ => by
    rw [List.cons_append, execs_cons, execs_cons, bind_assoc]
    congr 1
    funext f
    cases f with
    | next => exact execs_app env r l₂
    | brk => rw [pure_bind]
    | cont => rw [pure_bind]
    | ret v => rw [pure_bind]
section
variable {prog : Program} {w : World} {A : Around} {E : Value → Shared → Prop} {s : Shared} {env : Env}
theorem execs_cut {l : List Stmt} {Q : Flow → Shared → Prop} (n : Nat) (Mid : Shared → Prop) (h₁ : wpAny (model prog w) A (execs (l.take n) env) (fun f s' => match f with | .next => Mid s' | f => Q f s') E s)
    (h₂ : ∀ s', Mid s' → wpAny (model prog w) A (execs (l.drop n) env) Q E s') : wpAny (model prog w) A (execs l env) Q E s := by
  rw [← List.take_append_drop n l, execs_app]
  refine wpAny_bind (wpAny_mono h₁ (fun f s' h => ?_) fun _ _ e => e)
  cases f with
  | next => exact h₂ s' h
  | brk => exact wpAny_pure h
  | cont => exact wpAny_pure h
  | ret v => exact wpAny_pure h
end
noncomputable def MyWhile (prog : Program) (w : World) (A : Around) (test : Expr) (body orelse : List Stmt) (pos : Pos) (env : Env) (Q : Flow → Shared → Prop) (E : Value → Shared → Prop) (s : Shared) : Prop := wpAny (model prog w) A (exec (.While test body orelse pos) env) Q E s
theorem my_while_stop {prog : Program} {w : World} {A : Around} {test : Expr} {body orelse : List Stmt} {pos : Pos} {env : Env} {Q : Flow → Shared → Prop} {E : Value → Shared → Prop} {s : Shared} (h : MyWhile prog w A test body orelse pos env Q E s) : wpAny (model prog w) A (exec (.While test body orelse pos) env) Q E s := h
noncomputable def MidP (h₀ : Heap) (L : Addr) (s : Shared) (J : List (Addr × Obj) → List (Str × Value) → Prop) (s₂ : Shared) : Prop :=
  ∃ h tk m all led pl, s₂ = { s with heap := h, toks := tk } ∧ Fr h₀ L h m ∧ News h₀ L h all ∧ AllAt m pl ∧ J led pl ∧ SubL led all
theorem mid_next {h₀ : Heap} {L : Addr} {s : Shared} {J : List (Addr × Obj) → List (Str × Value) → Prop} {h : Heap} {tk : Nat} {m : Str → Option Value} {all led : List (Addr × Obj)} {pl : List (Str × Value)} (F : Fr h₀ L h m) (N : News h₀ L h all) (sub : SubL led all) (hp : AllAt m pl) (hJ : J led pl) : MidP h₀ L s J { s with heap := h, toks := tk } :=
  ⟨h, tk, m, all, led, pl, rfl, F, N, hp, hJ, sub⟩
theorem mid_get {h₀ : Heap} {L : Addr} {s s₂ : Shared} {J : List (Addr × Obj) → List (Str × Value) → Prop} {P : Prop} (h : MidP h₀ L s J s₂)
    (k : ∀ h tk led pl u, s₂ = { s with heap := h, toks := tk } → Fr h₀ L h (kstB u pl) → News h₀ L h led → J led pl → P) : P := by
  obtain ⟨h, tk, m, all, led, pl, e, F, N, hp, hJ, sub⟩ := h
  exact k h tk led pl m e (by rw [allB hp]; exact F) (fun p hp => N p (sub.mem p hp)) hJ

end
section --Nst

section
variable {prog : Program} {w : World} {s : Shared} {K : Frag} {h₀ base : Heap} {mg mb : Str → Option Value} {p : Program} {loose : List Str} {mean : ExcName → Option Value} {dp un : Nat} {gd : Option (List Code)} {outer : List Env} {led : List (Addr × Obj)}
theorem enterN {R : Result → Shared → Prop} {name qual : Str} {params : Arguments} {body : List Stmt} {scope : Scope} {cl : List (Str × Addr)} {dV kV doc pm cdv ct : Value} {an : Option Addr} {fo : Obj} {f : Addr} {args : Args} {binds : List (Str × Value)}
    (T : Top p loose mean mg mb h₀) (hkp : ∀ b o, h₀.get? b = some o → s.heap.get? b = some o) (hsz : h₀.objs.size ≤ s.heap.objs.size)
    (hled : ∀ q ∈ led, s.heap.get? q.1 = some q.2 ∧ h₀.get? q.1 = none)
    (ho : h₀.get? f = some fo) (hd : fo.data = .func (fnX name qual params body scope cl dV kV doc pm an cdv ct)) (hcd : h₀.CodeRec cdv qual) (hroom : dp < recursionLimit)
    (hbind : BindsTo s (fnX name qual params body scope cl dV kV doc pm an cdv ct) args binds) (hloc : ∀ y ∈ binds, scope.names.lookup y.1 = some .local)
    (h : ∀ L' h₁, Fr h₀ L' h₁ (fun y => binds.reverse.lookup y) → News h₀ L' h₁ led → (∀ q ∈ led, q.1 < L') →
      wpAny (model prog w) ((arnd dp un gd outer).deeper (envX qual scope L' f cdv cl)) (execs body (envX qual scope L' f cdv cl))
        (fun fl s' => R (.ok (.ret (match fl with | .ret v => v | _ => .none))) s')
        (fun e s' => wpAny (model prog w) ((arnd dp un gd outer).deeper (envX qual scope L' f cdv cl)) (leaving (envX qual scope L' f cdv cl) e) (fun _ s'' => R (.error e) s'') (fun e' s'' => R (.error e') s'') s')
        { s with heap := h₁, toks := s.toks + binds.length })
    (hco : scope.isCoroutine = false) (hgen : scope.isGenerator = false) (hk : scope.kind = .function)
    (hcell : ∀ x ∈ scope.names, x.2 ≠ .cell) : codeAny (model prog w) (arnd dp un gd outer) (.call (.ref f) args) R s := by
  refine codeAny_call_def (fd := fnX name qual params body scope cl dV kV doc pm an cdv ct) (body := body) (binds := binds) hroom (hkp _ _ ho) hd (T.nolimit.keeps hkp) (hcd.keeps hkp) rfl hbind hcell hloc (fun h₁ hns hk₁ => ?_) hco hgen hk
  exact h s.heap.objs.size h₁ ⟨hns, fun b o e => hk₁ b o (hkp b o e), hsz⟩ (fun q hq => ⟨hk₁ _ _ (hled q hq).1, Nat.ne_of_lt (Heap.lt_size (hled q hq).1), (hled q hq).2⟩) (fun q hq => Heap.lt_size (hled q hq).1)
end
section
variable {M : Model} {A : Around} {E : Value → Shared → Prop} {s : Shared} {h₀ : Heap} {L a : Addr} {m : Str → Option Value} {cn : Str} {cs : Scope} {ccd : Value} {cl : List (Str × Addr)} {x : Str} {pos : Pos} {v : Value} {Q : Value → Shared → Prop} {c : Addr} {oc : Obj}
theorem nameX_Fb (F : Fr h₀ L s.heap m) (hc : cl.lookup x = some c) (hv : h₀.get? c = some oc) (hd : oc.data = .cell (some v)) (h : Q v s)
    (hk : cs.kind = .function := by rfl) (hx : (envX cn cs L a ccd cl).kindOf x = some .free := by rfl) (hb : (x == ("__debug__" : Str)) = false := by decide) (hn : (x == ("__classdict__" : Str)) = false := by decide) :
    wpAny M A (eval (.Name x pos) (envX cn cs L a ccd cl)) Q E s := wpAny_Name (wpAny_loadName_free hk hx hc ⟨oc, F.keep _ _ hv, hd⟩ h hn) hb
end
section
variable {M : Model} {A : Around} {E : Value → Shared → Prop} {s : Shared} {h₀ : Heap} {L a c P : Addr} {m mg mb : Str → Option Value} {cn : Str} {cs : Scope} {ccd : Value} {cl : List (Str × Addr)} {news : List (Addr × Obj)}
  {p : Program} {loose : List Str} {mean : ExcName → Option Value} {name qual : Str} {params : Arguments} {body : List Stmt} {scope : Scope} {ps : Array Value} {pos : Pos} {firstLine : Nat} {clos : List (Str × Addr)}
theorem nestHitB {Q : Value → Shared → Prop} {c' : Addr} (F : Fr h₀ L s.heap m) (N : News h₀ L s.heap news) (T : Top p loose mean mg mb h₀) (C : CodeHd h₀ c P) (hcd : ccd = .ref c) (hP : h₀.get? P = some (tabObj ps)) (ht : TriplesOk ps.toList) (hf : codeAmong pos ps.toList = some (.ref c'))
    (hcl : closureFor scope (envX cn cs L a ccd cl) = pure clos)
    (h : ∀ f ctv doc h' tk, Fr h₀ L h' m → News h₀ L h' ((f, fnMade name qual params body scope clos doc ((mg "__name__").getD .none) c' ctv) :: news) → (∀ q ∈ news, q.1 < f) → Q (.ref f) { s with heap := h', toks := tk }) :
    wpAny M A (makeFunction name qual params (.stmts body) scope (envX cn cs L a ccd cl) [] [] [] pos firstLine) Q E s := by
  have hgs := T.g.keeps F.keep
  obtain ⟨bm, ob, b1, b2, b3, b4, b5, b6⟩ := T.bmain
  have hbP : bm ≠ P := fun q => by
    have e := F.keep _ _ b3
    rw [q, F.keep _ _ hP] at e; cases e; cases b4
  have hbG : bm ≠ mainGlobals := fun q => by
    obtain ⟨o, es, ep, e, hd, _⟩ := T.g
    rw [q, e] at b3; cases b3; rw [hd] at b6; cases b6
  refine makeFunction_hit (mg := mg) hcl rfl hgs hcd (C.keeps F.keep) (F.keep _ _ hP) ht hf ⟨bm, ob, b1, b2, hbG, hbP, F.keep _ _ b3, b4, b5, b6⟩ fun ctv doc h' tk hk hsz => ?_
  have hLs : L < h'.objs.size := Nat.lt_of_lt_of_le F.ns.lt hsz
  have fresh : ∀ b, L < b → h₀.get? b = none := fun b hb => Heap.get?_none_of_le (Nat.le_trans F.above (Nat.le_of_lt hb))
  refine h h'.objs.size ctv doc _ tk ⟨(F.ns.keeps hk).push _, fun b o e => Heap.get?_push_of_some _ (hk b o (F.keep b o e)), F.above⟩ (fun q hq => ?_) (fun q hq => Nat.lt_of_lt_of_le (Heap.lt_size (N q hq).1) hsz)
  rcases List.mem_cons.mp hq with rfl | hq
  · exact ⟨Heap.get?_push_size _ rfl, Nat.ne_of_gt hLs, fresh _ hLs⟩
  · exact ⟨Heap.get?_push_of_some _ (hk _ _ (N q hq).1), (N q hq).2⟩
end
theorem off1_all {I : Addr} : ∀ {led : List (Addr × Obj)}, (∀ q ∈ led, q.1 ≠ I) → LCg.Off1 I led
  | [], _ => trivial
  | q :: r, h => ⟨h q (.head _), off1_all fun x hx => h x (.tail _ hx)⟩
section
variable {w : World} {f : Addr} {vs : List Value} {dk uk : Nat} {asks : Heap → Prop} {gives : Heap → Value → Heap → Prop}
  {p : Program} {loose : List Str} {mean : ExcName → Option Value} {mg mb : Str → Option Value} {dp un : Nat} {gd : Option (List Code)} {cn : Str} {cs : Scope} {a : Addr} {ccd : Value} {cl : List (Str × Addr)} {outer : List Env} {A₀ : Around} {base h₀ : Heap} {L P : Addr} {oP : Obj} {m : Str → Option Value} {news : List (Addr × Obj)} {g : Obj → List (Addr × Obj)} {s : Shared} {Q E : Value → Shared → Prop}
theorem Spec.use1 (S : Spec w f vs dk uk [(P, oP)] asks gives)
    (B : Below A₀ base outer h₀) (F : Fr h₀ L s.heap m) (X : (hd.heap_1 w.params).In h₀) (N : News h₀ L s.heap news) (T : Top p loose mean mg mb h₀) (hk : cs.kind = .function) (hd : dp + dk < recursionLimit) (hu : un + uk < cLine)
    (U : UpdF P oP news g) (ha : asks (hideAll s.heap [P]))
    (h : ∀ r h' tk', Fr h₀ L h' m → (∀ o', h'.get? P = some o' → News h₀ L h' (g o') ∧ ∀ c oc, (hideAll s.heap [P]).get? c = none → c ≠ P → h'.get? c = some oc → News h₀ L h' ((c, oc) :: g o') ∧ LCg.Off1 c (g o')) →
      gives (hideAll s.heap [P]) r h' → Q r { s with heap := h', toks := tk' }) :
    wpAny (model PySem.Challenge.rw_us0023_01.row.prog w) (ktrTop dp un gd cn cs L a ccd cl outer) (call (.ref f) vs) Q E s := by
  obtain ⟨own, rest, rfl, hg, h1, h2⟩ := U.split
  have hm := N (P, oP) (List.mem_append_right _ (.head _))
  have N₁ : News h₀ L s.heap [(P, oP)] := fun q hq => by rw [List.mem_singleton.mp hq]; exact hm
  have B₁ := pushX (env := envX cn cs L a ccd cl) B F rfl hk
  obtain ⟨FG, BG, st, _⟩ := groundX (R := fun _ _ => True) (env := envX cn cs L a ccd cl) (A := arnd dp un gd (envX cn cs L a ccd cl :: outer)) B F N₁ rfl rfl hk
  have X₁ := X.keeps st
  have T₁ := T.keeps st
  have nP : (hideAll s.heap [P]).get? P = none := hideAll_none _ (List.mem_singleton.mpr rfl)
  have keep1 : ∀ b o, b ≠ P → s.heap.get? b = some o → (hideAll s.heap [P]).get? b = some o := fun b o hb e => hideAll_get _ e (fun q => hb (List.mem_singleton.mp q))
  refine wpAny_call (S p loose mean mg mb dp un gd (envX cn cs L a ccd cl :: outer) base _ s _ BG X₁ T₁ (fun b o e => of_hideAll _ e) (Nat.le_of_eq (hideAll_size _ _)) (fun q hq => ?_) hd hu ha fun r h' tk' hk' hgv => ?_)
  · rw [List.mem_singleton.mp hq]; exact ⟨hm.1, nP⟩
  · have F' : Fr h₀ L h' m := ⟨FG.ns.keeps hk', fun b o e => hk' b o (FG.keep b o e), F.above⟩
    refine h r h' tk' F' (fun o' ho' => ?_) hgv
    have N' : News h₀ L h' (g o') := fun q hq => by
      rw [hg] at hq
      rcases List.mem_append.mp hq with hq | hq
      · have n := N q (List.mem_append_left _ hq)
        exact ⟨hk' _ _ (keep1 _ _ (h1 q hq) n.1), n.2⟩
      · rcases List.mem_cons.mp hq with rfl | hq
        · exact ⟨ho', hm.2⟩
        · have n := N q (List.mem_append_right _ (.tail _ hq))
          exact ⟨hk' _ _ (keep1 _ _ (h2 q hq) n.1), n.2⟩
    refine ⟨N', fun c oc c0 cP hc => ⟨fun q hq => ?_, off1_all fun q hq e => ?_⟩⟩
    · rcases List.mem_cons.mp hq with rfl | hq
      · refine ⟨hc, fun e => ?_, ?_⟩
        · obtain ⟨oL, _, _, hL, _⟩ := FG.ns
          have hL' : (hideAll s.heap [P]).get? L = some oL := hL
          simp only at e; rw [e, hL'] at c0; cases c0
        · cases q : h₀.get? c with
          | none => rfl
          | some o => have z : (hideAll s.heap [P]).get? c = some o := FG.keep _ _ q; rw [z] at c0; cases c0
      · exact N' q hq
    · rw [hg] at hq
      rcases List.mem_append.mp hq with hq | hq
      · have n := keep1 _ _ (h1 q hq) (N q (List.mem_append_left _ hq)).1
        rw [e, c0] at n; cases n
      · rcases List.mem_cons.mp hq with rfl | hq
        · exact cP e.symm
        · have n := keep1 _ _ (h2 q hq) (N q (List.mem_append_right _ (.tail _ hq))).1
          rw [e, c0] at n; cases n
end

end
section --Dg0

noncomputable def firstDef (o : Option Obj) : Option (Str × Arguments × List Stmt × Scope × Pos) := match o with
  | some ⟨_, _, .func fd, _⟩ => match fd.body with
    | .stmts (.FunctionDef name params body _ _ _ scope _ _ pos :: _) => some (name, params, body, scope, pos)
    | .stmts (_ :: .FunctionDef name params body _ _ _ scope _ _ pos :: _) => some (name, params, body, scope, pos)
    | _ => none
  | _ => none
noncomputable def in88 (P : Params) : {x // firstDef ((hd.heap_1 P).lookup 88) = some x} := ⟨_, rfl⟩
noncomputable def in81 (P : Params) : {x // firstDef ((hd.heap_1 P).lookup 81) = some x} := ⟨_, rfl⟩

end
section --Bt
open PySem PySem.W PyProof.Rows
theorem nat_and_top (x s : Nat) : x &&& (x / 2 ^ s * 2 ^ s) = x / 2 ^ s * 2 ^ s := by
  apply Nat.eq_of_testBit_eq
  intro i
  rw [Nat.testBit_and, Nat.testBit_mul_two_pow, Nat.testBit_div_two_pow]
  by_cases h : s ≤ i
  · rw [show i - s + s = i by (first | lia | omega)]
    cases x.testBit i <;> simp [h]
  · simp [h]
theorem bitAnd_nat (a b : Nat) : Builtin.bitAnd (a : Int) (b : Int) = ((a &&& b : Nat) : Int) := by
  unfold Builtin.bitAnd
  simp
theorem xor_low {x : Int} (hx : 0 ≤ x) (s : Nat) : Builtin.bitXor x (x.fdiv (2 ^ s) * 2 ^ s) = x % 2 ^ s := by
  obtain ⟨n, rfl⟩ := Int.eq_ofNat_of_zero_le hx
  have p : (0 : Int) ≤ 2 ^ s := Int.le_of_lt (Int.pow_pos (by decide))
  rw [Int.fdiv_eq_ediv_of_nonneg _ p]
  have e : ((n : Int) / 2 ^ s * 2 ^ s) = ((n / 2 ^ s * 2 ^ s : Nat) : Int) := by push_cast; rfl
  rw [e, bitXor_and, bitAnd_nat, nat_and_top, ← e]
  have := Int.emod_add_mul_ediv (n : Int) (2 ^ s)
  rw [Int.mul_comm] at this
  (first | lia | omega)
theorem emod_mul_ediv {x b q : Int} (hb : 0 < b) (hq : 0 < q) : x % (b * q) / b = x / b % q := by
  have h1 := Int.emod_add_mul_ediv x b
  have h2 := Int.emod_add_mul_ediv (x / b) q
  have h3 := Int.emod_nonneg x (Int.ne_of_gt hb)
  have h4 := Int.emod_lt_of_pos x hb
  have h5 := Int.emod_nonneg (x / b) (Int.ne_of_gt hq)
  have h6 := Int.emod_lt_of_pos (x / b) hq
  have e : x = (x % b + b * (x / b % q)) + b * q * (x / b / q) := by
    conv => lhs; rw [← h1, ← h2]
    rw [Int.mul_add, ← Int.mul_assoc]
    (first | lia | omega)
  have e2 : x % (b * q) = x % b + b * (x / b % q) := by
    have hl : b * (x / b % q + 1) ≤ b * q := Int.mul_le_mul_of_nonneg_left h6 (Int.le_of_lt hb)
    rw [Int.mul_add, Int.mul_one] at hl
    have hz : 0 ≤ b * (x / b % q) := Int.mul_nonneg (Int.le_of_lt hb) h5
    conv => lhs; rw [e]
    rw [Int.add_mul_emod_self_left, Int.emod_eq_of_lt (by (first | lia | omega)) (by (first | lia | omega))]
  rw [e2, Int.add_mul_ediv_left _ _ (Int.ne_of_gt hb), Int.ediv_eq_zero_of_lt h3 h4, Int.zero_add]
noncomputable def digs (n : Nat) : Nat → Int → List Int
  | 0, _ => []
  | m + 1, x => x % 2 ^ n :: digs n m (x / 2 ^ n)
theorem digs_len (n : Nat) : ∀ (m : Nat) (x : Int), (digs n m x).length = m
  | 0, _ => rfl
  | m + 1, x => by rw [digs, List.length_cons, digs_len]
theorem digs_add (n : Nat) : ∀ (p q : Nat) (x : Int), digs n (p + q) x = digs n p (x % 2 ^ (p * n)) ++ digs n q (x / 2 ^ (p * n))
  | 0, q, x => by simp [digs]
  | p + 1, q, x => by
    rw [show p + 1 + q = (p + q) + 1 by (first | lia | omega), digs, digs_add n p q, digs, List.cons_append]
    have e : (2 : Int) ^ ((p + 1) * n) = 2 ^ n * 2 ^ (p * n) := by rw [Nat.add_mul, Nat.one_mul, Nat.add_comm, Int.pow_add]
    have pn : (0 : Int) < 2 ^ n := Int.pow_pos (by decide)
    rw [e]
    congr 1
    · exact (Int.emod_emod_of_dvd x (Int.dvd_mul_right ..)).symm
    · congr 1
      · congr 1
        exact (emod_mul_ediv pn (Int.pow_pos (by decide))).symm
      · rw [Int.ediv_ediv_of_nonneg (Int.le_of_lt pn)]

end
section --Ci
open PySem PySem.W PyProof.Rows PySem.Calls PyProof.Rows.LCg PySem.Spec
section
variable {prog : Program} {w : World} {A : Around} {s : Shared} {h₀ : Heap} {L : Addr} {m : Str → Option Value} {env : Env}
theorem comp_ints_from {elt : Expr} {x : Str} {scope : Scope} {cl : List (Str × Addr)} {S : List (Addr × Obj) → Prop} {P : Nat → Value → Prop} {Fin : List Value → List (Addr × Obj) → Prop} {news : List (Addr × Obj)} (f : Nat → Int) (n : Nat)
    (turn : ∀ i v I oI C oC D m₂ ys h tk (E' : Value → Shared → Prop), i < n → P i v → NsObj oC m₂ → m₂ x = some v → Fr h₀ L h m → News h₀ L h ((I, oI) :: (C, oC) :: (D, lst ys) :: news) → Off3 I C D news → ((@Ne Nat I C) ∧ (@Ne Nat I D) ∧ (@Ne Nat C D)) →
      wpAny (model prog w) A (eval elt (compEnvC scope cl C env)) (CompEnd h₀ L m { s with heap := h, toks := tk } I oI C oC D (lst ys) S (fun y news' => news' = news ∧ ∃ t, y = .int (f i) t)) E' { s with heap := h, toks := tk })
    (fin : ∀ ys, IntsAre ys ((List.range n).map f) → Fin ys news) :
    ∀ (k i : Nat) (ys : List Value), i + k = n → IntsAre ys ((List.range i).map f) → CompRest prog w A h₀ L m env elt x scope cl s S P Fin k i ys news
  | 0, i, ys, hi, hy => CompRest.zero (fin ys (by rw [← hi]; exact hy))
  | k + 1, i, ys, hi, hy => CompRest.succ fun v I oI C oC D m₂ h tk E' hv hC hx F N off ne =>
      wpAny_mono (turn i v I oI C oC D m₂ ys h tk E' (by omega) hv hC hx F N off ne) (fun y s' q => by
        obtain ⟨h', tk', news', e, F', N', off', hS, rfl, t, rfl⟩ := q
        exact ⟨h', tk', _, e, F', N', off', hS, comp_ints_from f n turn fin k (i + 1) _ (by omega) (by
          rw [List.range_succ, List.map_append]
          exact IntsAre.append hy (.cons _ t .nil))⟩) fun _ _ e => e
theorem comp_ints {elt : Expr} {x : Str} {scope : Scope} {cl : List (Str × Addr)} {S : List (Addr × Obj) → Prop} {P : Nat → Value → Prop} {Fin : List Value → List (Addr × Obj) → Prop} {news : List (Addr × Obj)} (f : Nat → Int) (n : Nat)
    (turn : ∀ i v I oI C oC D m₂ ys h tk (E' : Value → Shared → Prop), i < n → P i v → NsObj oC m₂ → m₂ x = some v → Fr h₀ L h m → News h₀ L h ((I, oI) :: (C, oC) :: (D, lst ys) :: news) → Off3 I C D news → ((@Ne Nat I C) ∧ (@Ne Nat I D) ∧ (@Ne Nat C D)) →
      wpAny (model prog w) A (eval elt (compEnvC scope cl C env)) (CompEnd h₀ L m { s with heap := h, toks := tk } I oI C oC D (lst ys) S (fun y news' => news' = news ∧ ∃ t, y = .int (f i) t)) E' { s with heap := h, toks := tk })
    (fin : ∀ ys, IntsAre ys ((List.range n).map f) → Fin ys news) : CompRest prog w A h₀ L m env elt x scope cl s S P Fin n 0 [] news :=
  comp_ints_from f n turn fin n 0 [] (Nat.zero_add n) .nil
end
section
variable {prog : Program} {w : World} {A : Around} {E : Value → Shared → Prop} {s : Shared} {h₀ : Heap} {L l : Addr} {m : Str → Option Value} {value slice : PySem.Expr} {n i : Nat} {u : Tok} {Q : Value → Shared → Prop}
theorem b3_g {o0 o1 o2 : Int} {t0 t1 t2 : Tok} (F : Fr h₀ L s.heap m) (hl : h₀.get? l = some (W.listOf #[.int o0 t0, .int o1 t1, .int o2 t2] n)) (hi : i < 3) (h : ∀ t, Q (.int ([o0, o1, o2].getD i 0) t) s)
    (hs : subscripted slice false (.ref l) (.int (0 + (i : Int)) u) = operate [.ref l, .int (0 + (i : Int)) u] (getItem (.ref l) (.int (0 + (i : Int)) u)) := by with_unfolding_all rfl) (hg : ∀ r, letTemporaryGo value (.ref l) r = pure () := by intro _; with_unfolding_all rfl) :
    wpAny (model prog w) A (subscriptTail value slice (.ref l) (.int (0 + (i : Int)) u)) Q E s := by
  match i, hi with
  | 0, _ => exact b3_0 rfl F hl (h _) hs hg
  | 1, _ => exact b3_1 rfl F hl (h _) hs hg
  | 2, _ => exact b3_2 rfl F hl (h _) hs hg
end
theorem get3 {a b c : Int} {P : Int → Prop} (ha : P a) (hb : P b) (hc : P c) : ∀ {i : Nat}, i < 3 → P ([a, b, c].getD i 0)
  | 0, _ => ha
  | 1, _ => hb
  | 2, _ => hc
theorem ints_3 {ws : List Value} {a b c : Int} (h : IntsAre ws [a, b, c]) : ∃ t0 t1 t2, ws = [.int a t0, .int b t1, .int c t2] := by
  cases h with | cons _ t0 h => cases h with | cons _ t1 h => cases h with | cons _ t2 h => cases h with | nil => exact ⟨t0, t1, t2, rfl⟩
theorem of4 {r : Int} (h : 0 ≤ r ∧ r < 4) : r = 0 ∨ r = 1 ∨ r = 2 ∨ r = 3 := by omega
theorem nat_lin (b m : Nat) {a : Int} (h : 0 ≤ a) : ((b : Int) + (m : Int) * a).toNat = b + m * a.toNat := by
  obtain ⟨k, rfl⟩ := Int.eq_ofNat_of_zero_le h
  rw [← Int.natCast_mul, ← Int.natCast_add, Int.toNat_natCast, Int.toNat_natCast]
theorem nat_lt {a : Int} {n : Nat} (h : 0 ≤ a) (h1 : a < (n : Int)) : a.toNat < n := (Int.toNat_lt h).mpr h1

end
section
local macro_rules | `(tactic| walk_at $s:str) => `(tactic| k_extra $(Lean.Syntax.mkStrLit ("@" ++ s.getString)))
local macro_rules | `(tactic| k_ne) => `(tactic| walk_at "my k_ne")
local macro_rules | `(tactic| lcg_off) => `(tactic| walk_at "my lcg_off")
local macro_rules | `(tactic| lcg_sub) => `(tactic| walk_at "my lcg_sub")
local macro_rules | `(tactic| ktr_room) => `(tactic| walk_at "my ktr_room")
local macro_rules | `(tactic| ktr_units) => `(tactic| walk_at "my ktr_units")
theorem reg_pre : True := by
  (k_with "@my enter" => ((
  refine' enterS ?k1 ?k2 ?k3 ?k4 ?k5 ?k6 ?k7 ?k8 ?k9 ?kB ?_ ?c2 ?c3 ?c4 ?c5; (case k1 => k_asm); (case k2 => k_asm); (case k3 => assumption); (case k4 => assumption); (case k5 => assumption); (case k6 => k_is); (case k7 => k_is); (case k8 => ktr_room); (case k9 => exact BindsTo.of_eq rfl); (case c5 => decide); (case kB => exact locs rfl); (case c2 => exact rfl); (case c3 => exact rfl); (case c4 => exact rfl))))
  (k_with "@my enterC" => ((
  refine' enterC ?k1 ?k2 ?k3 ?k4 ?k5 ?k6 ?k7 ?k8 ?k9 ?kB ?kD ?_ ?c2 ?c3 ?c4; (case k1 => k_asm); (case k2 => k_asm); (case k3 => assumption); (case k4 => assumption); (case k5 => assumption); (case k6 => k_is); (case k7 => k_is); (case k8 => ktr_room); (case k9 => exact BindsTo.of_eq rfl); (case kB => exact rfl); (case kD => decide +kernel); (case c2 => exact rfl); (case c3 => exact rfl); (case c4 => exact rfl))))
  (k_with "@my prem" => ((
  (case k1 => k_asm); (case k2 => k_asm); (case k3 => k_asm); (case k4 => k_asm); (case k5 => k_asm); (case kK => first | exact rfl | assumption); (case kd => ktr_room); (case ku => ktr_units))))
  (k_with "@my tidy" => (((try subst hQz); (try subst hQz); (try subst hQz); repeat (first | (k_unfold; (try dsimp only)) | dsimp only))))
  (k_with "@exec For Name Call cons nil" => ((k_here; (rename Fr _ _ _ _ => lF'Q); (with_unfolding_all refine' For_my lF'Q ?_ (by intro _; rfl); k_whole))))
  (k_with "@exec For Name Call cons cons" => ((k_here; (rename Fr _ _ _ _ => lF'Q); (with_unfolding_all refine' For_my lF'Q ?_ (by intro _; rfl); k_whole))))
  (k_with "@exec For Name Name cons nil" => ((k_here; (rename Fr _ _ _ _ => lF'Q); (with_unfolding_all refine' For_my lF'Q ?_ (by intro _; rfl); k_whole))))
  (k_with "@pyIter ref" => (((with_reducible show wpAny _ _ (pyIter _) (fun _ _ => MyLoop _ _ _ _ _ _ _ _ _ _ _ _ _) _ _); walk_at "my stop")))
  (k_with "@my step" => (first | (k_unfold; (try dsimp only)) | (k_end; kc_close) | walk1 | (dsimp only; walk1) | (leave1; walk_say "STEP leave1"; (try dsimp only))))
  (k_with "@CompEnd" => ((dsimp only; lcg_end; (try dsimp only))))
  (k_with "@my off" => (first | exact o1a | exact o1b | (refine o1c ?_; walk_at "my off")))
  (k_with "@my offs" => (((with_reducible (rename LCg.Off1 _ _ => zzQ)); first | (revert zzQ; walk_at "my off"; done) | (clear zzQ; walk_at "my offs"))))
  (k_with "@my ltc" => (((rename @LT.lt Nat _ _ _ ∧ _ => zzQ); first | exact zzQ.1 | exact zzQ.2.1 | exact zzQ.2 | exact zzQ.2.2.1 | exact zzQ.2.2 | exact zzQ.2.2.2.1 | exact zzQ.2.2.2 | exact zzQ.2.2.2.2.1 | exact zzQ.2.2.2.2 | exact zzQ.2.2.2.2.2.1 | exact zzQ.2.2.2.2.2 | exact zzQ.2.2.2.2.2.2.1 | exact zzQ.2.2.2.2.2.2 | (clear zzQ; walk_at "my ltc"))))
  (k_with "@my lt" => (first | assumption | (walk_at "my ltc"; done) | (refine Nat.lt_trans ?_ (by assumption); first | assumption | (walk_at "my ltc"; done)) | exact Nat.lt_succ_self _))
  (k_with "@my ne" => (first | (refine Nat.ne_of_lt ?_; walk_at "my lt"; done) | (refine Nat.ne_of_gt ?_; walk_at "my lt"; done) | exact ns1 | exact ns1.symm | exact ns2 | exact ns2.symm | exact ns3 | exact ns3.symm | omega))
  (k_with "@my k_ne" => ((refine neN ?_; (try dsimp only); first | assumption | (walk_at "my offs"; done) | (walk_at "my ne"; done))))
  (k_with "@my lcg_off" => (first | assumption | exact True.intro | (refine And.intro ⟨by k_ne, by k_ne, by k_ne⟩ ?_; lcg_off)))
  (k_with "@CompRest" => ((with_unfolding_all first
  | (refine LCg.CompRest.succ ?_; intro v'Q I'Q oI'Q C'Q oC'Q D'Q m'Q h'Q tk'Q E'Q hv'Q hC'Q hx'Q F'Q N'Q off'Q ne'Q; (first | lcg_open hv'Q | (obtain ⟨t9'Q, hv9'Q⟩ := hv'Q; subst hv9'Q)); clear ne'Q)
  | refine LCg.CompRest.zero ?_)))
  (k_with "@FinE" => (((unfold LCg.FinE); intro D'Q h'Q tk'Q F'Q N'Q o1'Q; (try simp only [List.nil_append, List.cons_append] at N'Q); (try dsimp only))))
  (k_with "@FinA" => (((unfold LCg.FinA); intro D'Q h'Q tk'Q F'Q N'Q o1'Q; (try simp only [List.nil_append, List.cons_append] at N'Q); (try dsimp only))))
  (k_with "@CompRestT" => ((with_unfolding_all first
  | (refine LCt.CompRestT.succ ?_; intro v'Q I'Q oI'Q C'Q oC'Q D'Q m'Q h'Q tk'Q E'Q hv'Q hC'Q hx'Q F'Q N'Q off'Q ne'Q; (first | lcg_open hv'Q | (obtain ⟨t9'Q, hv9'Q⟩ := hv'Q; subst hv9'Q)); clear ne'Q)
  | refine LCt.CompRestT.zero ?_)))
  (k_with "@execs cons Assign cons" => (((try dsimp only); refine wpAny_execs_cons ?_)))
  (k_with "@execs cons AugAssign" => (((try dsimp only); refine wpAny_execs_cons ?_)))
  (k_with "@execs cons Expr" => (((try dsimp only); refine wpAny_execs_cons ?_)))
  (k_with "@execs cons For" => (((try dsimp only); refine wpAny_execs_cons ?_)))
  (k_with "@execs cons Return" => (((try dsimp only); refine wpAny_execs_cons ?_)))
  (k_with "@execs cons" => ((dsimp only; walk_at "execs cons")))
  (k_with "@subscriptTail Name Name ref int" => (k_dflt (first | refine b3_0 (by decide) (by k_asm) (by assumption) ?_ | refine b3_1 (by decide) (by k_asm) (by assumption) ?_ | refine b3_2 (by decide) (by k_asm) (by assumption) ?_)))
  (k_with "@subscriptTail Name Constant ref int" => (k_dflt (first | refine b3_0 (by decide) (by k_asm) (by assumption) ?_ | refine b3_1 (by decide) (by k_asm) (by assumption) ?_ | refine b3_2 (by decide) (by k_asm) (by assumption) ?_)))
  (k_with "@call builtin:list.append" => (k_dflt ((try dsimp only); (refine' append_K ?k1x0 ?k2x0 ?k3x0 ?_ ?zx0; (case k1x0 => k_asm); (case k2x0 => k_asm); (case k3x0 => k_upd); (case zx0 => size_fits)); intro h'Q F'Q N'Q; (try k_sweep))))
  (k_with "@call builtin:list.append" => (k_dflt ((try dsimp only); (refine' append_K ?k1x1 ?k2x1 ?k3x1 ?_ ?zx1; (case k1x1 => k_asm); (case k2x1 => k_asm); (case k3x1 => k_upd); (case zx1 => size_fits)); intro h'Q F'Q N'Q; (try k_sweep))))
  (k_with "@call builtin:list.append" => (k_dflt ((try dsimp only); (refine' append_K ?k1x2 ?k2x2 ?k3x2 ?_ ?zx2; (case k1x2 => k_asm); (case k2x2 => k_asm); (case k3x2 => k_upd); (case zx2 => size_fits)); intro h'Q F'Q N'Q; (try k_sweep))))
  (k_with "@eval BinOp" => ((dsimp only; walk_at "eval BinOp")))
  (k_with "@eval Subscript" => ((dsimp only; walk_at "eval Subscript")))
  (k_with "@eval Compare" => ((dsimp only; walk_at "eval Compare")))
  (k_with "@isTrue Compare" => ((dsimp only; walk_at "isTrue Compare")))
  (k_with "@eval Call" => ((dsimp only; walk_at "eval Call")))
  (k_with "@call builtin:str.lower" => (k_dflt (refine SCL.lower (by exact Nat.le_of_ble_eq_true rfl) ?_; intro _)))
  (k_with "@my slice ends" => (((with_reducible first | refine' kmk_upto ?gix0 ?gxx0 | refine' kmk_from ?gix0 ?gxx0 | refine' kmk_run ?gix0 ?gxx0 ?gyx0); (case gix0 => l_ints); (all_goals kmk_sign))))
  (k_with "@my slice ends" => (((with_reducible first | refine' kmk_upto ?gix1 ?gxx1 | refine' kmk_from ?gix1 ?gxx1 | refine' kmk_run ?gix1 ?gxx1 ?gyx1); (case gix1 => l_ints); (all_goals kmk_sign))))
  (k_with "@my slice ends" => (((with_reducible first | refine' kmk_upto ?gix2 ?gxx2 | refine' kmk_from ?gix2 ?gxx2 | refine' kmk_run ?gix2 ?gxx2 ?gyx2); (case gix2 => l_ints); (all_goals kmk_sign))))
  (k_with "@my slice ends" => (((with_reducible first | refine' kmk_upto ?gix3 ?gxx3 | refine' kmk_from ?gix3 ?gxx3 | refine' kmk_run ?gix3 ?gxx3 ?gyx3); (case gix3 => l_ints); (all_goals kmk_sign))))
  (k_with "@my slice ends" => (((with_reducible first | refine' kmk_upto ?gix4 ?gxx4 | refine' kmk_from ?gix4 ?gxx4 | refine' kmk_run ?gix4 ?gxx4 ?gyx4); (case gix4 => l_ints); (all_goals kmk_sign))))
  (k_with "@subscriptTail Name Slice ref ref" => ((k_here; (with_reducible show wpAny _ _ (subscriptTail _ (PySem.Expr.Slice _ _ none _) (Value.ref _) (Value.ref _)) _ _ _); k_dflt (refine' kmk_slice_ints ?Fx0 ?Nx0 ?lx0 ?px0 ?qx0 ?ix0 ?mx0 ?cx0 ?_ ?sx0 ?tx0 ?zx0; (case Fx0 => k_asm); (case Nx0 => k_asm); (case lx0 => kmk_list); (case px0 => kmk_part); (case qx0 => kmk_part); (case ix0 => l_ints); (case mx0 => walk_at "my slice ends"); (case cx0 => kmk_len); (case sx0 => with_unfolding_all rfl); (case tx0 => kmk_pure); (case zx0 => kmk_size)); intro D'Q ws'Q h'Q F'Q N'Q l1Q hI'Q hC'Q hL'Q; (try simp only [Int.reduceNeg, Int.neg_neg, Int.reduceToNat] at hI'Q hC'Q hL'Q); (try k_lt l1Q); (try k_sweep))))
  (k_with "@subscriptTail Name Slice ref ref" => ((k_here; (with_reducible show wpAny _ _ (subscriptTail _ (PySem.Expr.Slice _ _ none _) (Value.ref _) (Value.ref _)) _ _ _); k_dflt (refine' kmk_slice_ints ?Fx1 ?Nx1 ?lx1 ?px1 ?qx1 ?ix1 ?mx1 ?cx1 ?_ ?sx1 ?tx1 ?zx1; (case Fx1 => k_asm); (case Nx1 => k_asm); (case lx1 => kmk_list); (case px1 => kmk_part); (case qx1 => kmk_part); (case ix1 => l_ints); (case mx1 => walk_at "my slice ends"); (case cx1 => kmk_len); (case sx1 => with_unfolding_all rfl); (case tx1 => kmk_pure); (case zx1 => kmk_size)); intro D'Q ws'Q h'Q F'Q N'Q l1Q hI'Q hC'Q hL'Q; (try simp only [Int.reduceNeg, Int.neg_neg, Int.reduceToNat] at hI'Q hC'Q hL'Q); (try k_lt l1Q); (try k_sweep))))
  (k_with "@subscriptTail Name Slice ref ref" => ((k_here; (with_reducible show wpAny _ _ (subscriptTail _ (PySem.Expr.Slice _ _ none _) (Value.ref _) (Value.ref _)) _ _ _); k_dflt (refine' kmk_slice_ints ?Fx2 ?Nx2 ?lx2 ?px2 ?qx2 ?ix2 ?mx2 ?cx2 ?_ ?sx2 ?tx2 ?zx2; (case Fx2 => k_asm); (case Nx2 => k_asm); (case lx2 => kmk_list); (case px2 => kmk_part); (case qx2 => kmk_part); (case ix2 => l_ints); (case mx2 => walk_at "my slice ends"); (case cx2 => kmk_len); (case sx2 => with_unfolding_all rfl); (case tx2 => kmk_pure); (case zx2 => kmk_size)); intro D'Q ws'Q h'Q F'Q N'Q l1Q hI'Q hC'Q hL'Q; (try simp only [Int.reduceNeg, Int.neg_neg, Int.reduceToNat] at hI'Q hC'Q hL'Q); (try k_lt l1Q); (try k_sweep))))
  (k_with "@subscriptTail Name Slice ref ref" => ((k_here; (with_reducible show wpAny _ _ (subscriptTail _ (PySem.Expr.Slice _ _ none _) (Value.ref _) (Value.ref _)) _ _ _); k_dflt (refine' kmk_slice_ints ?Fx3 ?Nx3 ?lx3 ?px3 ?qx3 ?ix3 ?mx3 ?cx3 ?_ ?sx3 ?tx3 ?zx3; (case Fx3 => k_asm); (case Nx3 => k_asm); (case lx3 => kmk_list); (case px3 => kmk_part); (case qx3 => kmk_part); (case ix3 => l_ints); (case mx3 => walk_at "my slice ends"); (case cx3 => kmk_len); (case sx3 => with_unfolding_all rfl); (case tx3 => kmk_pure); (case zx3 => kmk_size)); intro D'Q ws'Q h'Q F'Q N'Q l1Q hI'Q hC'Q hL'Q; (try simp only [Int.reduceNeg, Int.neg_neg, Int.reduceToNat] at hI'Q hC'Q hL'Q); (try k_lt l1Q); (try k_sweep))))
  (k_with "@subscriptTail Name Slice ref ref" => ((k_here; (with_reducible show wpAny _ _ (subscriptTail _ (PySem.Expr.Slice _ _ none _) (Value.ref _) (Value.ref _)) _ _ _); k_dflt (refine' kmk_slice_ints ?Fx4 ?Nx4 ?lx4 ?px4 ?qx4 ?ix4 ?mx4 ?cx4 ?_ ?sx4 ?tx4 ?zx4; (case Fx4 => k_asm); (case Nx4 => k_asm); (case lx4 => kmk_list); (case px4 => kmk_part); (case qx4 => kmk_part); (case ix4 => l_ints); (case mx4 => walk_at "my slice ends"); (case cx4 => kmk_len); (case sx4 => with_unfolding_all rfl); (case tx4 => kmk_pure); (case zx4 => kmk_size)); intro D'Q ws'Q h'Q F'Q N'Q l1Q hI'Q hC'Q hL'Q; (try simp only [Int.reduceNeg, Int.neg_neg, Int.reduceToNat] at hI'Q hC'Q hL'Q); (try k_lt l1Q); (try k_sweep))))
  (k_with "@my lcg_sub" => (exact fun _ hpz => hpz))
  (k_with "@my ktr_room" => (first | exact rm0 (by assumption) | exact rm1 (by assumption) (by decide) | exact rm2 (by assumption) (by decide) | exact rm2 (by assumption) (by omega)))
  (k_with "@my ktr_units" => (first | exact rm0 (by assumption) | exact rm1 (by assumption) (by decide) | exact rm2 (by assumption) (by decide) | exact rm2 (by assumption) (by omega)))
  exact True.intro
section --C1

noncomputable def fst1 (n : Int) : Int := if (Int.fmod n 4).fmod 2 ≠ 1 ∧ (Int.fmod (Int.fdiv n 4) 4).fmod 2 ≠ 1 ∧ (Int.fmod (Int.fdiv n 16) 4).fmod 2 ≠ 1 then Int.fmod n 4 + 1 else Int.fmod n 4
theorem row_spec (w : World) (n : Int) (t : Tok) (h0 : 0 ≤ n) (h1 : n < 1000000) :
    Spec w 138 [.int n t] 4 40 [] (fun _ => True) (RowG (Int.fmod n 4) (Int.fmod (Int.fdiv n 4) 4) (Int.fmod (Int.fdiv n 16) 4)) := by
  w_top off; unfold Spec; intro p loose mean mg mb dp un gd outer base h₀ s R B X T hkp hsz hled hdp hun hask hret; revert X; k_fill; intro X; k_dflt (walk_at "my enter"); intro L' h₁ tk' F' N' hltL; (try dsimp only); (try k_fold)
  k_steps
  walk_at "my tidy"
  exact hret _ _ _ (Fr.keep (by k_asm)) (row_g (by k_asm) (by k_mem) rfl rfl rfl)
theorem reg_C1_1 : True := by
  (k_with "@call ref" => ((fail_if_success (k_extra "C1 off")); ((k_here; (with_reducible show wpAny _ _ (call (Value.ref 138) _) _ _ _); k_dflt (refine' Spec.use (row_spec _ _ _ ?r1 ?r2) ?k1 ?k2 ?k3 ?k4 ?k5 ?kK ?kd ?ku trivial ?_); walk_at "my prem"; (case r1 => omega); (case r2 => omega); intro r9Q h9Q tk9Q F9Q N9Q g9Q; obtain ⟨l9Q, ta9Q, tb9Q, tc9Q, k9Q, e9Q, g8Q, g7Q⟩ := g9Q; subst e9Q; (have N8Q := news_add (by k_asm) (by k_asm) N9Q g8Q g7Q); clear N9Q; obtain ⟨N9Q, o9Q⟩ := N8Q; (try simp only [LCg.Off1, and_true] at o9Q); clear g8Q g7Q; (try dsimp only); (try k_fold)))))
  exact True.intro
noncomputable def gO (l : List Int) (k : Int) : List Int := if k.fmod 2 = 1 then l ++ [k] else l
theorem gO_in {l : List Int} {k : Int} (h : k.fmod 2 = 1) : gO l k = l ++ [k] := if_pos h
theorem gO_out {l : List Int} {k : Int} (h : k.fmod 2 ≠ 1) : gO l k = l := if_neg h
theorem gO_len (l : List Int) (k : Int) : (gO l k).length ≤ l.length + 1 := by unfold gO; split <;> simp
theorem gO_nil {a b c : Int} : ([a, b, c].foldl gO [] = []) ↔ ¬ (a.fmod 2 = 1 ∨ b.fmod 2 = 1 ∨ c.fmod 2 = 1) := by
  simp only [List.foldl_cons, List.foldl_nil, gO]
  by_cases ha : a.fmod 2 = 1 <;> by_cases hb : b.fmod 2 = 1 <;> by_cases hc : c.fmod 2 = 1 <;> simp [ha, hb, hc]
theorem first_spec (w : World) (n : Int) (t : Tok) (h0 : 0 ≤ n) (h1 : n < 1000000) :
    Spec w 143 [.int n t] 8 80 [] (fun _ => True) (RowG (fst1 n) (Int.fmod (Int.fdiv n 4) 4) (Int.fmod (Int.fdiv n 16) 4)) := by
  w_top off; unfold Spec; intro p loose mean mg mb dp un gd outer base h₀ s R B X T hkp hsz hled hdp hun hask hret; revert X; k_fill; intro X; k_dflt (walk_at "my enter"); intro L' h₁ tk' F' N' hltL; (try dsimp only); (try k_fold)
  (k_with "@CompEnd" => (fail_if_success (k_extra "C1 off"));  (first
    | (refine LCg.CompEnd.intro (by assumption) (by assumption) _ (by lcg_sub) off (by lcg_src) (kci_el (gO_in (by assumption)) rfl rfl))
    | (refine LCg.CompEnd.intro (by assumption) (by assumption) _ (by lcg_sub) off (by lcg_src) (kci_no (gO_out (by assumption)) rfl))))
  repeat ((fail_if_success (with_reducible show LCt.CompRestT _ _ _ _ _ _ _ _ _ _ _ _ _ _ _ _ _ _ _ _)); walk_at "my step")
  refine kci_rest (ks := [Int.fmod n 4, Int.fmod (Int.fdiv n 4) 4, Int.fmod (Int.fdiv n 16) 4]) gO rfl (fun i v hi hv => ?_) (fun k t I oI C oC D m₂ ys l h tk E' hmem hI hC hx F N off ne mk => ?_) (show ∀ ys, _ → _ → _ from fun ys hy hl => ?_) gO_len
  · match i, hi with
    | 0, _ => exact ⟨_, _, rfl, (Option.some.inj hv).symm⟩
    | 1, _ => exact ⟨_, _, rfl, (Option.some.inj hv).symm⟩
    | 2, _ => exact ⟨_, _, rfl, (Option.some.inj hv).symm⟩
  · k_steps
  · k_steps
    all_goals walk_at "my tidy"
    all_goals refine hret _ _ _ (Fr.keep (by k_asm)) (row_g (by k_asm) (by k_mem) ?_ rfl rfl)
    · have q := gO_nil.mp (of_decide_eq_true (by assumption))
      unfold fst1
      rw [if_pos ⟨fun h => q (.inl h), fun h => q (.inr (.inl h)), fun h => q (.inr (.inr h))⟩]
      rfl
    · have q := fun h => of_decide_eq_false (by assumption : decide (_ = ([] : List Int)) = false) (gO_nil.mpr h)
      unfold fst1
      rw [if_neg fun c => q fun h => h.elim c.1 fun h => h.elim c.2.1 c.2.2]
theorem off_C1 : True := by
  (k_with "C1 off" => skip)
  exact True.intro

end
section --LwB

noncomputable def fnOf (o : Option Obj) : Option (List Stmt × Scope) := match o with
  | some ⟨_, _, .func fd, _⟩ => match fd.body with
    | .stmts l => some (l, fd.scope)
    | _ => none
  | _ => none
noncomputable def in179 (P : Params) : {x // fnOf ((hd.heap_1 P).lookup 179) = some x} := ⟨_, rfl⟩
noncomputable def SegQ (h₀ : Heap) (L : Addr) (s : Shared) (Post : Addr → Heap → List (Addr × Obj) → List (Str × Value) → Prop) (f : Flow) (s' : Shared) : Prop :=
  match f with
  | .next => MidP h₀ L s (Post L h₀) s'
  | .ret v => v = .bool true ∧ GrownAll [(87, 83), (80, 76)] s'.heap ∧ ∃ h tk m, s' = { s with heap := h, toks := tk } ∧ Fr h₀ L h m
  | _ => False
noncomputable def Seg (w : World) (i n : Nat) (Pre Post : Addr → Heap → List (Addr × Obj) → List (Str × Value) → Prop) : Prop :=
  ∀ (p : Program) (loose : List Str) (mean : ExcName → Option Value) (mg mb : Str → Option Value) (dp un : Nat) (gd : Option (List Code)) (outer : List Env) (A₀ : Around) (base h₀ : Heap) (L fa : Addr) (ccd : Value) (s : Shared) (h : Heap) (tk : Nat) (led : List (Addr × Obj)) (pl : List (Str × Value)) (u : Str → Option Value),
    Below A₀ base outer h₀ → (hd.heap_1 w.params).In h₀ → Top p loose mean mg mb h₀ → dp + 100 < recursionLimit → un + 1000 < cLine → @LT.lt Nat instLTNat 83 L → Fr h₀ L h (kstB u pl) → News h₀ L h led → Pre L h₀ led pl →
    wpAny (model PySem.Challenge.rw_us0023_01.row.prog w) ((arnd dp un gd outer).deeper (envOfC (Str.ofString "law") (in179 w.params).1.2 L fa ccd)) (execs (((in179 w.params).1.1.drop i).take n) (envOfC (Str.ofString "law") (in179 w.params).1.2 L fa ccd))
      (SegQ h₀ L s Post) (fun _ _ => False) { s with heap := h, toks := tk }
theorem Seg.comp {w : World} {i n m : Nat} {Pre Mid Post : Addr → Heap → List (Addr × Obj) → List (Str × Value) → Prop} (S₁ : Seg w i n Pre Mid) (S₂ : Seg w (i + n) m Mid Post) : Seg w i (n + m) Pre Post := by
  intro p loose mean mg mb dp un gd outer A₀ base h₀ L fa ccd s h tk led pl u B X T hdp hun h83 F N hp
  refine execs_cut n (MidP h₀ L s (Mid L h₀)) ?_ fun s' hs' => ?_
  · rw [List.take_take, Nat.min_eq_left (Nat.le_add_right n m)]
    refine wpAny_mono (S₁ p loose mean mg mb dp un gd outer A₀ base h₀ L fa ccd s h tk led pl u B X T hdp hun h83 F N hp) (fun f s' q => ?_) fun _ _ e => e
    cases f with
    | next => exact q
    | ret v => exact q
    | brk => exact q.elim
    | cont => exact q.elim
  · refine mid_get hs' fun h' tk' led' pl' u' e F' N' hq => ?_
    subst e
    rw [List.drop_take, List.drop_drop, Nat.add_sub_cancel_left]
    exact S₂ p loose mean mg mb dp un gd outer A₀ base h₀ L fa ccd s h' tk' led' pl' u' B X T hdp hun h83 F' N' hq
theorem Seg.whole {w : World} {n : Nat} {Pre Post : Addr → Heap → List (Addr × Obj) → List (Str × Value) → Prop} (S : Seg w 0 n Pre Post) (hn : (in179 w.params).1.1.length = n) (hpost : ∀ L h₀ led pl, ¬ Post L h₀ led pl)
    {p : Program} {loose : List Str} {mean : ExcName → Option Value} {mg mb : Str → Option Value} {dp un : Nat} {gd : Option (List Code)} {outer : List Env} {A₀ : Around} {base h₀ : Heap} {L fa : Addr} {ccd : Value} {s : Shared} {led : List (Addr × Obj)} {pl : List (Str × Value)} {m : Str → Option Value}
    (B : Below A₀ base outer h₀) (X : (hd.heap_1 w.params).In h₀) (T : Top p loose mean mg mb h₀) (hdp : dp + 100 < recursionLimit) (hun : un + 1000 < cLine) (h83 : @LT.lt Nat instLTNat 83 L) (F : Fr h₀ L s.heap m) (N : News h₀ L s.heap led) (hm : AllAt m pl) (hp : Pre L h₀ led pl) :
    wpAny (model PySem.Challenge.rw_us0023_01.row.prog w) ((arnd dp un gd outer).deeper (envOfC (Str.ofString "law") (in179 w.params).1.2 L fa ccd)) (execs (in179 w.params).1.1 (envOfC (Str.ofString "law") (in179 w.params).1.2 L fa ccd))
      (fun f s' => f = .ret (.bool true) ∧ GrownAll [(87, 83), (80, 76)] s'.heap ∧ ∃ h tk m, s' = { s with heap := h, toks := tk } ∧ Fr h₀ L h m) (fun _ _ => False) s := by
  have := S p loose mean mg mb dp un gd outer A₀ base h₀ L fa ccd s s.heap s.toks led pl m B X T hdp hun h83 (by rw [allB hm]; exact F) N hp
  rw [List.drop_zero, List.take_of_length_le (Nat.le_of_eq hn)] at this
  refine wpAny_mono this (fun f s' q => ?_) fun _ _ e => e
  cases f with
  | next => obtain ⟨_, _, _, _, _, _, _, _, _, _, hq, _⟩ := q; exact absurd hq (hpost _ _ _ _)
  | ret v => exact ⟨by rw [q.1], q.2⟩
  | brk => exact q.elim
  | cont => exact q.elim

end
section --LwC

section
variable {prog : Program} {w : World} {A : Around} {E : Value → Shared → Prop} {s : Shared} {h₀ : Heap} {L : Addr} {m : Str → Option Value} {news : List (Addr × Obj)} {value slice : Expr} {l : Addr} {a b c : Value} {n : Nat} {k : Int} {u : Tok} {Q : Value → Shared → Prop}
theorem n3_0 (hk : k = 0) (N : News h₀ L s.heap news) (hm : (l, W.listOf #[a, b, c] n) ∈ news) (h : Q a s)
    (hs : subscripted slice false (.ref l) (.int k u) = operate [.ref l, .int k u] (getItem (.ref l) (.int k u)) := by with_unfolding_all rfl) (hg : ∀ r, letTemporaryGo value (.ref l) r = pure () := by intro _; with_unfolding_all rfl) :
    wpAny (model prog w) A (subscriptTail value slice (.ref l) (.int k u)) Q E s := by
  subst hk; exact news_item N hm (by decide) a30 (by decide) h hs hg
theorem n3_1 (hk : k = 1) (N : News h₀ L s.heap news) (hm : (l, W.listOf #[a, b, c] n) ∈ news) (h : Q b s)
    (hs : subscripted slice false (.ref l) (.int k u) = operate [.ref l, .int k u] (getItem (.ref l) (.int k u)) := by with_unfolding_all rfl) (hg : ∀ r, letTemporaryGo value (.ref l) r = pure () := by intro _; with_unfolding_all rfl) :
    wpAny (model prog w) A (subscriptTail value slice (.ref l) (.int k u)) Q E s := by
  subst hk; exact news_item N hm (by decide) a31 (by decide) h hs hg
theorem n3_2 (hk : k = 2) (N : News h₀ L s.heap news) (hm : (l, W.listOf #[a, b, c] n) ∈ news) (h : Q c s)
    (hs : subscripted slice false (.ref l) (.int k u) = operate [.ref l, .int k u] (getItem (.ref l) (.int k u)) := by with_unfolding_all rfl) (hg : ∀ r, letTemporaryGo value (.ref l) r = pure () := by intro _; with_unfolding_all rfl) :
    wpAny (model prog w) A (subscriptTail value slice (.ref l) (.int k u)) Q E s := by
  subst hk; exact news_item N hm (by decide) a32 (by decide) h hs hg
end
theorem mid_next2 {h₀ : Heap} {L : Addr} {s : Shared} {J : List (Addr × Obj) → List (Str × Value) → Prop} {h : Heap} {tk : Nat} {m : Str → Option Value} {all led : List (Addr × Obj)} {pl : List (Str × Value)} (F : Fr h₀ L h m) (N : News h₀ L h all) (hp : AllAt m pl) (sub : SubL led all) (hJ : J led pl) : MidP h₀ L s J { s with heap := h, toks := tk } :=
  mid_next F N sub hp hJ
noncomputable def Apart : List (Addr × Obj) → Prop
  | [] => True
  | p :: r => LCg.Off1 p.1 r ∧ Apart r
structure Pm where
  f0 : Int
  f1 : Int
  f2 : Int
  g0 : Int
  g1 : Int
  g2 : Int
  p0 : Int
  p1 : Int
  p2 : Int
  wd : Int
  al : Int
structure Pm.Ok (m : Pm) : Prop where
  f0 : 0 ≤ m.f0 ∧ m.f0 < 4
  f1 : 0 ≤ m.f1 ∧ m.f1 < 4
  f2 : 0 ≤ m.f2 ∧ m.f2 < 4
  g0 : 0 ≤ m.g0 ∧ m.g0 < 4
  g1 : 0 ≤ m.g1 ∧ m.g1 < 4
  g2 : 0 ≤ m.g2 ∧ m.g2 < 4
  p0 : 0 ≤ m.p0 ∧ m.p0 < 4
  p1 : 0 ≤ m.p1 ∧ m.p1 < 4
  p2 : 0 ≤ m.p2 ∧ m.p2 < 4
  odd : m.f0 % 2 = 1 ∨ m.f1 % 2 = 1 ∨ m.f2 % 2 = 1
  wd : 7 ≤ m.wd ∧ m.wd ≤ 12
  al : 0 ≤ m.al ∧ m.al < 2605
theorem Seg.each {w : World} {i n : Nat} {α : Type} {P : α → Prop} {Pre : α → Addr → Heap → List (Addr × Obj) → List (Str × Value) → Prop} {Post : Addr → Heap → List (Addr × Obj) → List (Str × Value) → Prop} (S : ∀ a, P a → Seg w i n (Pre a) Post) : Seg w i n (fun L h₀ led pl => ∃ a, P a ∧ Pre a L h₀ led pl) Post := by
  intro p loose mean mg mb dp un gd outer A₀ base h₀ L fa ccd s h tk led pl u B X T hdp hun h83 F N ⟨a, ha, hp⟩
  exact S a ha p loose mean mg mb dp un gd outer A₀ base h₀ L fa ccd s h tk led pl u B X T hdp hun h83 F N hp

end
section --Rs

theorem rv1_bounds (n : Nat) : sliceBounds none (some 0) (some (-1)) n = ((n : Int) - 1, (if n = 0 then -1 else 0), -1) := by
  simp only [sliceBounds, Option.getD_some]
  by_cases h : n = 0
  · subst h; rfl
  · rw [if_neg h]
    congr 1
    congr 1
    show (if (-1 : Int) > 0 then _ else max (-1) (min (if (0 : Int) < 0 then _ else 0) ((n : Int) - 1))) = 0
    rw [if_neg (by decide), if_neg (by decide)]
    (first | lia | omega)
theorem rv1_range (m : Nat) : (List.range m).map (fun k => m - k) = ((List.range m).map (1 + ·)).reverse := by
  apply List.ext_getElem
  · simp
  · intro i h1 h2
    simp at h1
    rw [List.getElem_map, List.getElem_reverse]
    simp
    (first | lia | omega)
theorem rv1_pick (items : Array Value) : slicePick items none (some 0) (some (-1)) = (items.toList.drop 1).reverse.toArray := by
  unfold slicePick
  rw [rv1_bounds]
  by_cases h : items.size = 0
  · have e : items = #[] := Array.eq_empty_of_size_eq_zero h
    subst e
    rfl
  · rw [if_neg h]
    show ((sliceRange ((items.size : Int) - 1) 0 (-1)).filterMap (items[·]?)).toArray = _
    have hr : sliceRange ((items.size : Int) - 1) 0 (-1) = (List.range (items.size - 1)).map (fun k => items.size - 1 - k) := by
      unfold sliceRange
      have h1 : ¬ ((-1 : Int) > 0) := by decide
      by_cases h2 : (items.size : Int) - 1 > 0
      · have e : ((items.size : Int) - 1 - 0 - -1 - 1) / (- -1) = ((items.size - 1 : Nat) : Int) := by
          rw [show (- -1 : Int) = 1 by decide, Int.ediv_one]
          (first | lia | omega)
        simp only [h1, if_false, h2, if_true, e, Int.toNat_natCast]
        apply List.map_congr_left
        intro k hk
        have := List.mem_range.mp hk
        (first | lia | omega)
      · have e : items.size - 1 = 0 := by (first | lia | omega)
        simp only [h1, if_false, h2, e]
        rfl
    rw [hr, rv1_range, List.filterMap_reverse, pick_run items 1 (items.size - 1)]
    rw [List.take_of_length_le (by simp)]
section
variable {prog : Program} {w : World} {A : Around} {E : Value → Shared → Prop} {s : Shared} {h₀ : Heap} {L l : Addr} {m : Str → Option Value} {news : List (Addr × Obj)} {value slice : PySem.Expr} {vs : List Value} {ns : List Int} {vk vu : Value} {ops : List Value} {Q : Value → Shared → Prop}
theorem rv1_ints (F : Fr h₀ L s.heap m) (N : News h₀ L s.heap news) (hl : s.heap.IsList l vs.toArray) (pu : IsPart vu (some 0)) (pk : IsPart vk (some (-1))) (hi : IntsAre vs ns)
    (h : ∀ D ws h', Fr h₀ L h' m → News h₀ L h' ((D, W.listOf (List.toArray ws) 0) :: news) → (∀ p ∈ news, p.1 < D) → IntsAre ws (ns.drop 1).reverse → Q (.ref D) { s with heap := h' })
    (hs : subscripted slice false (.ref l) (.ref s.heap.objs.size) = operate ops (getItem (.ref l) (.ref s.heap.objs.size))) (ht : ∀ r, letTemporaryGo value (.ref l) r = pure ()) (hz : vs.toArray.size ≤ sizeLine) :
    wpAny (model prog w) A (subscriptTail value slice (.ref l) (.ref s.heap.objs.size)) Q E { s with heap := s.heap.push { cls := .type "slice", data := .fields #[.none, vu, vk] } } := by
  refine slice_list3 F N hl .none pu pk (by decide) (fun h' F' N' => h _ (vs.drop 1).reverse h' F' ?_ (fun p hp => Nat.lt_succ_of_lt (Heap.lt_size (N p hp).1)) (hi.drop 1).reverse) hs ht hz
  rw [rv1_pick] at N'
  exact N'
end

end
section --Dg1

theorem tn_from {a b : Int} (h0 : 0 ≤ a) (h : a ≤ b) : a.toNat + (b - a).toNat = b.toNat := by
  rw [← Int.toNat_add h0 (Int.sub_nonneg_of_le h), Int.add_comm, Int.sub_add_cancel]
theorem tn_add {a b c : Int} (h : a ≤ b) (h' : b ≤ c) : (c - a).toNat = (b - a).toNat + (c - b).toNat := by
  rw [← Int.toNat_add (Int.sub_nonneg_of_le h) (Int.sub_nonneg_of_le h')]; congr 1; omega
theorem tn_one {x y : Int} (h : x + 1 = y) : (y - x).toNat = 1 := by subst h; rw [Int.add_comm, Int.add_sub_cancel]; rfl
theorem tn_suc {x y : Int} (hx : 0 ≤ x) (h : x + 1 = y) : y.toNat = x.toNat + 1 := by subst h; rw [Int.toNat_add hx (by decide)]; rfl
noncomputable def d2 (n : Nat) : List Int → Int
  | [] => 0
  | x :: r => x + 2 ^ n * d2 n r
noncomputable def seg (n : Nat) (ns : List Int) (x y : Int) : Int := d2 n ((ns.drop x.toNat).take (y - x).toNat)
structure In88 (P : Params) (h : Heap) (f c1 c2 c3 a : Addr) (cl : List (Str × Addr)) (vs : List Value) (k n : Nat) : Prop where
  fn : ∃ qual doc pm c' ctv, h.get? f = some (fnMade (in88 P).1.1 qual (in88 P).1.2.1 (in88 P).1.2.2.1 (in88 P).1.2.2.2.1 cl doc pm c' ctv) ∧ h.CodeRec (.ref c') qual
  dg : ∃ o, h.get? c1 = some o ∧ o.data = .cell (some (.ref a))
  nn : ∃ o t, h.get? c2 = some o ∧ o.data = .cell (some (.int (n : Int) t))
  me : ∃ o, h.get? c3 = some o ∧ o.data = .cell (some (.ref f))
  li : h.get? a = some (W.listOf vs.toArray k)
theorem In88.keeps {P : Params} {h h' : Heap} {f c1 c2 c3 a : Addr} {cl : List (Str × Addr)} {vs : List Value} {k n : Nat} (x : In88 P h f c1 c2 c3 a cl vs k n) (hk : ∀ b o, h.get? b = some o → h'.get? b = some o) : In88 P h' f c1 c2 c3 a cl vs k n := by
  obtain ⟨⟨q, d, pm, c', ct, e1, e2⟩, ⟨o1, e3, e4⟩, ⟨o2, t, e5, e6⟩, ⟨o3, e7, e8⟩, e9⟩ := x
  exact ⟨⟨q, d, pm, c', ct, hk _ _ e1, e2.keeps hk⟩, ⟨o1, hk _ _ e3, e4⟩, ⟨o2, t, hk _ _ e5, e6⟩, ⟨o3, hk _ _ e7, e8⟩, hk _ _ e9⟩
theorem d2_append (n : Nat) : ∀ (a b : List Int), d2 n (a ++ b) = d2 n b * 2 ^ (n * a.length) + d2 n a
  | [], b => by simp [d2]
  | x :: r, b => by
    show x + 2 ^ n * d2 n (r ++ b) = _ + (x + 2 ^ n * d2 n r)
    rw [d2_append n r b, List.length_cons, Nat.mul_add, Nat.mul_one, Int.pow_add, Int.mul_add, Int.mul_comm (2 ^ (n * r.length)) (2 ^ n), ← Int.mul_assoc (d2 n b), Int.mul_comm (d2 n b) (2 ^ n), Int.mul_assoc]
    omega
theorem d2_bnd (n : Nat) : ∀ (a : List Int), (∀ x ∈ a, 0 ≤ x ∧ x < 2 ^ n) → 0 ≤ d2 n a ∧ d2 n a < 2 ^ (n * a.length)
  | [], _ => by simp [d2]
  | x :: r, h => by
    obtain ⟨h1, h2⟩ := d2_bnd n r fun y hy => h y (.tail _ hy)
    obtain ⟨h3, h4⟩ := h x (.head _)
    have p : (0 : Int) < 2 ^ n := Int.pow_pos (by decide)
    have q1 : 0 ≤ 2 ^ n * d2 n r := Int.mul_nonneg (Int.le_of_lt p) h1
    have q2 : 2 ^ n * (d2 n r + 1) ≤ 2 ^ n * 2 ^ (n * r.length) := Int.mul_le_mul_of_nonneg_left h2 (Int.le_of_lt p)
    rw [Int.mul_add, Int.mul_one] at q2
    show 0 ≤ x + 2 ^ n * d2 n r ∧ x + 2 ^ n * d2 n r < _
    rw [List.length_cons, Nat.mul_add, Nat.mul_one, Int.pow_add, Int.mul_comm (2 ^ (n * r.length))]
    omega
theorem seg_bnd {n : Nat} {ns : List Int} {x y : Int} (hb : ∀ x ∈ ns, 0 ≤ x ∧ x < 2 ^ n) (hn : n * ns.length ≤ 200) : 0 ≤ seg n ns x y ∧ seg n ns x y < 2 ^ 200 := by
  obtain ⟨h1, h2⟩ := d2_bnd n ((ns.drop x.toNat).take (y - x).toNat) fun z hz => hb z (List.mem_of_mem_drop (List.mem_of_mem_take hz))
  refine ⟨h1, Int.lt_of_lt_of_le h2 ?_⟩
  have : ((ns.drop x.toNat).take (y - x).toNat).length ≤ ns.length := by rw [List.length_take, List.length_drop]; omega
  have h3 : n * ((ns.drop x.toNat).take (y - x).toNat).length ≤ 200 := Nat.le_trans (Nat.mul_le_mul_left n this) hn
  have := Nat.pow_le_pow_right (show 0 < 2 by decide) h3
  exact_mod_cast this
theorem seg_one {n : Nat} {ns : List Int} {x y : Int} (hx : 0 ≤ x) (h : x + 1 = y) (hy : y ≤ ns.length) : seg n ns x y = ns.getD x.toNat 0 := by
  unfold seg
  have e : (y - x).toNat = 1 := tn_one h
  have hl : x.toNat < ns.length := by omega
  rw [e, List.drop_eq_getElem_cons hl]
  show ns[x.toNat] + 2 ^ n * d2 n (List.take 0 _) = _
  simp [d2, hl]
theorem seg_split {n : Nat} {ns : List Int} {x m y sh : Int} (hx : 0 ≤ x) (h1 : x ≤ m) (h2 : m ≤ y) (hy : y ≤ ns.length) (hs : sh = (m - x) * n) : seg n ns x y = seg n ns m y * 2 ^ sh.toNat + seg n ns x m := by
  unfold seg
  have e : (ns.drop x.toNat).take (y - x).toNat = (ns.drop x.toNat).take (m - x).toNat ++ (ns.drop m.toNat).take (y - m).toNat := by
    rw [tn_add h1 h2, List.take_add, List.drop_drop, tn_from hx h1]
  rw [e, d2_append]
  congr 3
  rw [List.length_take, List.length_drop, Nat.min_eq_left (by omega), hs, Nat.mul_comm]
  have : ((m - x) * (n : Int)) = (((m - x).toNat * n : Nat) : Int) := by
    rw [Int.natCast_mul, Int.toNat_of_nonneg (by omega)]
  rw [this, Int.toNat_natCast]
section
variable {prog : Program} {w : World} {A : Around} {E : Value → Shared → Prop} {s : Shared} {a n : Int} {t u : Tok} {Q : Value → Shared → Prop}
theorem lsh_ok (ha : 0 ≤ a ∧ a < 2 ^ 200) (hn : 0 ≤ n ∧ n ≤ 384) (h : Q (.int (a * 2 ^ n.toNat) s.toks) { s with toks := s.toks + 1 }) : wpAny (model prog w) A (binaryOp .LShift (.int a t) (.int n u)) Q E s := by
  refine lshift_int hn.1 ?_ h
  have h2 : (a.natAbs : Int) < 2 ^ 200 := by omega
  have h1 : Builtin.Int.intBits a ≤ 200 := intBits_le_iff.mpr (by exact_mod_cast h2)
  omega
end
section
variable {h₀ h : Heap} {L f : Addr} {m : Str → Option Value} {oc : Value} {od : Option Addr} {fd : FuncData} {sl : Array (Option Value)}
theorem fnAtB (F : Fr h₀ L h m) (e : h₀.get? f = some ⟨oc, od, .func fd, sl⟩) : FnAt f h := ⟨_, _, _, _, F.keep _ _ e⟩
end
theorem reg_Dg1_1 : True := by
  (k_with "@callWith ref" => ((fail_if_success (k_extra "Dg1 off")); ((k_here; k_dflt (refine' callWith_F ?k1 ?_; (case k1 => exact fnAtB (by k_asm) (by assumption)); k_whole)))))
  (k_with "@FnAt" => ((fail_if_success (k_extra "Dg1 off")); ((k_dflt (exact fnAtB (by k_asm) (by assumption))))))
  (k_with "@binaryOp LShift int int" => ((fail_if_success (k_extra "Dg1 off")); (k_dflt (refine' lsh_ok ?a ?b ?_; (case a => assumption); (case b => assumption)))))
  (k_with "@eval Name" => ((fail_if_success (k_extra "Dg1 off")); ((k_here; k_dflt (refine' nameX_Fb ?F ?hc ?hv ?hd ?_ ?hk ?hx; (case hx => rfl); (case hk => rfl); (case F => k_asm); (case hc => assumption); (case hv => assumption); (case hd => assumption))))))
  exact True.intro
theorem inner88 (w : World) (f c1 c2 c3 a : Addr) (cl : List (Str × Addr)) (hc1 : cl.lookup (Str.ofString "digits") = some c1) (hc2 : cl.lookup (Str.ofString "n") = some c2) (hc3 : cl.lookup (Str.ofString "inner") = some c3)
    (vs : List Value) (ns : List Int) (k n : Nat) (hI : IntsAre vs ns) (hn : n * ns.length ≤ 200) (hl : ns.length ≤ 200) (hb : ∀ x ∈ ns, 0 ≤ x ∧ x < 2 ^ n) : ∀ (fuel : Nat) (x y : Int) (tx ty : Tok), 0 ≤ x → x < y → y ≤ ns.length → y - x ≤ 2 ^ fuel →
    Spec w f [.int x tx, .int y ty] (fuel + 2) (10 * fuel + 40) [] (fun h => In88 w.params h f c1 c2 c3 a cl vs k n) (IntG (seg n ns x y)) := by
  w_top off
  intro fuel
  induction fuel with
  | zero =>
    intro x y tx ty hx hxy hy hf
    unfold Spec; intro p loose mean mg mb dp un gd outer base h₀ s R B X T hkp hsz hled hdp hun hask hret; revert X; k_fill; intro X
    have hf1 : x + 1 = y := by (simp at hf; omega)
    obtain ⟨⟨q, d, pm, c', ct, e1, e2⟩, ⟨o1, e3, e4⟩, ⟨o2, t, e5, e6⟩, ⟨o3, e7, e8⟩, e9⟩ := hask
    have hL : h₀.IsList a vs.toArray := ⟨_, e9, rfl, k, rfl⟩
    dsimp only [in88] at e1
    refine enterN T hkp hsz hled e1 rfl e2 (by ktr_room) (BindsTo.of_eq rfl) (locs rfl) ?_ rfl rfl rfl (by decide)
    intro L' h₁ F' N' hltL
    (try dsimp only)
    (try k_fold)
    k_steps
    · walk_at "my tidy"
      exact hret _ _ _ (Fr.keep (by k_asm)) ⟨_, congrArg (fun z => Value.int z _) (seg_one hx hf1 hy).symm⟩
    · exact absurd hf1 (by assumption)
  | succ fuel ih =>
    intro x y tx ty hx hxy hy hf
    unfold Spec; intro p loose mean mg mb dp un gd outer base h₀ s R B X T hkp hsz hled hdp hun hask hret; revert X; k_fill; intro X
    have hask' := hask
    obtain ⟨⟨q, d, pm, c', ct, e1, e2⟩, ⟨o1, e3, e4⟩, ⟨o2, t, e5, e6⟩, ⟨o3, e7, e8⟩, e9⟩ := hask
    have hL : h₀.IsList a vs.toArray := ⟨_, e9, rfl, k, rfl⟩
    dsimp only [in88] at e1
    have m1 : 2 * (x + y).fdiv (2 ^ Int.toNat 1) ≤ x + y ∧ x + y < 2 * (x + y).fdiv (2 ^ Int.toNat 1) + 2 := by
      rw [show (2 : Int) ^ Int.toNat 1 = 2 from rfl, Int.fdiv_eq_ediv_of_nonneg _ (by decide)]; omega
    have hf2 : y - x ≤ 2 * 2 ^ fuel := by rw [Int.pow_succ, Int.mul_comm] at hf; exact hf
    have hs : x + 1 ≠ y → 0 ≤ ((x + y).fdiv (2 ^ Int.toNat 1) - x) * (n : Int) ∧ ((x + y).fdiv (2 ^ Int.toNat 1) - x) * (n : Int) ≤ 384 := fun hne => by
      have a3 : (n : Int) * (ns.length : Int) ≤ 200 := by exact_mod_cast hn
      have a1 : 0 ≤ (x + y).fdiv (2 ^ Int.toNat 1) - x := by omega
      have a2 : (x + y).fdiv (2 ^ Int.toNat 1) - x ≤ (ns.length : Int) := by omega
      have a4 := Int.mul_le_mul_of_nonneg_right a2 (show 0 ≤ (n : Int) by omega)
      rw [Int.mul_comm (ns.length : Int)] at a4
      exact ⟨Int.mul_nonneg a1 (by omega), by omega⟩
    have hseg := fun x y => seg_bnd (n := n) (ns := ns) (x := x) (y := y) hb hn
    refine enterN T hkp hsz hled e1 rfl e2 (by ktr_room) (BindsTo.of_eq rfl) (locs rfl) ?_ rfl rfl rfl (by decide)
    intro L' h₁ F' N' hltL
    (try dsimp only)
    (try k_fold)
    (k_with "@binaryOp LShift int int" => (fail_if_success (k_extra "Dg1 off"));  (refine lsh_ok (hseg _ _) (hs (by assumption)) ?_))
    (k_with "@call ref" => (fail_if_success (k_extra "Dg1 off"));  (refine' Spec.use (ih _ _ _ _ ?r1 ?r2 ?r3 ?r4) ?k1 ?k2 ?k3 ?k4 ?k5 ?kK ?kd ?ku (hask'.keeps (Fr.keep (by k_asm))) ?_; walk_at "my prem"; (case r1 => omega); (case r2 => omega); (case r3 => omega); (case r4 => omega); intro r9 h9 tk9 F9 N9 g9; obtain ⟨t9, e9⟩ := g9; subst e9; (try dsimp only); (try k_fold)))
    k_steps
    · walk_at "my tidy"
      exact hret _ _ _ (Fr.keep (by k_asm)) ⟨_, congrArg (fun z => Value.int z _) (seg_one hx (by assumption) hy).symm⟩
    · walk_at "my tidy"
      exact hret _ _ _ (Fr.keep (by k_asm)) ⟨_, congrArg (fun z => Value.int z _) (seg_split hx (by omega) (by omega) hy rfl).symm⟩
    all_goals skip
theorem off_Dg1 : True := by
  (k_with "Dg1 off" => skip)
  exact True.intro

end
section --Dg2

noncomputable def TabIn (P : Addr) (ln col : Int) (qual : Str) (h : Heap) (c' : Addr) : Prop := ∃ oc vs t, h.get? P = some (tabObj #[rawInt ln, rawInt col, .ref c']) ∧ h.get? c' = some oc ∧ oc.data = .fields vs ∧ vs[1]? = some (.str qual t)
noncomputable def q88 : Str := Str.ofString "_digits2int.<locals>.inner"
theorem seg_all {n : Nat} {ns : List Int} : seg n ns 0 ns.length = d2 n ns := by
  unfold seg
  rw [show ((ns.length : Int) - 0).toNat = ns.length by omega]
  simp
theorem dig_first (w : World) (a : Addr) (vs : List Value) (ns : List Int) (k n : Nat) (t : Tok) (hI : IntsAre vs ns) (hn : n * ns.length ≤ 200) (hl : ns.length ≤ 200) (h0 : 0 < ns.length) (hb : ∀ x ∈ ns, 0 ≤ x ∧ x < 2 ^ n) :
    Spec w 88 [.ref a, .int (n : Int) t] 20 300 [(83, tabObj #[])] (fun h => h.get? a = some (W.listOf vs.toArray k)) (fun h r h' => IntG (d2 n ns) h r h' ∧ ∃ c', TabIn 83 54 4 q88 h' c' ∧ h.get? c' = none ∧ c' ≠ 83) := by
  w_top off; unfold Spec; intro p loose mean mg mb dp un gd outer base h₀ s R B X T hkp hsz hled hdp hun hask hret; revert X; k_fill; intro X; k_dflt (walk_at "my enterC"); intro L' h₁ tk' cells' F' N' Y' hltL; k_cells Y'; (try simp only [List.cons_append, List.nil_append] at N'); (try dsimp only); (try k_fold)
  have CH : CodeHd h₀ 87 83 := codeHd_of_K X (by kernel_rfl)
  have h83 : @LT.lt Nat instLTNat 83 L' := hltL _ (.head _)
  have hL : h₀.IsList a vs.toArray := ⟨_, hask, rfl, k, rfl⟩
  (k_with "@call ref" => (fail_if_success (k_extra "Dg2 off"));  (refine' Spec.use (inner88 w _ _ _ _ _ _ ?q1 ?q2 ?q3 vs ns k n hI hn hl hb 8 0 _ _ _ (by decide) ?p1 (Int.le_refl _) ?p2) ?k1 ?k2 ?k3 ?k4 ?k5 ?kK ?kd ?ku ⟨?fn, ?dg, ?nn, ?me, Fr.keep (by k_asm) _ _ hask⟩ ?_; (case fn => exact ⟨_, _, _, _, _, News.get (by k_asm) (by k_mem), codeRec_news (by k_asm) (by k_mem) (by assumption) (by assumption)⟩); (case q1 => rfl); (case q2 => rfl); (case q3 => rfl); (case dg => exact ⟨_, News.get (by k_asm) (by k_mem), by assumption⟩); (case nn => exact ⟨_, _, News.get (by k_asm) (by k_mem), by assumption⟩); (case me => exact ⟨_, News.get (by k_asm) (by k_mem), by assumption⟩); (case p1 => omega); (case p2 => omega); (walk_at "my prem"); (intro r9 h9 tk9 F9 N9 g9; obtain ⟨t9, e9⟩ := g9; subst e9; (try dsimp only); (try k_fold))))
  k_steps
  walk_at "my tidy"
  refine hret _ _ _ (Fr.keep (by k_asm)) ⟨⟨_, congrArg (fun z => Value.int z _) seg_all⟩, _, ⟨_, _, _, News.get (by k_asm) (by k_mem), News.get (by k_asm) (by k_mem), by assumption, by assumption⟩, News.fresh (by k_asm) (by k_mem), Nat.ne_of_gt ?_⟩
  omega
theorem dig_hit (w : World) (a c' : Addr) (vs : List Value) (ns : List Int) (k n : Nat) (t : Tok) (hI : IntsAre vs ns) (hn : n * ns.length ≤ 200) (hl : ns.length ≤ 200) (h0 : 0 < ns.length) (hb : ∀ x ∈ ns, 0 ≤ x ∧ x < 2 ^ n) :
    Spec w 88 [.ref a, .int (n : Int) t] 20 300 [] (fun h => h.get? a = some (W.listOf vs.toArray k) ∧ TabIn 83 54 4 q88 h c') (IntG (d2 n ns)) := by
  w_top off; unfold Spec; intro p loose mean mg mb dp un gd outer base h₀ s R B X T hkp hsz hled hdp hun hask hret; revert X; k_fill; intro X; k_dflt (walk_at "my enterC"); intro L' h₁ tk' cells' F' N' Y' hltL; k_cells Y'; (try simp only [List.cons_append, List.nil_append] at N'); (try dsimp only); (try k_fold)
  obtain ⟨hask, oc, vs', tq, t1, t2, t3, t4⟩ := hask
  have CH : CodeHd h₀ 87 83 := codeHd_of_K X (by kernel_rfl)
  have hL : h₀.IsList a vs.toArray := ⟨_, hask, rfl, k, rfl⟩
  (k_with "@exec FunctionDef" => (fail_if_success (k_extra "Dg2 off"));  (refine' nestDef_K ?d0 ?k0 ?a0 ?_; (case d0 => exact rfl); (case k0 => exact rfl); (case a0 => exact rfl); refine' nestHitB ?F ?N ?T CH ?cd t1 ?t ?n ?cl ?_; (case F => k_asm); (case N => k_asm); (case T => k_asm); (case cd => exact rfl); (case t => kn_triples); (case n => kn_hit); (case cl => exact rfl); k_whole; intro f' ct' dc' h' tk' F' N' l1; (try dsimp only at N'); (try k_lt l1)))
  (k_with "@call ref" => (fail_if_success (k_extra "Dg2 off"));  (refine' Spec.use (inner88 w _ _ _ _ _ _ ?q1 ?q2 ?q3 vs ns k n hI hn hl hb 8 0 _ _ _ (by decide) ?p1 (Int.le_refl _) ?p2) ?k1 ?k2 ?k3 ?k4 ?k5 ?kK ?kd ?ku ⟨?fn, ?dg, ?nn, ?me, Fr.keep (by k_asm) _ _ hask⟩ ?_; (case fn => exact ⟨_, _, _, _, _, News.get (by k_asm) (by k_mem), ⟨_, _, _, _, rfl, Fr.keep (by k_asm) _ _ t2, t3, t4⟩⟩); (case q1 => rfl); (case q2 => rfl); (case q3 => rfl); (case dg => exact ⟨_, News.get (by k_asm) (by k_mem), by assumption⟩); (case nn => exact ⟨_, _, News.get (by k_asm) (by k_mem), by assumption⟩); (case me => exact ⟨_, News.get (by k_asm) (by k_mem), by assumption⟩); (case p1 => omega); (case p2 => omega); (walk_at "my prem"); (intro r9 h9 tk9 F9 N9 g9; obtain ⟨t9, e9⟩ := g9; subst e9; (try dsimp only); (try k_fold))))
  k_steps
  walk_at "my tidy"
  exact hret _ _ _ (Fr.keep (by k_asm)) ⟨_, congrArg (fun z => Value.int z _) seg_all⟩
theorem off_Dg2 : True := by
  (k_with "Dg2 off" => skip)
  exact True.intro

end
section --By
open PySem PySem.W PyProof.Rows PySem.Calls PySem.Spec
noncomputable def ByIter (o : Obj) (b : Array UInt8) (t : Tok) (i : Nat) : Prop := o.cls = .type "bytes_iterator" ∧ o.data = .fields #[.bytes b t, .int i 0]
section
variable {prog : Program} {w : World} {A : Around} {E : Value → Shared → Prop} {s : Shared} {h₀ : Heap} {L it : Addr} {m : Str → Option Value} {news : List (Addr × Obj)} {g : Obj → List (Addr × Obj)} {io : Obj} {b : Array UInt8} {t : Tok} {i : Nat} {c : UInt8}
theorem by_iter {Q : Value → Shared → Prop} (F : Fr h₀ L s.heap m) (N : News h₀ L s.heap news)
    (h : ∀ (I : Addr) h' oI, Fr h₀ L h' m → News h₀ L h' ((I, oI) :: news) → (∀ p ∈ news, p.1 < I) → ByIter oI b t 0 → Q (.ref I) { s with heap := h' }) :
    wpAny (model prog w) A (call (.builtin "iter") [.bytes b t]) Q E s := by
  refine call_function_entry (by decide +kernel) (by decide +kernel) kdk_entry_iter (kdk_args_iter _) ?_
  unfold Builtin.«iter»
  refine wpAny_bind (m := someArgs "iter" 1 2 _) (wpAny_of_eq (a := [Value.bytes b t]) (by first | rfl | kernel_rfl!) ?_)
  show wpAny _ _ (pyIter (.bytes b t) >>= _) _ _ _
  refine wpAny_bind (KBw.pyIter_bytes ?_)
  exact wpAny_pure ⟨_, rfl, h _ _ _ (F.push _) (News.push F N _ rfl) (fun q hq => Heap.lt_size (N q hq).1) ⟨rfl, rfl⟩⟩
theorem by_special {Q : Option Value → Shared → Prop} (hit : KBw.IsBytesIter s.heap it b t i) (hx : b[i]? = some c)
    (hQ : ∀ h', KBw.IsBytesIter h' it b t (i + 1) → Heap.SameBut it s.heap h' → Q (some (.int (c.toNat : Int) s.toks)) { s with heap := h', toks := s.toks + 1 }) :
    wpAny (model prog w) A (callSpecial? (.ref it) (Str.ofString "__next__")) Q E s := by
  obtain ⟨o, ho, hc, hd⟩ := id hit
  refine wpAny_callSpecial?_slot (name := PySem.Str.ofString "__next__") (KBw.iter_typeIs hit) KBw.slot_next
    (wpAny_call_entry KBw.slot_next (KBw.iter_typeIs hit) KBw.entry_next ?_ (KBw.args_next _))
  show wpAny _ _ (field (.ref it) 0 >>= _) _ _ s
  refine wpAny_bind (wpAny_field ho hd (x := .bytes b t) rfl ?_)
  show wpAny _ _ (if (Value.bytes b t == Value.none) = true then _ else _) _ _ s
  rw [if_neg (show ¬ ((Value.bytes b t == Value.none) = true) from Bool.false_ne_true)]
  show wpAny _ _ (field (.ref it) 1 >>= _) _ _ s
  refine wpAny_bind (wpAny_field ho hd (x := .int i 0) rfl ?_)
  refine wpAny_bind (wpAny_of_eq (a := b) rfl ?_)
  simp only [Int.toNat_natCast, hx]
  refine wpAny_bind (wpAny_setField ho hd (by simp) (wpAny_bind (wpAny_mkInt (wpAny_pure ⟨_, rfl, (hQ _ ?_ (Heap.SameBut.update ..))⟩))))
  exact ⟨_, Heap.get?_update_self _ ho (Obj.isFreed_of_fields (Obj.data_mapFields hd _)), (Obj.cls_mapFields ..).trans hc, by
    rw [Obj.data_mapFields hd]; simp [rawInt]⟩
theorem by_next {Q : Value → Shared → Prop} (F : Fr h₀ L s.heap m) (N : News h₀ L s.heap news) (U : UpdF it io news g) (hi : ByIter io b t i) (hx : b[i]? = some c)
    (h : ∀ h' o', Fr h₀ L h' m → News h₀ L h' (g o') → ByIter o' b t (i + 1) → Q (.int (c.toNat : Int) s.toks) { s with heap := h', toks := s.toks + 1 }) :
    wpAny (model prog w) A (call (.builtin "next") [.ref it]) Q E s := by
  obtain ⟨pre, post, hl, hg, a, b'⟩ := U.split
  have hmem : (it, io) ∈ news := by rw [hl]; exact List.mem_append_right _ (.head _)
  have hm := N (it, io) hmem
  have hit : KBw.IsBytesIter s.heap it b t i := ⟨io, hm.1, hi.1, hi.2⟩
  refine call_function_entry (by decide +kernel) (by decide +kernel) kdk_entry_next (kdk_args_next _) ?_
  unfold Builtin.«next»
  refine wpAny_bind (m := someArgs "next" 1 2 _) (wpAny_of_eq (a := [Value.ref it]) (by first | rfl | kernel_rfl!) ?_)
  dsimp only
  refine wpAny_bind (wpAny_specialOf (name := Str.ofString "__next__") (KBw.iter_typeIs hit) KBw.slot_next.lookup ?_)
  refine wpAny_ite_split (fun hab => absurd hab (by decide)) (fun _ => ?_)
  refine wpAny_bind (by_special hit hx fun h' hit' hs => ?_)
  obtain ⟨o', ho', hc', hd'⟩ := hit'
  exact wpAny_pure ⟨_, rfl, h h' o' (F.change hs hm.2.1 hm.2.2) (hg o' ▸ (show News h₀ L s.heap (pre ++ (it, io) :: post) from hl ▸ N).setIn a b' hs ho') ⟨hc', hd'⟩⟩
end
theorem bit64_hi {x : Int} (h : 64 ≤ x ∧ x < 128) : Builtin.bitAnd x 64 = 64 := by
  have : ∀ k : Fin 64, Builtin.bitAnd (64 + (k.val : Int)) 64 = 64 := by decide +kernel
  have := this ⟨(x - 64).toNat, by (first | lia | omega)⟩
  rw [show 64 + (((x - 64).toNat : Nat) : Int) = x by (first | lia | omega)] at this
  exact this
theorem bit64_lo {x : Int} (h : 0 ≤ x ∧ x < 64) : Builtin.bitAnd x 64 = 0 := by
  have : ∀ k : Fin 64, Builtin.bitAnd ((k.val : Int)) 64 = 0 := by decide +kernel
  have := this ⟨x.toNat, by (first | lia | omega)⟩
  rw [show ((x.toNat : Nat) : Int) = x by (first | lia | omega)] at this
  exact this
theorem nat_and_low (v c : Nat) (h : c < 64) : (v * 2 ^ 6) &&& c = 0 := by
  apply Nat.eq_of_testBit_eq
  intro i
  rw [Nat.testBit_and, Nat.testBit_mul_two_pow, Nat.zero_testBit]
  by_cases hi : 6 ≤ i
  · have : c.testBit i = false := Nat.testBit_lt_two_pow (Nat.lt_of_lt_of_le h (Nat.pow_le_pow_right (show 0 < 2 by decide) hi))
    simp [this]
  · simp [hi]
theorem or_low {v x : Int} (hv : 0 ≤ v) (hx : 0 ≤ x) : Builtin.bitOr (v * 2 ^ Int.toNat 6) (Builtin.bitAnd x 63) = v * 64 + x % 64 := by
  rw [bitAnd_m6, bitOr_and]
  obtain ⟨n, rfl⟩ := Int.eq_ofNat_of_zero_le hv
  obtain ⟨c, hc⟩ := Int.eq_ofNat_of_zero_le (Int.emod_nonneg x (show (64 : Int) ≠ 0 by decide))
  have hl := Int.emod_lt_of_pos x (show (0 : Int) < 64 by decide)
  rw [hc] at hl ⊢
  have e : ((n : Int) * 2 ^ Int.toNat 6) = ((n * 2 ^ 6 : Nat) : Int) := by simp
  rw [e, bitAnd_nat, nat_and_low n c (by (first | lia | omega))]
  simp

end
section --Va1

noncomputable def vF (ks : List Int) : Int := ks.foldl (fun a c => a * 64 + c % 64) 0
theorem vF_snoc {ks : List Int} {i : Nat} (h : i < ks.length) : vF (ks.take (i + 1)) = vF (ks.take i) * 64 + ks.getD i 0 % 64 := by
  unfold vF
  rw [List.take_add_one, List.foldl_append, List.getElem?_eq_getElem h]
  simp [h]
theorem vF_bnd (ks : List Int) : 0 ≤ vF ks ∧ vF ks < 64 ^ ks.length := by
  unfold vF
  suffices ∀ (a : Int) (n : Nat), 0 ≤ a → a < 64 ^ n → 0 ≤ ks.foldl (fun a c => a * 64 + c % 64) a ∧ ks.foldl (fun a c => a * 64 + c % 64) a < 64 ^ (n + ks.length) by
    have := this 0 0 (by decide) (by decide)
    simpa using this
  induction ks with
  | nil => intro a n h1 h2; exact ⟨h1, by simpa using h2⟩
  | cons c r ih =>
    intro a n h1 h2
    have z1 := Int.emod_nonneg c (show (64 : Int) ≠ 0 by decide)
    have z2 := Int.emod_lt_of_pos c (show (0 : Int) < 64 by decide)
    have := ih (a * 64 + c % 64) (n + 1) (by omega) (by rw [Int.pow_succ]; omega)
    rw [List.foldl_cons, List.length_cons, show n + (r.length + 1) = n + 1 + r.length by omega]
    exact this
theorem vF_small {ks : List Int} (h : ks.length ≤ 30) (i : Nat) : 0 ≤ vF (ks.take i) ∧ vF (ks.take i) < 2 ^ 200 := by
  obtain ⟨h1, h2⟩ := vF_bnd (ks.take i)
  refine ⟨h1, Int.lt_of_lt_of_le h2 ?_⟩
  have h3 : (ks.take i).length ≤ 30 := by rw [List.length_take]; omega
  have h4 := Nat.pow_le_pow_right (show 0 < 64 by decide) h3
  have h5 : (64 : Int) ^ (ks.take i).length ≤ 64 ^ 30 := by exact_mod_cast h4
  exact Int.le_trans h5 (by decide)
theorem by_get {b : Array UInt8} {ks : List Int} {i : Nat} (hk : KBw.bInts b = ks) (h : i < ks.length) : ∃ c, b[i]? = some c ∧ (c.toNat : Int) = ks.getD i 0 := by
  subst hk
  rw [KBw.ints_length] at h
  refine ⟨b[i], by simp [h], ?_⟩
  have := KBw.ints_get (b := b) (i := i) (c := b[i]) (by simp [h])
  rw [List.getD_eq_getElem?_getD, this]; rfl
section
variable {prog : Program} {w : World} {A : Around} {E : Value → Shared → Prop} {s : Shared} {a : Int} {t u : Tok} {Q : Value → Shared → Prop}
theorem ilsh_ok (ha : 0 ≤ a ∧ a < 2 ^ 200) (h : Q (.int (a * 2 ^ Int.toNat 6) s.toks) { s with toks := s.toks + 1 }) : wpAny (model prog w) A (inplaceOp .LShift (.int a t) (.int 6 u)) Q E s := by
  refine ilshift_int (by decide) ?_ h
  have h2 : (a.natAbs : Int) < 2 ^ 200 := by omega
  have h1 : Builtin.Int.intBits a ≤ 200 := intBits_le_iff.mpr (by exact_mod_cast h2)
  omega
end
theorem reg_Va1_1 : True := by
  (k_with "@exec While BinOp" => ((fail_if_success (k_extra "Va1 off")); ((refine my_while_stop ?_))))
  (k_with "@inplaceOp LShift int int" => ((fail_if_success (k_extra "Va1 off")); (k_dflt (refine ilsh_ok (by assumption) ?_))))
  exact True.intro
theorem vF_start {ks : List Int} {it : Addr} {c : Int} {tx tv : Tok} (h : 0 < ks.length) (e : c = ks.getD 0 0) : [(Str.ofString "iterator", Value.ref it), (Str.ofString "b", Value.int c tx), (Str.ofString "val", Value.int (Builtin.bitAnd c 63) tv)] = [(Str.ofString "iterator", Value.ref it), (Str.ofString "b", Value.int c tx), (Str.ofString "val", Value.int (vF (ks.take 1)) tv)] := by
  have := vF_snoc h
  rw [List.take_zero] at this
  rw [this, bitAnd_m6, e]
  simp [vF]
theorem vF_next {ks : List Int} {it : Addr} {i : Nat} {c : Int} {tx tv : Tok} (h : i < ks.length) (hc : 0 ≤ c) (e : c = ks.getD i 0) : [(Str.ofString "iterator", Value.ref it), (Str.ofString "b", Value.int c tx), (Str.ofString "val", Value.int (Builtin.bitOr (vF (ks.take i) * 2 ^ Int.toNat 6) (Builtin.bitAnd c 63)) tv)] = [(Str.ofString "iterator", Value.ref it), (Str.ofString "b", Value.int c tx), (Str.ofString "val", Value.int (vF (ks.take (i + 1))) tv)] := by
  rw [vF_snoc h, or_low (by unfold vF; exact (vF_bnd _).1) hc, e]
noncomputable def InvV (it : Addr) (b : Array UInt8) (t : Tok) (ks : List Int) (n : Nat) (led : List (Addr × Obj)) (pl : List (Str × Value)) : Prop :=
  ∃ o i x tx tv, led = [(it, o)] ∧ pl = [(Str.ofString "iterator", Value.ref it), (Str.ofString "b", Value.int x tx), (Str.ofString "val", Value.int (vF (ks.take i)) tv)] ∧ n = ks.length - i ∧ 0 < i ∧ i ≤ ks.length ∧ ByIter o b t i ∧ x = ks.getD (i - 1) 0
theorem varint_spec (w : World) (it : Addr) (io : Obj) (b : Array UInt8) (t : Tok) (ks : List Int) (hk : KBw.bInts b = ks) (hio : ByIter io b t 0) (hl : ks.length ≤ 30) (h0 : 0 < ks.length) (hhi : ∀ i, i + 1 < ks.length → 64 ≤ ks.getD i 0 ∧ ks.getD i 0 < 128) (hlo : 0 ≤ ks.getD (ks.length - 1) 0 ∧ ks.getD (ks.length - 1) 0 < 64) :
    Spec w 117 [.ref it] 4 60 [(it, io)] (fun _ => True) (IntG (vF ks)) := by
  w_top off; unfold Spec; intro p loose mean mg mb dp un gd outer base h₀ s R B X T hkp hsz hled hdp hun hask hret; revert X; k_fill; intro X; k_dflt (walk_at "my enter"); intro L' h₁ tk' F' N' hltL; (try dsimp only); (try k_fold)
  obtain ⟨c0, e0, e0'⟩ := by_get hk h0
  (k_with "@call builtin:next" => (fail_if_success (k_extra "Va1 off"));  (refine' by_next ?F ?N ?U (by assumption) (by assumption) ?_; (case F => k_asm); (case N => k_asm); (case U => k_updF); intro h' o' F' N' hi'; (try dsimp only at N')))
  k_steps
  (rename Fr _ _ _ _ => lF'); (rename News _ _ _ _ => lN')
  unfold MyWhile
  (with_unfolding_all refine my_while _ (InvV it b t ks) (ks.length - 1) lF' lN' (show AllAt _ [(Str.ofString "iterator", _), (Str.ofString "b", _), (Str.ofString "val", _)] from ⟨rfl, rfl, rfl, trivial⟩) ⟨_, 1, _, _, _, rfl, vF_start h0 e0', rfl, by decide, h0, by assumption, e0'⟩ ?_)
  clear hio
  (repeat ((with_reducible (rename News _ _ _ _ => zz)); clear zz)); (repeat ((with_reducible (rename Fr _ _ _ _ => zz)); clear zz)); (repeat ((with_reducible (rename IsRange _ _ _ _ _ _ _ _ => zz)); clear zz)); (repeat ((with_reducible (rename ((_ : Obj).data = Data.cell _) => zz)); clear zz)); (repeat ((with_reducible (rename (∀ (b : Addr) (o : Obj), Heap.get? _ b = some o → Heap.get? _ b = some o) => zz)); clear zz))
  rintro n led pl uu h tk ⟨o, i, x, tx, tv, rfl, rfl, hn, hi0, hi1, hb, hx⟩ F N
  change Fr h₀ L' h _ at F; change News h₀ L' h _ at N; (try dsimp only); (try k_fold)
  by_cases hlast : i = ks.length
  · have z := bit64_lo (x := x) (by rw [hx, hlast]; exact hlo)
    rw [hlast, List.take_length] at F
    k_steps
    · exact absurd z (by assumption)
    · walk_at "my tidy"
      exact hret _ _ _ (Fr.keep (by k_asm)) ⟨_, rfl⟩
  · have hz := hhi (i - 1) (by omega)
    have z := bit64_hi (x := x) (by rw [hx]; exact hz)
    have hlt : i < ks.length := by omega
    obtain ⟨c1, e1, e1'⟩ := by_get hk hlt
    have hsm := vF_small hl i
    k_steps
    · (try subst hQz); exact tw_next (by assumption) (by assumption) (by repeat' first | exact trivial | refine ⟨by k_mem, ?_⟩) (by repeat' first | exact trivial | refine ⟨rfl, ?_⟩) (⟨ks.length - (i + 1), by omega, _, i + 1, _, _, _, rfl, vF_next hlt (by omega) e1', rfl, by omega, by omega, by assumption, e1'⟩)
    · exact absurd (z.symm.trans (by assumption)) (by decide)
theorem off_Va1 : True := by
  (k_with "Va1 off" => skip)
  exact True.intro

end
section --LwD

section
variable {w : World} {f : Addr} {vs : List Value} {dk uk : Nat} {asks : Heap → Prop} {gives : Heap → Value → Heap → Prop}
  {p : Program} {loose : List Str} {mean : ExcName → Option Value} {mg mb : Str → Option Value} {dp un : Nat} {gd : Option (List Code)} {cn : Str} {cs : Scope} {a : Addr} {ccd : Value} {cl : List (Str × Addr)} {outer : List Env} {A₀ : Around} {base h₀ : Heap} {L P : Addr} {oP : Obj} {m : Str → Option Value} {rest : List (Addr × Obj)} {s : Shared} {Q E : Value → Shared → Prop}
theorem off1_lt {I : Addr} {led : List (Addr × Obj)} (h : ∀ p ∈ led, p.1 < I) : LCg.Off1 I led := off1_all fun q hq => Nat.ne_of_lt (h q hq)
theorem Spec.use1d (S : Spec w f vs dk uk [(P, oP)] asks gives)
    (B : Below A₀ base outer h₀) (F : Fr h₀ L s.heap m) (X : (hd.heap_1 w.params).In h₀) (N : News h₀ L s.heap ((P, oP) :: rest)) (T : Top p loose mean mg mb h₀) (hk : cs.kind = .function) (hd : dp + dk < recursionLimit) (hu : un + uk < cLine)
    (off : LCg.Off1 P rest) (ha : asks (hideAll s.heap [P]))
    (h : ∀ r h' tk', Fr h₀ L h' m → News h₀ L h' rest → gives (hideAll s.heap [P]) r h' → Q r { s with heap := h', toks := tk' }) :
    wpAny (model PySem.Challenge.rw_us0023_01.row.prog w) (ktrTop dp un gd cn cs L a ccd cl outer) (call (.ref f) vs) Q E s := by
  have hm := N _ (.head _)
  have N₁ : News h₀ L s.heap [(P, oP)] := fun q hq => by rw [List.mem_singleton.mp hq]; exact hm
  obtain ⟨FG, BG, st, _⟩ := groundX (R := fun _ _ => True) (env := envX cn cs L a ccd cl) (A := arnd dp un gd (envX cn cs L a ccd cl :: outer)) B F N₁ rfl rfl hk
  have nP : (hideAll s.heap [P]).get? P = none := hideAll_none _ (List.mem_singleton.mpr rfl)
  refine wpAny_call (S p loose mean mg mb dp un gd (envX cn cs L a ccd cl :: outer) base _ s _ BG (X.keeps st) (T.keeps st) (fun b o e => of_hideAll _ e) (Nat.le_of_eq (hideAll_size _ _)) (fun q hq => ?_) hd hu ha fun r h' tk' hk' hgv => ?_)
  · rw [List.mem_singleton.mp hq]; exact ⟨hm.1, nP⟩
  · refine h r h' tk' ⟨FG.ns.keeps hk', fun b o e => hk' b o (FG.keep b o e), F.above⟩ (fun q hq => ?_) hgv
    have n := N q (.tail _ hq)
    exact ⟨hk' _ _ (hideAll_get _ n.1 fun z => off1_ne off q hq (List.mem_singleton.mp z)), n.2⟩
end
theorem bInts_arr {ks : List Int} (h : ∀ x ∈ ks, 0 ≤ x ∧ x < 256) : KBw.bInts (byteArr ks) = ks := by
  unfold KBw.bInts byteArr
  rw [List.map_map]
  conv => rhs; rw [← List.map_id ks]
  apply List.map_congr_left
  intro x hx
  obtain ⟨h1, h2⟩ := h x hx
  show ((x.toNat.toUInt8.toNat : Nat) : Int) = x
  have : x.toNat.toUInt8.toNat = x.toNat := by
    simp only [Nat.toUInt8, UInt8.toNat_ofNat']
    (first | lia | omega)
  rw [this]; (first | lia | omega)
noncomputable abbrev octF (C : List Int) : List Int := List.map (fun k' => 64 + k') (List.drop 1 C).reverse ++ [0]
theorem foldl_d2 : ∀ (T : List Int), (∀ x ∈ T, 0 ≤ x ∧ x < 64) → (List.map (fun k' => 64 + k') T.reverse).foldl (fun a c => a * 64 + c % 64) 0 = d2 6 T
  | [], _ => rfl
  | x :: r, h => by
    rw [List.reverse_cons, List.map_append, List.foldl_append, foldl_d2 r fun y hy => h y (.tail _ hy)]
    obtain ⟨h1, h2⟩ := h x (.head _)
    show d2 6 r * 64 + (64 + x) % 64 = x + 2 ^ 6 * d2 6 r
    (first | lia | omega)

end
section --LwE

noncomputable def SegS (w : World) (l : List Stmt) (Pre Post : Addr → Heap → List (Addr × Obj) → List (Str × Value) → Prop) : Prop :=
  ∀ (p : Program) (loose : List Str) (mean : ExcName → Option Value) (mg mb : Str → Option Value) (dp un : Nat) (gd : Option (List Code)) (outer : List Env) (A₀ : Around) (base h₀ : Heap) (L fa : Addr) (ccd : Value) (s : Shared) (h : Heap) (tk : Nat) (led : List (Addr × Obj)) (pl : List (Str × Value)) (u : Str → Option Value),
    Below A₀ base outer h₀ → (hd.heap_1 w.params).In h₀ → Top p loose mean mg mb h₀ → dp + 100 < recursionLimit → un + 1000 < cLine → @LT.lt Nat instLTNat 83 L → Fr h₀ L h (kstB u pl) → News h₀ L h led → Pre L h₀ led pl →
    wpAny (model PySem.Challenge.rw_us0023_01.row.prog w) ((arnd dp un gd outer).deeper (envOfC (Str.ofString "law") (in179 w.params).1.2 L fa ccd)) (execs l (envOfC (Str.ofString "law") (in179 w.params).1.2 L fa ccd))
      (SegQ h₀ L s Post) (fun _ _ => False) { s with heap := h, toks := tk }
theorem SegS.comp {w : World} {l₁ l₂ : List Stmt} {Pre Mid Post : Addr → Heap → List (Addr × Obj) → List (Str × Value) → Prop} (S₁ : SegS w l₁ Pre Mid) (S₂ : SegS w l₂ Mid Post) : SegS w (l₁ ++ l₂) Pre Post := by
  intro p loose mean mg mb dp un gd outer A₀ base h₀ L fa ccd s h tk led pl u B X T hdp hun h83 F N hp
  rw [execs_app]
  refine wpAny_bind (wpAny_mono (S₁ p loose mean mg mb dp un gd outer A₀ base h₀ L fa ccd s h tk led pl u B X T hdp hun h83 F N hp) (fun f s' q => ?_) fun _ _ e => e)
  cases f with
  | next =>
    refine mid_get q fun h' tk' led' pl' u' e F' N' hq => ?_
    subst e
    exact S₂ p loose mean mg mb dp un gd outer A₀ base h₀ L fa ccd s h' tk' led' pl' u' B X T hdp hun h83 F' N' hq
  | ret v => exact wpAny_pure q
  | brk => exact q.elim
  | cont => exact q.elim
noncomputable def bodyOf (o : Option Stmt) : Option (List Stmt) := match o with
  | some (.For _ _ body _ _) => some body
  | _ => none
noncomputable def inK (P : Params) : {x // bodyOf ((in179 P).1.1[17]?) = some x} := ⟨_, rfl⟩
noncomputable def inN (P : Params) : {x // bodyOf ((in179 P).1.1[19]?) = some x} := ⟨_, rfl⟩
theorem te_mid {h₀ : Heap} {L : Addr} {s s' : Shared} {I : Addr × Obj} {J : List (Addr × Obj) → List (Str × Value) → Prop} {Q : Flow → Shared → Prop} (q : MidP h₀ L s (fun led pl => ∃ r, led = I :: r ∧ LCg.Off1 I.1 r ∧ J r pl) s') : TE h₀ L s I J Q .next s' := by
  obtain ⟨h, tk, m, all, led, pl, e, F, N, hp, ⟨r, rfl, off, hJ⟩, sub⟩ := q
  exact ⟨h, tk, m, all, r, pl, e, F, N, hp, hJ, sub, off⟩

end
section --Sg0

noncomputable def Pre0 (sl : Addr) (vs : List Value) (ns : List Int) (L : Addr) (h₀ : Heap) (led : List (Addr × Obj)) (pl : List (Str × Value)) : Prop :=
  ∃ o1 o2 o3 v1 v2 v3, led = [(L + 1 + 1 + 1, o1), (L + 1 + 1, o2), (L + 1, o3), (83, tabObj #[]), (76, tabObj #[])] ∧ pl = [(Str.ofString "script", Value.ref sl)] ∧ o1.data = .cell v1 ∧ o2.data = .cell v2 ∧ o3.data = .cell v3 ∧ h₀.IsList sl vs.toArray ∧ IntsAre vs ns ∧ ns.length ≤ 63
noncomputable def Pre1 (L : Addr) (h₀ : Heap) (led : List (Addr × Obj)) (pl : List (Str × Value)) : Prop :=
  ∃ l d0 d1 d2 t0 t1 t2 k o1 o2 o3 v1 v2 v3, led = [(l, W.listOf #[Value.int d0 t0, Value.int d1 t1, Value.int d2 t2] k), (L + 1 + 1 + 1, o1), (L + 1 + 1, o2), (L + 1, o3), (83, tabObj #[]), (76, tabObj #[])] ∧ pl = [(Str.ofString "drawn", Value.ref l)] ∧ o1.data = .cell v1 ∧ o2.data = .cell v2 ∧ o3.data = .cell v3 ∧
    @LT.lt Nat instLTNat (L + 1 + 1 + 1) l ∧ (0 ≤ d0 ∧ d0 < 1000000) ∧ (0 ≤ d1 ∧ d1 < 1000000) ∧ (0 ≤ d2 ∧ d2 < 1000000)
theorem ints_three {ws : List Value} {a b c : Int} (h : IntsAre ws [a, b, c]) : ∃ t0 t1 t2, ws = [.int a t0, .int b t1, .int c t2] := by
  cases h with
  | cons n t h => cases h with
    | cons n t' h => cases h with
      | cons n t'' h => cases h; exact ⟨_, _, _, rfl⟩
theorem drawn_ok {ws : List Value} {ns : List Int} (h : IntsAre ws (List.map (fun k' => k'.fmod 1000000) (List.take 3 ns) ++ List.drop (↑(List.take 3 ns).length : Int).toNat [57, 40, 4379])) :
    ∃ d0 d1 d2 t0 t1 t2, ws = [.int d0 t0, .int d1 t1, .int d2 t2] ∧ (0 ≤ d0 ∧ d0 < 1000000) ∧ (0 ≤ d1 ∧ d1 < 1000000) ∧ (0 ≤ d2 ∧ d2 < 1000000) := by
  have f0 : ∀ x : Int, 0 ≤ x.fmod 1000000 ∧ x.fmod 1000000 < 1000000 := fun x => ⟨fmod_lo x (by decide), fmod_hi x (by decide)⟩
  have k0 : (0 : Int) ≤ 57 ∧ (57 : Int) < 1000000 := by decide
  have k1 : (0 : Int) ≤ 40 ∧ (40 : Int) < 1000000 := by decide
  have k2 : (0 : Int) ≤ 4379 ∧ (4379 : Int) < 1000000 := by decide
  rcases ns with _ | ⟨a, _ | ⟨b, _ | ⟨c, r⟩⟩⟩
  · obtain ⟨t0, t1, t2, e⟩ := ints_three h; exact ⟨_, _, _, t0, t1, t2, e, k0, k1, k2⟩
  · obtain ⟨t0, t1, t2, e⟩ := ints_three h; exact ⟨_, _, _, t0, t1, t2, e, f0 a, k1, k2⟩
  · obtain ⟨t0, t1, t2, e⟩ := ints_three h; exact ⟨_, _, _, t0, t1, t2, e, f0 a, f0 b, k2⟩
  · obtain ⟨t0, t1, t2, e⟩ := ints_three (a := a.fmod 1000000) (b := b.fmod 1000000) (c := c.fmod 1000000) (by simpa using h); exact ⟨_, _, _, t0, t1, t2, e, f0 a, f0 b, f0 c⟩
theorem seg0 (w : World) (sl : Addr) (vs : List Value) (ns : List Int) : Seg w 0 1 (Pre0 sl vs ns) Pre1 := by
  w_top off; intro p loose mean mg mb dp un gd outer A₀ base h₀ L' fa ccd s h tk led pl u B X T hdp hun h83 F N hpre; revert X; k_fill; intro X; dsimp only [in179, List.drop, List.take]
  obtain ⟨o1, o2, o3, v1, v2, v3, rfl, rfl, e1, e2, e3, hL, hI, hlen⟩ := hpre
  (try dsimp only); (try k_fold); refine wp_gen ?_; intro Qz hQz
  k_steps
  skip
  (rename IntsAre _ (_ ++ _) => hws)
  obtain ⟨d0, d1, d2, t0, t1, t2, ew, b0, b1, b2⟩ := drawn_ok hws
  subst ew
  (try subst hQz); (try subst hQz); exact mid_next (by assumption) (by assumption) (by repeat' first | exact trivial | refine ⟨by k_mem, ?_⟩) (by repeat' first | exact trivial | refine ⟨rfl, ?_⟩) (⟨_, d0, d1, d2, t0, t1, t2, _, _, _, _, _, _, _, rfl, rfl, by assumption, by assumption, by assumption, by omega, b0, b1, b2⟩)

end
section --Lc1

noncomputable def lcNum (f0 f1 f2 g0 g1 g2 : Int) (o m : Nat) : Int := Int.fmod ((0 + (o:Int)) * f0 + (0 + (m:Int)) * g0) 4 + 4 * Int.fmod ((0 + (o:Int)) * f1 + (0 + (m:Int)) * g1) 4 + 16 * Int.fmod ((0 + (o:Int)) * f2 + (0 + (m:Int)) * g2) 4
noncomputable def lcAdd (acc : List Int) (n : Int) : List Int := if n ∈ acc then acc else acc ++ [n]
noncomputable def lcIn (f0 f1 f2 g0 g1 g2 : Int) (o : Nat) (acc : List Int) : Nat → List Int
  | 0 => acc
  | m + 1 => lcAdd (lcIn f0 f1 f2 g0 g1 g2 o acc m) (lcNum f0 f1 f2 g0 g1 g2 o m)
noncomputable def lcOut (f0 f1 f2 g0 g1 g2 : Int) : Nat → List Int
  | 0 => []
  | o + 1 => lcIn f0 f1 f2 g0 g1 g2 o (lcOut f0 f1 f2 g0 g1 g2 o) 4
inductive InvO (f0 f1 f2 g0 g1 g2 : Int) (a b L : Addr) (i : Nat) : List (Addr × Obj) → List (Str × Value) → Prop
  | mk : ∀ l vs ns k o1 o2 oS oF v1 v2, (@LT.lt Nat instLTNat (L + 1 + 1 + 1 + 1) l) → (IntsAre vs.toList ns) → (ns = lcOut f0 f1 f2 g0 g1 g2 i) → (ns.length ≤ 4 * i) → (o1.data = .cell v1) → (o2.data = .cell v2) → (oS.data = .cell (some (.ref b))) → (oF.data = .cell (some (.ref a))) → InvO f0 f1 f2 g0 g1 g2 a b L i ([(l, W.listOf vs k), (L + 1 + 1 + 1 + 1, o1), (L + 1 + 1 + 1, o2), (L + 1 + 1, oS), (L + 1, oF)]) ([(Str.ofString "numbers", Value.ref l)])
inductive InvI (f0 f1 f2 g0 g1 g2 : Int) (acc : List Int) (L l I : Addr) (oI oO oS oF : Obj) (o : Nat) (i : Nat) : List (Addr × Obj) → List (Str × Value) → Prop
  | mk : ∀ vs ns k o1 v1, (IntsAre vs.toList ns) → (ns = lcIn f0 f1 f2 g0 g1 g2 o acc i) → (ns.length ≤ acc.length + i) → (o1.data = .cell v1) → InvI f0 f1 f2 g0 g1 g2 acc L l I oI oO oS oF o i ([(I, oI), (l, W.listOf vs k), (L + 1 + 1 + 1 + 1, o1), (L + 1 + 1 + 1, oO), (L + 1 + 1, oS), (L + 1, oF)]) ([(Str.ofString "numbers", Value.ref l)])
noncomputable def insI (x : Int) : List Int → List Int
  | [] => [x]
  | y :: r => if x ≤ y then x :: y :: r else y :: insI x r
noncomputable def isrt : List Int → List Int
  | [] => []
  | x :: r => insI x (isrt r)
theorem insI_perm (x : Int) : ∀ l : List Int, (insI x l).Perm (x :: l)
  | [] => .refl _
  | y :: r => by
    unfold insI
    split
    · exact .refl _
    · exact ((insI_perm x r).cons y).trans (.swap x y r)
theorem isrt_perm : ∀ l : List Int, (isrt l).Perm l
  | [] => .refl _
  | x :: r => (insI_perm x _).trans ((isrt_perm r).cons x)
theorem insI_sorted (x : Int) : ∀ l : List Int, l.Pairwise (· ≤ ·) → (insI x l).Pairwise (· ≤ ·)
  | [], _ => by simp [insI]
  | y :: r, h => by
    unfold insI
    have h1 := List.pairwise_cons.mp h
    split
    · rename_i hxy
      refine List.pairwise_cons.mpr ⟨fun z hz => ?_, h⟩
      rcases List.mem_cons.mp hz with rfl | hz
      · exact hxy
      · exact Int.le_trans hxy (h1.1 z hz)
    · rename_i hxy
      refine List.pairwise_cons.mpr ⟨fun z hz => ?_, insI_sorted x r h1.2⟩
      rcases List.mem_cons.mp ((insI_perm x r).mem_iff.mp hz) with rfl | hz
      · omega
      · exact h1.1 z hz
theorem isrt_sorted : ∀ l : List Int, (isrt l).Pairwise (· ≤ ·)
  | [] => .nil
  | x :: r => insI_sorted x _ (isrt_sorted r)
noncomputable def codeF (f0 f1 f2 g0 g1 g2 : Int) : List Int := isrt (lcOut f0 f1 f2 g0 g1 g2 4)
theorem lc_in {f0 f1 f2 g0 g1 g2 : Int} {o j : Nat} {acc ns : List Int} {n : Int} (h : ns = lcIn f0 f1 f2 g0 g1 g2 o acc j) (e : n = lcNum f0 f1 f2 g0 g1 g2 o j) (q : (ns.any fun x => x == n) = true) : ns = lcIn f0 f1 f2 g0 g1 g2 o acc (j + 1) := by
  have hm : n ∈ ns := by simpa using q
  show ns = lcAdd (lcIn f0 f1 f2 g0 g1 g2 o acc j) (lcNum f0 f1 f2 g0 g1 g2 o j)
  rw [← h, ← e, lcAdd, if_pos hm]
theorem lc_out {f0 f1 f2 g0 g1 g2 : Int} {o j : Nat} {acc ns : List Int} {n : Int} (h : ns = lcIn f0 f1 f2 g0 g1 g2 o acc j) (e : n = lcNum f0 f1 f2 g0 g1 g2 o j) (q : (ns.any fun x => x == n) = false) : ns ++ [n] = lcIn f0 f1 f2 g0 g1 g2 o acc (j + 1) := by
  have hm : ¬ n ∈ ns := fun hm => by (have := List.any_eq_false.mp q n hm; simp at this)
  show ns ++ [n] = lcAdd (lcIn f0 f1 f2 g0 g1 g2 o acc j) (lcNum f0 f1 f2 g0 g1 g2 o j)
  rw [← h, ← e, lcAdd, if_neg hm]
theorem code_spec (w : World) (a b : Addr) (f0 f1 f2 g0 g1 g2 : Int) (t0 t1 t2 u0 u1 u2 : Tok) (k k' : Nat) (q0 : 0 ≤ f0 ∧ f0 < 4) (q1 : 0 ≤ f1 ∧ f1 < 4) (q2 : 0 ≤ f2 ∧ f2 < 4) (r0 : 0 ≤ g0 ∧ g0 < 4) (r1 : 0 ≤ g1 ∧ g1 < 4) (r2 : 0 ≤ g2 ∧ g2 < 4) :
    Spec w 148 [.ref a, .ref b] 8 80 [] (fun h => h.get? a = some (W.listOf #[.int f0 t0, .int f1 t1, .int f2 t2] k) ∧ h.get? b = some (W.listOf #[.int g0 u0, .int g1 u1, .int g2 u2] k')) (ListG (codeF f0 f1 f2 g0 g1 g2)) := by
  w_top off; unfold Spec; intro p loose mean mg mb dp un gd outer base h₀ s R B X T hkp hsz hled hdp hun hask hret; revert X; k_fill; intro X; k_dflt (walk_at "my enterC"); intro L' h₁ tk' cells' F' N' Y' hltL; k_cells Y'; (try simp only [List.cons_append, List.nil_append] at N'); (try dsimp only); (try k_fold)
  obtain ⟨ha, hb⟩ := hask
  k_steps
  (rename Fr _ _ _ _ => lF'); (rename News _ _ _ _ => lN'); (rename IsRange _ _ _ _ _ _ _ _ => rgX)
  (with_unfolding_all refine my_range _ (InvO f0 f1 f2 g0 g1 g2 a b L') (by rfl) rgX (by decide) (n := 4) (by rfl) lF' lN' ?_ ⟨_, _, [], _, _, _, _, _, _, _, (by omega), IntsAre.nil, rfl, Nat.le_refl _, by assumption, by assumption, by assumption, by assumption⟩ ?_ ?_)
  · exact ⟨rfl, trivial⟩
  · (repeat ((with_reducible (rename News _ _ _ _ => zz)); clear zz)); (repeat ((with_reducible (rename Fr _ _ _ _ => zz)); clear zz)); (repeat ((with_reducible (rename IsRange _ _ _ _ _ _ _ _ => zz)); clear zz)); (repeat ((with_reducible (rename ((_ : Obj).data = Data.cell _) => zz)); clear zz)); (repeat ((with_reducible (rename (∀ (b : Addr) (o : Obj), Heap.get? _ b = some o → Heap.get? _ b = some o) => zz)); clear zz))
    rintro i v led pl I u o h tk hi ⟨t, rfl⟩ ⟨l, vs, ns, kk, o1, o2, oS, oF, v1, v2, hL, hI, hns, hlen, e1, e2, e3, e4⟩ ho F N
    change Fr h₀ L' h _ at F; change News h₀ L' h _ at N; (try dsimp only); (try k_fold)
    k_steps
    (rename Fr _ _ _ _ => lF'); (rename News _ _ _ _ => lN'); (rename IsRange _ _ _ _ _ _ _ _ => rgX)
    (with_unfolding_all refine my_range _ (InvI f0 f1 f2 g0 g1 g2 ns L' l I o _ oS oF i) (by rfl) rgX (by decide) (n := 4) (by rfl) lF' lN' ?_ ⟨_, ns, _, _, _, hI, rfl, Nat.le_refl _, by assumption⟩ ?_ ?_)
    · exact ⟨rfl, trivial⟩
    · clear hI e1; (repeat ((with_reducible (rename News _ _ _ _ => zz)); clear zz)); (repeat ((with_reducible (rename Fr _ _ _ _ => zz)); clear zz)); (repeat ((with_reducible (rename IsRange _ _ _ _ _ _ _ _ => zz)); clear zz)); (repeat ((with_reducible (rename (∀ (b : Addr) (o : Obj), Heap.get? _ b = some o → Heap.get? _ b = some o) => zz)); clear zz))
      rintro j v led pl J u o h tk hj ⟨t, rfl⟩ ⟨vs, ns', kk, o1, v1, hI, hns', hlen', e1⟩ ho F N
      change Fr h₀ L' h _ at F; change News h₀ L' h _ at N; (try dsimp only); (try k_fold)
      (k_with "@subscriptTail Name Name ref int" => (fail_if_success (k_extra "Lc1 off"));  ((first | refine b3_g (by k_asm) ha hq ?_ | refine b3_g (by k_asm) hb hq ?_); intro t9))
      (k_with "@CompSrc" => (fail_if_success (k_extra "Lc1 off"));  (k_here; k_dflt (refine LCg.CompSrc.range (by rfl) (by k_asm) (by k_asm) (by assumption) (by decide) (by rfl) (by exact Nat.le_of_ble_eq_true rfl) ?_; intro g'; refine comp_ints (fun q => Int.fmod ((0 + (i : Int)) * [f0, f1, f2].getD q 0 + (0 + (j : Int)) * [g0, g1, g2].getD q 0) 4) 3 ?_ ?_; (focus (intro q v9 I9 oI9 C9 oC9 D9 m9 ys9 h9 tk9 E9 hq hv9 hC9 hx9 F9 N9 off9 ne9; obtain ⟨t9, hv9'⟩ := hv9; subst hv9'; (have hqf := get3 (P := fun x => 0 ≤ x ∧ x < 4) q0 q1 q2 hq); (have hqg := get3 (P := fun x => 0 ≤ x ∧ x < 4) r0 r1 r2 hq); obtain ⟨hq1, hq2⟩ := hqf; obtain ⟨hq3, hq4⟩ := hqg; k_steps; all_goals first | rfl | exact (default : Nat))); (intro ys9 hys9; obtain ⟨t0', t1', t2', e9⟩ := ints_3 hys9; subst e9))))
      k_steps
      · (try subst hQz); exact te_next (by assumption) (by assumption) (by repeat' first | exact trivial | refine ⟨by k_mem, ?_⟩) (by repeat' first | exact trivial | refine ⟨rfl, ?_⟩) (⟨vs, ns', _, _, _, hI, lc_in hns' rfl (by assumption), by omega, by assumption⟩) (by exact ho)
      · (try subst hQz); exact te_next (by assumption) (by assumption) (by repeat' first | exact trivial | refine ⟨by k_mem, ?_⟩) (by repeat' first | exact trivial | refine ⟨rfl, ?_⟩) (⟨_, _, _, _, _, ints_push hI, lc_out hns' rfl (by assumption), by (rw [List.length_append]; simp only [List.length_cons, List.length_nil]; omega), by assumption⟩) (by exact ho)
    · clear hI; (repeat ((with_reducible (rename News _ _ _ _ => zz)); clear zz)); (repeat ((with_reducible (rename Fr _ _ _ _ => zz)); clear zz)); (repeat ((with_reducible (rename IsRange _ _ _ _ _ _ _ _ => zz)); clear zz)); (repeat ((with_reducible (rename (∀ (b : Addr) (o : Obj), Heap.get? _ b = some o → Heap.get? _ b = some o) => zz)); clear zz))
      rintro led pl u h tk ⟨vs, ns', kk, o1, v1, hI, hns', hlen', e1⟩ F N
      change Fr h₀ L' h _ at F; change News h₀ L' h _ at N; (try dsimp only); (try k_fold)
      k_steps
      skip
      (try subst hQz); exact te_next (by assumption) (by assumption) (by repeat' first | exact trivial | refine ⟨by k_mem, ?_⟩) (by repeat' first | exact trivial | refine ⟨rfl, ?_⟩) (⟨_, _, _, _, _, _, _, _, _, _, hL, hI, by (rw [hns', hns]; rfl), by omega, by assumption, by assumption, e3, e4⟩) (by exact ho)
  · (repeat ((with_reducible (rename News _ _ _ _ => zz)); clear zz)); (repeat ((with_reducible (rename Fr _ _ _ _ => zz)); clear zz)); (repeat ((with_reducible (rename IsRange _ _ _ _ _ _ _ _ => zz)); clear zz)); (repeat ((with_reducible (rename ((_ : Obj).data = Data.cell _) => zz)); clear zz)); (repeat ((with_reducible (rename (∀ (b : Addr) (o : Obj), Heap.get? _ b = some o → Heap.get? _ b = some o) => zz)); clear zz))
    rintro led pl u h tk ⟨l, vs, ns, kk, o1, o2, oS, oF, v1, v2, hL, hI, hns, hlen, e1, e2, e3, e4⟩ F N
    change Fr h₀ L' h _ at F; change News h₀ L' h _ at N; (try dsimp only); (try k_fold)
    k_steps
    walk_at "my tidy"
    exact hret _ _ _ (Fr.keep (by k_asm)) (list_g (by k_asm) (by k_mem) (by assumption) (lks_uniq ((by assumption : List.Perm _ ns).trans (hns ▸ (isrt_perm _).symm)) (by assumption) (isrt_sorted _)))
theorem off_Lc1 : True := by
  (k_with "Lc1 off" => skip)
  exact True.intro

end
section --Du1

noncomputable def duTest (f0 f1 f2 g0 g1 g2 : Int) (i : Int) : Bool := (Int.fmod (Int.fmod i 4 * f0 + Int.fmod (Int.fdiv i 4) 4 * f1 + Int.fdiv i 16 * f2) 4 == 0) && (Int.fmod (Int.fmod i 4 * g0 + Int.fmod (Int.fdiv i 4) 4 * g1 + Int.fdiv i 16 * g2) 4 == 0)
noncomputable def duF (f0 f1 f2 g0 g1 g2 : Int) : Nat → List Int
  | 0 => []
  | i + 1 => if duTest f0 f1 f2 g0 g1 g2 (0 + (i : Int)) then duF f0 f1 f2 g0 g1 g2 i ++ [0 + (i : Int)] else duF f0 f1 f2 g0 g1 g2 i
noncomputable def dualF (f0 f1 f2 g0 g1 g2 : Int) : List Int := duF f0 f1 f2 g0 g1 g2 64
inductive InvD (f0 f1 f2 g0 g1 g2 : Int) (a b : Addr) (i : Nat) : List (Addr × Obj) → List (Str × Value) → Prop
  | mk : ∀ l vs k, (IntsAre vs.toList (duF f0 f1 f2 g0 g1 g2 i)) → ((duF f0 f1 f2 g0 g1 g2 i).length ≤ i) → InvD f0 f1 f2 g0 g1 g2 a b i ([(l, W.listOf vs k)]) ([(Str.ofString "numbers", Value.ref l), (Str.ofString "first", Value.ref a), (Str.ofString "second", Value.ref b)])
section
variable {f0 f1 f2 g0 g1 g2 : Int} {i : Nat}
theorem du_in (h1 : Int.fmod (Int.fmod (0 + (i : Int)) 4 * f0 + Int.fmod (Int.fdiv (0 + (i : Int)) 4) 4 * f1 + Int.fdiv (0 + (i : Int)) 16 * f2) 4 = 0) (h2 : Int.fmod (Int.fmod (0 + (i : Int)) 4 * g0 + Int.fmod (Int.fdiv (0 + (i : Int)) 4) 4 * g1 + Int.fdiv (0 + (i : Int)) 16 * g2) 4 = 0) :
    duF f0 f1 f2 g0 g1 g2 (i + 1) = duF f0 f1 f2 g0 g1 g2 i ++ [0 + (i : Int)] := by
  have : duTest f0 f1 f2 g0 g1 g2 (0 + (i : Int)) = true := by simp only [duTest, h1, h2]; rfl
  show (if duTest f0 f1 f2 g0 g1 g2 (0 + (i : Int)) then _ else _) = _
  rw [if_pos this]
theorem du_out (h1 : Int.fmod (Int.fmod (0 + (i : Int)) 4 * f0 + Int.fmod (Int.fdiv (0 + (i : Int)) 4) 4 * f1 + Int.fdiv (0 + (i : Int)) 16 * f2) 4 ≠ 0) : duF f0 f1 f2 g0 g1 g2 (i + 1) = duF f0 f1 f2 g0 g1 g2 i := by
  have : duTest f0 f1 f2 g0 g1 g2 (0 + (i : Int)) = false := by simp only [duTest, beq_eq_false_iff_ne.mpr h1]; rfl
  show (if duTest f0 f1 f2 g0 g1 g2 (0 + (i : Int)) then _ else _) = _
  rw [if_neg (by rw [this]; decide)]
theorem du_out2 (h2 : Int.fmod (Int.fmod (0 + (i : Int)) 4 * g0 + Int.fmod (Int.fdiv (0 + (i : Int)) 4) 4 * g1 + Int.fdiv (0 + (i : Int)) 16 * g2) 4 ≠ 0) : duF f0 f1 f2 g0 g1 g2 (i + 1) = duF f0 f1 f2 g0 g1 g2 i := by
  have : duTest f0 f1 f2 g0 g1 g2 (0 + (i : Int)) = false := by simp only [duTest, beq_eq_false_iff_ne.mpr h2, Bool.and_false]
  show (if duTest f0 f1 f2 g0 g1 g2 (0 + (i : Int)) then _ else _) = _
  rw [if_neg (by rw [this]; decide)]
end
theorem dual_spec (w : World) (a b : Addr) (f0 f1 f2 g0 g1 g2 : Int) (t0 t1 t2 u0 u1 u2 : Tok) (k k' : Nat) (q0 : 0 ≤ f0 ∧ f0 < 4) (q1 : 0 ≤ f1 ∧ f1 < 4) (q2 : 0 ≤ f2 ∧ f2 < 4) (r0 : 0 ≤ g0 ∧ g0 < 4) (r1 : 0 ≤ g1 ∧ g1 < 4) (r2 : 0 ≤ g2 ∧ g2 < 4) :
    Spec w 155 [.ref a, .ref b] 8 80 [] (fun h => h.get? a = some (W.listOf #[.int f0 t0, .int f1 t1, .int f2 t2] k) ∧ h.get? b = some (W.listOf #[.int g0 u0, .int g1 u1, .int g2 u2] k')) (ListG (dualF f0 f1 f2 g0 g1 g2)) := by
  w_top off; unfold Spec; intro p loose mean mg mb dp un gd outer base h₀ s R B X T hkp hsz hled hdp hun hask hret; revert X; k_fill; intro X; k_dflt (walk_at "my enter"); intro L' h₁ tk' F' N' hltL; (try dsimp only); (try k_fold)
  obtain ⟨ha, hb⟩ := hask
  k_steps
  (rename Fr _ _ _ _ => lF'); (rename News _ _ _ _ => lN'); (rename IsRange _ _ _ _ _ _ _ _ => rgX)
  (with_unfolding_all refine my_range _ (InvD f0 f1 f2 g0 g1 g2 a b) (by rfl) rgX (by decide) (n := 64) (by rfl) lF' lN' ?_ ⟨_, _, _, IntsAre.nil, Nat.le_refl _⟩ ?_ ?_)
  · exact ⟨rfl, rfl, rfl, trivial⟩
  · (repeat ((with_reducible (rename News _ _ _ _ => zz)); clear zz)); (repeat ((with_reducible (rename Fr _ _ _ _ => zz)); clear zz)); (repeat ((with_reducible (rename IsRange _ _ _ _ _ _ _ _ => zz)); clear zz)); (repeat ((with_reducible (rename ((_ : Obj).data = Data.cell _) => zz)); clear zz)); (repeat ((with_reducible (rename (∀ (b : Addr) (o : Obj), Heap.get? _ b = some o → Heap.get? _ b = some o) => zz)); clear zz))
    rintro i v led pl I u o h tk hi ⟨t, rfl⟩ ⟨l, vs, kk, hI, hlen⟩ ho F N
    change Fr h₀ L' h _ at F; change News h₀ L' h _ at N; (try dsimp only); (try k_fold)
    have c0 : 0 ≤ Int.fdiv (0 + (i : Int)) 16 ∧ Int.fdiv (0 + (i : Int)) 16 < 4 := by rw [Int.fdiv_eq_ediv_of_nonneg _ (by decide)]; omega
    obtain ⟨c1, c2⟩ := c0
    k_steps
    · (try subst hQz); exact te_next (by assumption) (by assumption) (by repeat' first | exact trivial | refine ⟨by k_mem, ?_⟩) (by repeat' first | exact trivial | refine ⟨rfl, ?_⟩) (⟨_, _, _, (by rw [du_in (by assumption) (by assumption)]; exact ints_push hI), (by rw [du_in (by assumption) (by assumption), List.length_append]; simp only [List.length_cons, List.length_nil]; omega)⟩) (by exact ho)
    · (try subst hQz); exact te_next (by assumption) (by assumption) (by repeat' first | exact trivial | refine ⟨by k_mem, ?_⟩) (by repeat' first | exact trivial | refine ⟨rfl, ?_⟩) (⟨_, _, _, (by rw [du_out2 (by assumption)]; exact hI), (by rw [du_out2 (by assumption)]; omega)⟩) (by exact ho)
    · (try subst hQz); exact te_next (by assumption) (by assumption) (by repeat' first | exact trivial | refine ⟨by k_mem, ?_⟩) (by repeat' first | exact trivial | refine ⟨rfl, ?_⟩) (⟨_, _, _, (by rw [du_out (by assumption)]; exact hI), (by rw [du_out (by assumption)]; omega)⟩) (by exact ho)
    all_goals skip
  · (repeat ((with_reducible (rename News _ _ _ _ => zz)); clear zz)); (repeat ((with_reducible (rename Fr _ _ _ _ => zz)); clear zz)); (repeat ((with_reducible (rename IsRange _ _ _ _ _ _ _ _ => zz)); clear zz)); (repeat ((with_reducible (rename ((_ : Obj).data = Data.cell _) => zz)); clear zz)); (repeat ((with_reducible (rename (∀ (b : Addr) (o : Obj), Heap.get? _ b = some o → Heap.get? _ b = some o) => zz)); clear zz))
    rintro led pl u h tk ⟨l, vs, kk, hI, hlen⟩ F N
    change Fr h₀ L' h _ at F; change News h₀ L' h _ at N; (try dsimp only); (try k_fold)
    k_steps
    walk_at "my tidy"
    exact hret _ _ _ (Fr.keep (by k_asm)) (list_g (by k_asm) (by k_mem) hI rfl)

end
section --It1

structure In81 (P : Params) (h : Heap) (f c1 c2 c3 a : Addr) (cl : List (Str × Addr)) (n : Nat) : Prop where
  fn : ∃ qual doc pm c' ctv, h.get? f = some (fnMade (in81 P).1.1 qual (in81 P).1.2.1 (in81 P).1.2.2.1 (in81 P).1.2.2.2.1 cl doc pm c' ctv) ∧ h.CodeRec (.ref c') qual
  dg : ∃ o, h.get? c1 = some o ∧ o.data = .cell (some (.ref a))
  nn : ∃ o t, h.get? c2 = some o ∧ o.data = .cell (some (.int (n : Int) t))
  me : ∃ o, h.get? c3 = some o ∧ o.data = .cell (some (.ref f))
theorem In81.keeps {P : Params} {h h' : Heap} {f c1 c2 c3 a : Addr} {cl : List (Str × Addr)} {n : Nat} (x : In81 P h f c1 c2 c3 a cl n) (hk : ∀ b o, h.get? b = some o → h'.get? b = some o) : In81 P h' f c1 c2 c3 a cl n := by
  obtain ⟨⟨q, d, pm, c', ct, e1, e2⟩, ⟨o1, e3, e4⟩, ⟨o2, t, e5, e6⟩, ⟨o3, e7, e8⟩⟩ := x
  exact ⟨⟨q, d, pm, c', ct, hk _ _ e1, e2.keeps hk⟩, ⟨o1, hk _ _ e3, e4⟩, ⟨o2, t, hk _ _ e5, e6⟩, ⟨o3, hk _ _ e7, e8⟩⟩
theorem keepH {h₀ h : Heap} {L l : Addr} {m : Str → Option Value} (F : Fr h₀ L h m) (hl : h₀.get? l = none) : ∀ b o, h₀.get? b = some o → (hideAll h [l]).get? b = some o := fun b o e =>
  hideAll_get _ (F.keep b o e) fun q => by rw [List.mem_singleton.mp q, hl] at e; cases e
noncomputable def GivesL (l : Addr) (k : Nat) (ns : List Int) (_ : Heap) (_ : Value) (h' : Heap) : Prop := ∃ vs, h'.get? l = some (W.listOf (List.toArray vs) k) ∧ IntsAre vs ns
noncomputable def putD (n : Nat) (ns : List Int) (v x y : Int) : List Int := ns.take x.toNat ++ (digs n (y - x).toNat v ++ ns.drop y.toNat)
theorem sh_eq {x m : Int} {n : Nat} (h : x ≤ m) : ((m - x) * (n : Int)).toNat = (m - x).toNat * n := by
  have : ((m - x) * (n : Int)) = (((m - x).toNat * n : Nat) : Int) := by
    rw [Int.natCast_mul, Int.toNat_of_nonneg (by omega)]
  rw [this, Int.toNat_natCast]
theorem low_ok {v x m : Int} {n : Nat} (hv : 0 ≤ v) (h : x ≤ m) : 0 ≤ Builtin.bitXor v (v.fdiv (2 ^ ((m - x) * (n : Int)).toNat) * 2 ^ ((m - x) * (n : Int)).toNat) ∧ Builtin.bitXor v (v.fdiv (2 ^ ((m - x) * (n : Int)).toNat) * 2 ^ ((m - x) * (n : Int)).toNat) < 2 ^ ((m - x).toNat * n) := by
  rw [xor_low hv, sh_eq h]
  have p : (0 : Int) < 2 ^ ((m - x).toNat * n) := Int.pow_pos (by decide)
  exact ⟨Int.emod_nonneg _ (Int.ne_of_gt p), Int.emod_lt_of_pos _ p⟩
theorem up_ok {v x m y : Int} {n : Nat} (hv : 0 ≤ v) (hv2 : v < 2 ^ ((y - x).toNat * n)) (h : x ≤ m) (h' : m ≤ y) : 0 ≤ v.fdiv (2 ^ ((m - x) * (n : Int)).toNat) ∧ v.fdiv (2 ^ ((m - x) * (n : Int)).toNat) < 2 ^ ((y - m).toNat * n) := by
  have p : (0 : Int) < 2 ^ ((m - x).toNat * n) := Int.pow_pos (by decide)
  rw [sh_eq h, Int.fdiv_eq_ediv_of_nonneg _ (Int.le_of_lt p)]
  refine ⟨Int.ediv_nonneg hv (Int.le_of_lt p), Int.ediv_lt_of_lt_mul p ?_⟩
  rw [← Int.pow_add, ← Nat.add_mul, show (y - m).toNat + (m - x).toNat = (y - x).toNat by rw [tn_add h h', Nat.add_comm]]
  exact hv2
theorem pow_small {a : Int} {k : Nat} (h : 0 ≤ a ∧ a < 2 ^ k) (hk : k ≤ 200) : 0 ≤ a ∧ a < 2 ^ 200 := by
  refine ⟨h.1, Int.lt_of_lt_of_le h.2 ?_⟩
  have := Nat.pow_le_pow_right (show 0 < 2 by decide) hk
  exact_mod_cast this
theorem put_len {n : Nat} {ns : List Int} {v x y : Int} {N : Nat} (hN : ns.length = N) (hx : 0 ≤ x) (hxy : x ≤ y) (hy : y ≤ N) : (putD n ns v x y).length = N := by
  unfold putD
  have hyn : y.toNat ≤ ns.length := Int.toNat_le.mpr (by rw [hN]; exact hy)
  rw [List.length_append, List.length_append, digs_len, List.length_take, List.length_drop, Nat.min_eq_left (Nat.le_trans (Int.toNat_le_toNat hxy) hyn), ← Nat.add_assoc, tn_from hx hxy, Nat.add_sub_cancel' hyn, hN]
theorem put_one {n : Nat} {ns : List Int} {v x y : Int} {N : Nat} (hN : ns.length = N) (hx : 0 ≤ x) (h : x + 1 = y) (hy : y ≤ N) (hv : 0 ≤ v) (hv2 : v < 2 ^ ((y - x).toNat * n)) : ns.set x.toNat v = putD n ns v x y := by
  have e : (y - x).toNat = 1 := tn_one h
  rw [e, Nat.one_mul] at hv2
  unfold putD
  rw [e, tn_suc hx h]
  show _ = _ ++ ([v % 2 ^ n] ++ _)
  rw [Int.emod_eq_of_lt hv hv2, List.set_eq_take_append_cons_drop, if_pos (by omega)]
  rfl
theorem put_split {n : Nat} {ns : List Int} {v x m y : Int} {N : Nat} (hN : ns.length = N) (hx : 0 ≤ x) (h : x ≤ m) (h' : m ≤ y) (hy : y ≤ N) (hv : 0 ≤ v) :
    putD n (putD n ns (Builtin.bitXor v (v.fdiv (2 ^ ((m - x) * (n : Int)).toNat) * 2 ^ ((m - x) * (n : Int)).toNat)) x m) (v.fdiv (2 ^ ((m - x) * (n : Int)).toNat)) m y = putD n ns v x y := by
  have p : (0 : Int) < 2 ^ ((m - x).toNat * n) := Int.pow_pos (by decide)
  rw [xor_low hv, sh_eq h, Int.fdiv_eq_ediv_of_nonneg _ (Int.le_of_lt p)]
  unfold putD
  have l1 : (ns.take x.toNat).length = x.toNat := by rw [List.length_take, Nat.min_eq_left (Int.toNat_le.mpr (by rw [hN]; omega))]
  have l2 := digs_len n (m - x).toNat (v % 2 ^ ((m - x).toNat * n))
  rw [tn_add h h', digs_add]
  have t1 : (ns.take x.toNat ++ (digs n (m - x).toNat (v % 2 ^ ((m - x).toNat * n)) ++ ns.drop m.toNat)).take m.toNat = ns.take x.toNat ++ digs n (m - x).toNat (v % 2 ^ ((m - x).toNat * n)) := by
    rw [← List.append_assoc]
    exact List.take_left' (by rw [List.length_append, l1, l2]; exact tn_from hx h)
  have t2 : (ns.take x.toNat ++ (digs n (m - x).toNat (v % 2 ^ ((m - x).toNat * n)) ++ ns.drop m.toNat)).drop y.toNat = ns.drop y.toNat := by
    rw [← List.append_assoc, List.drop_append, List.drop_of_length_le (by rw [List.length_append, l1, l2, tn_from hx h]; exact Int.toNat_le_toNat h'), List.nil_append, List.length_append, l1, l2, List.drop_drop]
    congr 1
    rw [tn_from hx h]
    exact Nat.add_sub_cancel' (Int.toNat_le_toNat h')
  rw [t1, t2, List.append_assoc, List.append_assoc]
theorem reg_It1_1 : True := by
  (k_with "@callWith ref" => ((fail_if_success (k_extra "It1 off")); ((k_here; k_dflt (refine' callWith_F ?k1 ?_; (case k1 => exact fnAtB (by k_asm) (by assumption)); k_whole)))))
  (k_with "@FnAt" => ((fail_if_success (k_extra "It1 off")); ((k_dflt (exact fnAtB (by k_asm) (by assumption))))))
  (k_with "@eval Name" => ((fail_if_success (k_extra "It1 off")); ((k_here; k_dflt (refine' nameX_Fb ?F ?hc ?hv ?hd ?_ ?hk ?hx; (case hx => rfl); (case hk => rfl); (case F => k_asm); (case hc => assumption); (case hv => assumption); (case hd => assumption))))))
  exact True.intro
theorem inner81 (w : World) (f c1 c2 c3 a : Addr) (cl : List (Str × Addr)) (hc1 : cl.lookup (Str.ofString "a_digits") = some c1) (hc2 : cl.lookup (Str.ofString "n") = some c2) (hc3 : cl.lookup (Str.ofString "inner") = some c3)
    (k n N : Nat) (hn : n * N ≤ 200) (hl : N ≤ 200) : ∀ (fuel : Nat) (vs : List Value) (ns : List Int) (v x y : Int) (tv tx ty : Tok), IntsAre vs ns → ns.length = N → 0 ≤ v → v < 2 ^ ((y - x).toNat * n) → 0 ≤ x → x < y → y ≤ N → y - x ≤ 2 ^ fuel →
    Spec w f [.int v tv, .int x tx, .int y ty] (fuel + 2) (10 * fuel + 40) [(a, W.listOf vs.toArray k)] (fun h => In81 w.params h f c1 c2 c3 a cl n) (GivesL a k (putD n ns v x y)) := by
  w_top off
  intro fuel
  induction fuel with
  | zero =>
    intro vs ns v x y tv tx ty hI hN hv hv2 hx hxy hy hf
    unfold Spec; intro p loose mean mg mb dp un gd outer base h₀ s R B X T hkp hsz hled hdp hun hask hret; revert X; k_fill; intro X
    have hf1 : x + 1 = y := by (simp at hf; omega)
    have hl2 : ns.length ≤ 200 := hN ▸ hl
    have hy2 : y ≤ ns.length := hN ▸ hy
    obtain ⟨⟨q, d, pm, c', ct, e1, e2⟩, ⟨o1, e3, e4⟩, ⟨o2, t, e5, e6⟩, ⟨o3, e7, e8⟩⟩ := hask
    dsimp only [in81] at e1
    refine enterN T hkp hsz hled e1 rfl e2 (by ktr_room) (BindsTo.of_eq rfl) (locs rfl) ?_ rfl rfl rfl (by decide)
    intro L' h₁ F' N' hltL
    (try dsimp only)
    (try k_fold)
    k_steps
    · walk_at "my tidy"
      refine hret _ _ _ (Fr.keep (by k_asm)) ⟨_, News.get (by k_asm) (by k_mem), ?_⟩
      rw [← put_one hN hx hf1 hy hv hv2]; assumption
    · exact absurd hf1 (by assumption)
  | succ fuel ih =>
    intro vs ns v x y tv tx ty hI hN hv hv2 hx hxy hy hf
    unfold Spec; intro p loose mean mg mb dp un gd outer base h₀ s R B X T hkp hsz hled hdp hun hask hret; revert X; k_fill; intro X
    have hla : h₀.get? a = none := (hled _ (.head _)).2
    have hl2 : ns.length ≤ 200 := hN ▸ hl
    have hy2 : y ≤ ns.length := hN ▸ hy
    have hask' := hask
    obtain ⟨⟨q, d, pm, c', ct, e1, e2⟩, ⟨o1, e3, e4⟩, ⟨o2, t, e5, e6⟩, ⟨o3, e7, e8⟩⟩ := hask
    dsimp only [in81] at e1
    have m1 : 2 * (x + y).fdiv (2 ^ Int.toNat 1) ≤ x + y ∧ x + y < 2 * (x + y).fdiv (2 ^ Int.toNat 1) + 2 := by
      rw [show (2 : Int) ^ Int.toNat 1 = 2 from rfl, Int.fdiv_eq_ediv_of_nonneg _ (by decide)]; omega
    have hf2 : y - x ≤ 2 * 2 ^ fuel := by rw [Int.pow_succ, Int.mul_comm] at hf; exact hf
    have hs : x + 1 ≠ y → 0 ≤ ((x + y).fdiv (2 ^ Int.toNat 1) - x) * (n : Int) ∧ ((x + y).fdiv (2 ^ Int.toNat 1) - x) * (n : Int) ≤ 384 := fun hne => by
      have a3 : (n : Int) * (N : Int) ≤ 200 := by exact_mod_cast hn
      have a1 : 0 ≤ (x + y).fdiv (2 ^ Int.toNat 1) - x := by omega
      have a2 : (x + y).fdiv (2 ^ Int.toNat 1) - x ≤ (N : Int) := by omega
      have a4 := Int.mul_le_mul_of_nonneg_right a2 (show 0 ≤ (n : Int) by omega)
      rw [Int.mul_comm (N : Int)] at a4
      exact ⟨Int.mul_nonneg a1 (by omega), by omega⟩
    have hup : x + 1 ≠ y → _ := fun hne => up_ok (m := (x + y).fdiv (2 ^ Int.toNat 1)) (n := n) hv hv2 (by omega) (by omega)
    have hlow : x + 1 ≠ y → _ := fun hne => low_ok (v := v) (x := x) (m := (x + y).fdiv (2 ^ Int.toNat 1)) (n := n) hv (by omega)
    have hk200 : (y - (x + y).fdiv (2 ^ Int.toNat 1)).toNat * n ≤ 200 := by
      have a2 : (y - (x + y).fdiv (2 ^ Int.toNat 1)).toNat ≤ N := by omega
      have a4 := Nat.mul_le_mul_right n a2
      rw [Nat.mul_comm N] at a4
      omega
    refine enterN T hkp hsz hled e1 rfl e2 (by ktr_room) (BindsTo.of_eq rfl) (locs rfl) ?_ rfl rfl rfl (by decide)
    intro L' h₁ F' N' hltL
    (try dsimp only)
    (try k_fold)
    (k_with "@binaryOp RShift int int" => (fail_if_success (k_extra "It1 off"));  (first | with_reducible refine rshift_int (hs (by assumption)).1 ?_ | refine rshift_int (by decide) ?_))
    (k_with "@binaryOp LShift int int" => (fail_if_success (k_extra "It1 off"));  (refine lsh_ok (pow_small (hup (by assumption)) hk200) (hs (by assumption)) ?_))
    (k_with "@call ref" => (fail_if_success (k_extra "It1 off"));  (first
      | (refine' Spec.use1 (ih _ _ _ _ _ _ _ _ hI hN (hlow (by assumption)).1 (hlow (by assumption)).2 ?r1 ?r2 ?r3 ?r4) ?k1 ?k2 ?k3 ?k4 ?k5 ?kK ?kd ?ku ?U (hask'.keeps (keepH (by k_asm) hla)) ?_; walk_at "my prem"; (case U => k_updF); (case r1 => omega); (case r2 => omega); (case r3 => omega); (case r4 => omega); intro r9 h9 tk9 F9 M9 g9; obtain ⟨vs9, e9, i9⟩ := g9; (have N9 := (M9 _ e9).1); clear M9 e9; (try dsimp only at N9); (try dsimp only); (try k_fold))
      | (refine' Spec.use1 (ih _ _ _ _ _ _ _ _ (by assumption) (put_len hN hx ?r5 ?r6) (hup (by assumption)).1 (hup (by assumption)).2 ?r1 ?r2 ?r3 ?r4) ?k1 ?k2 ?k3 ?k4 ?k5 ?kK ?kd ?ku ?U (hask'.keeps (keepH (by k_asm) hla)) ?_; walk_at "my prem"; (case U => k_updF); (case r1 => omega); (case r2 => omega); (case r3 => omega); (case r4 => omega); (case r5 => omega); (case r6 => omega); intro r9 h9 tk9 F9 M9 g9; obtain ⟨vs9, e9, i9⟩ := g9; (have N9 := (M9 _ e9).1); clear M9 e9; (try dsimp only at N9); (try dsimp only); (try k_fold))))
    k_steps
    · walk_at "my tidy"
      refine hret _ _ _ (Fr.keep (by k_asm)) ⟨_, News.get (by k_asm) (by k_mem), ?_⟩
      rw [← put_one hN hx (by assumption) hy hv hv2]; assumption
    · walk_at "my tidy"
      refine hret _ _ _ (Fr.keep (by k_asm)) ⟨_, News.get (by k_asm) (by k_mem), ?_⟩
      rw [← put_split (m := (x + y).fdiv (2 ^ Int.toNat 1)) hN hx (by omega) (by omega) hy hv]; assumption
    all_goals skip
theorem off_It1 : True := by
  (k_with "It1 off" => skip)
  exact True.intro

end
section --It2

noncomputable def q81 : Str := Str.ofString "_int2digits.<locals>.inner"
noncomputable abbrev mOf (v : Int) (n : Nat) : Int := (((Builtin.Int.intBits v : Nat) : Int) + (n : Int) - 1).fdiv (n : Int)
theorem nat_lt_pow {a k : Nat} (h : (a : Int) < 2 ^ k) : a < 2 ^ k := by exact_mod_cast h
theorem m_ok {v : Int} {n : Nat} (hv : 0 < v) (hv2 : v < 2 ^ 180) (hn : 0 < n) : 1 ≤ mOf v n ∧ mOf v n ≤ 180 ∧ mOf v n * n ≤ 180 + n - 1 ∧ v < 2 ^ ((mOf v n).toNat * n) := by
  have h1 : Builtin.Int.intBits v ≤ 180 := intBits_le_iff.mpr (nat_lt_pow (by omega))
  have h0 : 1 ≤ Builtin.Int.intBits v := by unfold Builtin.Int.intBits; rw [if_neg (by simp; omega)]; omega
  have h3 : v.natAbs < 2 ^ Builtin.Int.intBits v := intBits_le_iff.mp (Nat.le_refl _)
  have hd := Int.emod_add_mul_ediv (((Builtin.Int.intBits v : Nat) : Int) + (n : Int) - 1) (n : Int)
  have hl := Int.emod_lt_of_pos (((Builtin.Int.intBits v : Nat) : Int) + (n : Int) - 1) (show (0 : Int) < n by omega)
  have hz := Int.emod_nonneg (((Builtin.Int.intBits v : Nat) : Int) + (n : Int) - 1) (show (n : Int) ≠ 0 by omega)
  have e : mOf v n = (((Builtin.Int.intBits v : Nat) : Int) + (n : Int) - 1) / (n : Int) := Int.fdiv_eq_ediv_of_nonneg _ (by omega)
  rw [← e] at hd
  have p1 : 1 ≤ mOf v n := by
    rw [e]
    exact Int.le_ediv_of_mul_le (by omega) (by omega)
  have c := Int.mul_comm (n : Int) (mOf v n)
  have p3 : mOf v n * 1 ≤ mOf v n * n := Int.mul_le_mul_of_nonneg_left (by omega) (by omega)
  refine ⟨p1, ?_, by omega, ?_⟩
  · rw [e]
    have : ((Builtin.Int.intBits v : Nat) : Int) + (n : Int) - 1 < 181 * n := by
      have : (1 : Int) ≤ n := by omega
      omega
    have := Int.ediv_lt_of_lt_mul (show (0 : Int) < n by omega) this
    omega
  · have h5 : Builtin.Int.intBits v ≤ (mOf v n).toNat * n := by
      have : (((mOf v n).toNat * n : Nat) : Int) = mOf v n * n := by rw [Int.natCast_mul, Int.toNat_of_nonneg (by omega)]
      omega
    have h6 := Nat.lt_of_lt_of_le h3 (Nat.pow_le_pow_right (show 0 < 2 by decide) h5)
    have : (v.natAbs : Int) < 2 ^ ((mOf v n).toNat * n) := by exact_mod_cast h6
    omega
theorem pin {a : Addr} {o : Obj} {P : Prop} (d : o.data = .cell (some (.ref a))) (h : ∀ b, b = a → P) : P := h a rfl
theorem hide_get {h₀ h : Heap} {L a b : Addr} {o : Obj} {news : List (Addr × Obj)} (N : News h₀ L h news) (hm : (b, o) ∈ news) (hb : b ≠ a) : (hideAll h [a]).get? b = some o :=
  hideAll_get _ (N.get hm) fun q => hb (List.mem_singleton.mp q)
theorem put_all {n : Nat} {ns : List Int} {v : Int} {N : Nat} (hN : ns.length = N) : putD n ns v 0 N = digs n N v := by
  unfold putD
  rw [show ((N : Int) - 0).toNat = N by omega, show (0 : Int).toNat = 0 from rfl, show (N : Int).toNat = N by omega, List.drop_of_length_le (by omega)]
  simp
theorem m_n1 {M : Int} {n N : Nat} (h : (N : Int) = ((0 + 1 : Nat) : Int) * M) (h1 : 1 ≤ M) (h3 : M * n ≤ 180 + n - 1) (hn : n ≤ 12) : n * N ≤ 200 := by
  have e : (N : Int) = M := by rw [h]; simp
  have : ((n * N : Nat) : Int) = M * n := by rw [Int.natCast_mul, e, Int.mul_comm]
  omega
theorem m_n2 {M : Int} {N : Nat} {n : Nat} (h : (N : Int) = ((0 + 1 : Nat) : Int) * M) (h1 : 1 ≤ M) : ((N : Int) - 0).toNat * n = M.toNat * n := by
  have e : (N : Int) = M := by rw [h]; simp
  rw [e, Int.sub_zero]
theorem m_n3 {M : Int} {N : Nat} (h : (N : Int) = ((0 + 1 : Nat) : Int) * M) (h1 : 1 ≤ M) : N = M.toNat := by
  have e : (N : Int) = M := by rw [h]; simp
  omega
theorem int_first (w : World) (v : Int) (n : Nat) (tv t : Tok) (hv : 0 < v) (hv2 : v < 2 ^ 180) (hn : 0 < n ∧ n ≤ 12) :
    Spec w 81 [.int v tv, .int (n : Int) t] 20 300 [(76, tabObj #[])] (fun h => True) (fun h r h' => ListG (digs n (mOf v n).toNat v) h r h' ∧ ∃ c', TabIn 76 39 4 q81 h' c' ∧ h.get? c' = none ∧ c' ≠ 76) := by
  obtain ⟨m1, m2, m3, m4⟩ := m_ok hv hv2 hn.1
  dsimp only [mOf] at m1 m2 m3 m4
  w_top off; unfold Spec; intro p loose mean mg mb dp un gd outer base h₀ s R B X T hkp hsz hled hdp hun hask hret; revert X; k_fill; intro X; k_dflt (walk_at "my enterC"); intro L' h₁ tk' cells' F' N' Y' hltL; k_cells Y'; (try simp only [List.cons_append, List.nil_append] at N'); (try dsimp only); (try k_fold)
  have CH : CodeHd h₀ 80 76 := codeHd_of_K X (by kernel_rfl)
  have h83 : @LT.lt Nat instLTNat 76 L' := hltL _ (.head _)
  k_steps
  · (rename ((_ : Obj).data = Data.cell (some (Value.ref _))) => dI)
    revert dI
    (rename ((_ : Obj).data = Data.cell (some (Value.ref _))) => dA)
    intro dI
    refine pin dA fun la hla => ?_
    subst hla
    (rename Fr _ _ _ _ => lF'); (rename News _ _ _ _ => lN')
    (rename (List.flatten (List.replicate _ [(0 : Int)])).length = _ => hlen)
    (rename IntsAre _ _ => hii)
    (rename (0 ≤ _ → _ = _) => hn1)
    have hm1 := hn1 (by omega)
    clear hn1
    refine' Spec.use1 (P := la) (inner81 w _ _ _ _ la _ ?q1 ?q2 ?q3 0 n _ ?n1 ?n2 8 _ _ v 0 _ _ _ _ hii hlen (by omega) ?v2 (by decide) ?p1 (Int.le_refl _) ?p2) ?k1 ?k2 ?k3 ?k4 ?k5 ?kK ?kd ?ku ?U ⟨?fn, ?dg, ?nn, ?me⟩ ?_
    (walk_at "my prem")
    (case U => k_updF)
    (case fn => exact ⟨_, _, _, _, _, hide_get lN' (by k_mem) (by k_ne), ⟨_, _, _, _, rfl, hide_get lN' (by k_mem) (by k_ne), by assumption, by assumption⟩⟩)
    (case q1 => rfl)
    (case q2 => rfl)
    (case q3 => rfl)
    (case dg => exact ⟨_, hide_get lN' (by k_mem) (by k_ne), dA⟩)
    (case nn => exact ⟨_, _, hide_get lN' (by k_mem) (by k_ne), by assumption⟩)
    (case me => exact ⟨_, hide_get lN' (by k_mem) (by k_ne), dI⟩)
    (case p1 => omega)
    (case p2 => omega)
    (case n2 => omega)
    (case n1 => exact m_n1 hm1 m1 m3 hn.2)
    (case v2 => rw [m_n2 hm1 m1]; exact m4)
    (intro r9 h9 tk9 F9 M9 g9; obtain ⟨vs9, e9, i9⟩ := g9; (have N9 := (M9 _ e9).1); clear M9 e9; (try dsimp only at N9); (try dsimp only); (try k_fold))
    rw [put_all hlen, m_n3 hm1 m1] at i9
    k_steps
    walk_at "my tidy"
    refine hret _ _ _ (Fr.keep (by k_asm)) ⟨list_g (by k_asm) (by k_mem) i9 rfl, _, ⟨_, _, _, News.get (by k_asm) (by k_mem), News.get (by k_asm) (by k_mem), by assumption, by assumption⟩, News.fresh (by k_asm) (by k_mem), Nat.ne_of_gt ?_⟩
    omega
  · exact absurd (by assumption : v = 0) (by omega)
theorem int_hit (w : World) (v : Int) (n : Nat) (c' : Addr) (tv t : Tok) (hv : 0 < v) (hv2 : v < 2 ^ 180) (hn : 0 < n ∧ n ≤ 12) :
    Spec w 81 [.int v tv, .int (n : Int) t] 20 300 [] (fun h => TabIn 76 39 4 q81 h c') (ListG (digs n (mOf v n).toNat v)) := by
  obtain ⟨m1, m2, m3, m4⟩ := m_ok hv hv2 hn.1
  dsimp only [mOf] at m1 m2 m3 m4
  w_top off; unfold Spec; intro p loose mean mg mb dp un gd outer base h₀ s R B X T hkp hsz hled hdp hun hask hret; revert X; k_fill; intro X; k_dflt (walk_at "my enterC"); intro L' h₁ tk' cells' F' N' Y' hltL; k_cells Y'; (try simp only [List.cons_append, List.nil_append] at N'); (try dsimp only); (try k_fold)
  obtain ⟨oc, vs', tq, t1, t2, t3, t4⟩ := hask
  have CH : CodeHd h₀ 80 76 := codeHd_of_K X (by kernel_rfl)
  (k_with "@exec FunctionDef" => (fail_if_success (k_extra "It2 off"));  (refine' nestDef_K ?d0 ?k0 ?a0 ?_; (case d0 => exact rfl); (case k0 => exact rfl); (case a0 => exact rfl); refine' nestHitB ?F ?N ?T CH ?cd t1 ?t ?n ?cl ?_; (case F => k_asm); (case N => k_asm); (case T => k_asm); (case cd => exact rfl); (case t => kn_triples); (case n => kn_hit); (case cl => exact rfl); k_whole; intro f' ct' dc' h' tk' F' N' l1; (try dsimp only at N'); (try k_lt l1)))
  k_steps
  · (rename ((_ : Obj).data = Data.cell (some (Value.ref _))) => dI)
    revert dI
    (rename ((_ : Obj).data = Data.cell (some (Value.ref _))) => dA)
    intro dI
    refine pin dA fun la hla => ?_
    subst hla
    (rename Fr _ _ _ _ => lF'); (rename News _ _ _ _ => lN')
    (rename (List.flatten (List.replicate _ [(0 : Int)])).length = _ => hlen)
    (rename IntsAre _ _ => hii)
    (rename (0 ≤ _ → _ = _) => hn1)
    have hm1 := hn1 (by omega)
    clear hn1
    refine' Spec.use1 (P := la) (inner81 w _ _ _ _ la _ ?q1 ?q2 ?q3 0 n _ ?n1 ?n2 8 _ _ v 0 _ _ _ _ hii hlen (by omega) ?v2 (by decide) ?p1 (Int.le_refl _) ?p2) ?k1 ?k2 ?k3 ?k4 ?k5 ?kK ?kd ?ku ?U ⟨?fn, ?dg, ?nn, ?me⟩ ?_
    (walk_at "my prem")
    (case U => k_updF)
    (case fn => exact ⟨_, _, _, _, _, hide_get lN' (by k_mem) (by k_ne), ⟨_, _, _, _, rfl, keepH (by k_asm) (News.fresh lN' (by k_mem)) _ _ t2, t3, t4⟩⟩)
    (case q1 => rfl)
    (case q2 => rfl)
    (case q3 => rfl)
    (case dg => exact ⟨_, hide_get lN' (by k_mem) (by k_ne), dA⟩)
    (case nn => exact ⟨_, _, hide_get lN' (by k_mem) (by k_ne), by assumption⟩)
    (case me => exact ⟨_, hide_get lN' (by k_mem) (by k_ne), dI⟩)
    (case p1 => omega)
    (case p2 => omega)
    (case n2 => omega)
    (case n1 => exact m_n1 hm1 m1 m3 hn.2)
    (case v2 => rw [m_n2 hm1 m1]; exact m4)
    (intro r9 h9 tk9 F9 M9 g9; obtain ⟨vs9, e9, i9⟩ := g9; (have N9 := (M9 _ e9).1); clear M9 e9; (try dsimp only at N9); (try dsimp only); (try k_fold))
    rw [put_all hlen, m_n3 hm1 m1] at i9
    k_steps
    walk_at "my tidy"
    exact hret _ _ _ (Fr.keep (by k_asm)) (list_g (by k_asm) (by k_mem) i9 rfl)
  · exact absurd (by assumption : v = 0) (by omega)
theorem off_It2 : True := by
  (k_with "It2 off" => skip)
  exact True.intro

end
section --Rv

section
variable {prog : Program} {w : World} {A : Around} {E : Value → Shared → Prop} {s : Shared} {env : Env} {h₀ : Heap} {x : Str} {px : Pos} {body orelse : List Stmt} {Q : Flow → Shared → Prop}
theorem my_rev {I l : Addr} {vs : List Value} {k : Nat} {m : Str → Option Value} {led : List (Addr × Obj)} (pl : List (Str × Value)) (Inv : Nat → List (Addr × Obj) → List (Str × Value) → Prop)
    (hh : A.handled = none) (hl : (l, listOf vs.toArray k) ∈ led) (hkp : ∀ i led pl, Inv i led pl → (l, listOf vs.toArray k) ∈ led)
    (F : Fr h₀ env.locals s.heap m) (N : News h₀ env.locals s.heap ((I, revObj l ((vs.length : Int) - 1)) :: led)) (hoff : LCg.Off1 I led) (hp : AllAt m pl) (hi : Inv 0 led pl)
    (turn : ∀ i v led pl u o h tk, i < vs.length → vs[vs.length - 1 - i]? = some v → Inv i led pl → LCg.Off1 I led → Fr h₀ env.locals h (kstB u pl) → News h₀ env.locals h ((I, o) :: led) →
      wpAny (model prog w) A (assign (.Name x px) env v) (fun _ s₂ => wpAny (model prog w) A (execs body env) (TE h₀ env.locals s (I, o) (Inv (i + 1)) Q) E s₂) E { s with heap := h, toks := tk })
    (done : ∀ led pl u h tk, Inv vs.length led pl → Fr h₀ env.locals h (kstB u pl) → News h₀ env.locals h led → wpAny (model prog w) A (execs orelse env) Q E { s with heap := h, toks := tk })
    (hE : PassesOwn (model prog w) A env E := by passes_own) :
    wpAny (model prog w) A (pyIter (.ref I)) (fun it s₂ => MyLoop prog w A h₀ env x px body orelse Q E it s₂) E s := by
  have NI := N _ (.head _)
  have Nl : News h₀ env.locals s.heap led := fun p hp => N p (.tail _ hp)
  have hol : s.heap.get? l = some (listOf vs.toArray k) := (Nl _ hl).1
  have hls : s.heap.IsList l vs.toArray := ⟨_, hol, rfl, k, rfl⟩
  have hne : l ≠ I := off1_ne hoff _ hl
  have hit : s.heap.IsRevIter I l ((vs.length : Int) - 1) := ⟨_, NI.1, rfl, rfl⟩
  refine wpAny_pyIter_revIter hit ?_
  have W := Walks.listRev (prog := prog) (w := w) hh I l hne vs.toArray
  have e : vs.toArray.size = vs.length := by simp
  rw [e] at W
  refine loop_my [(l, listOf vs.toArray k)] Inv W (fun b hb => ?_) (fun i led pl hJ p hp => (List.mem_singleton.mp hp) ▸ hkp i led pl hJ) (fun i h hs => ?_) NI.2.2 NI.2.1 ⟨Nat.zero_le _, by simpa using hit, hls⟩ F Nl hoff hp hi hE ?_ ?_
  · rcases List.mem_cons.mp hb with rfl | hb
    · exact .inl rfl
    · rw [List.mem_singleton.mp hb]; exact .inr (.inr ⟨_, List.Mem.head _⟩)
  · obtain ⟨_, ⟨o, ho, _⟩, _⟩ := hs
    exact ⟨o, ho⟩
  · intro i v led pl u o h tk hi hv hJ ho F₁ N₁
    exact turn i v led pl u o h tk hi (by simpa using hv) hJ ho F₁ N₁
  · exact fun led pl u h tk hJ F₁ N₁ => done led pl u h tk hJ F₁ N₁
end

end
section --Dm1

theorem div2_spec (w : World) (a b n : Int) (ta tb tn : Tok) (ha : 0 ≤ a ∧ a < 2 ^ 200) (hb : 0 < b ∧ b ≤ 16) (hn : 0 ≤ n) : Spec w 67 [.int a ta, .int b tb, .int n tn] 4 40 [] (fun _ => True) (PairG (a.fdiv b) (a.fmod b)) := by
  have h2 : (a.natAbs : Int) < 2 ^ 200 := by omega
  have h1 : Builtin.Int.intBits a ≤ 200 := intBits_le_iff.mpr (nat_lt_pow h2)
  w_top off; unfold Spec; intro p loose mean mg mb dp un gd outer base h₀ s R B X T hkp hsz hled hdp hun hask hret; revert X; k_fill; intro X; k_dflt (walk_at "my enter"); intro L' h₁ tk' F' N' hltL; (try dsimp only); (try k_fold)
  (k_with "@call builtin:divmod" => (fail_if_success (k_extra "Dm1 off"));  (refine divmod_N (by k_asm) (by k_asm) (by omega) ?_ (Or.inl (PyProof.noPylong_small (by omega))); intro h' F' N'; (try dsimp only)))
  k_steps
  walk_at "my tidy"
  (rename Fr _ _ _ _ => lF'); (rename News _ _ _ _ => lN')
  exact hret _ _ _ lF'.keep ⟨_, _, _, _, rfl, lN'.fresh (by k_mem), lN'.get (by k_mem)⟩
theorem TabIn.keeps {P : Addr} {ln col : Int} {qual : Str} {h h' : Heap} {c' : Addr} (x : TabIn P ln col qual h c') (hk : ∀ b o, h.get? b = some o → h'.get? b = some o) : TabIn P ln col qual h' c' := by
  obtain ⟨oc, vs, t, e1, e2, e3, e4⟩ := x
  exact ⟨oc, vs, t, hk _ _ e1, hk _ _ e2, e3, e4⟩
noncomputable def ldv (n : Nat) (b : Int) : List Int → Int × List Int
  | [] => (0, [])
  | d :: r => (((ldv n b r).1 * 2 ^ (n : Int).toNat + d).fmod b, ((ldv n b r).1 * 2 ^ (n : Int).toNat + d).fdiv b :: (ldv n b r).2)
theorem ldv_ok {n : Nat} {b : Int} (hb : 0 < b) : ∀ {ds : List Int}, (∀ d ∈ ds, 0 ≤ d ∧ d < 2 ^ n) → 0 ≤ (ldv n b ds).1 ∧ (ldv n b ds).1 < b ∧ (∀ q ∈ (ldv n b ds).2, 0 ≤ q ∧ q < 2 ^ n) ∧ (ldv n b ds).2.length = ds.length ∧ d2 n ds = d2 n (ldv n b ds).2 * b + (ldv n b ds).1
  | [], _ => ⟨Int.le_refl _, hb, (fun _ h => nomatch h), rfl, (by simp [ldv, d2])⟩
  | d :: r, h => by
    obtain ⟨h1, h2, h3, h4, h5⟩ := ldv_ok (n := n) hb (ds := r) fun x hx => h x (.tail _ hx)
    obtain ⟨d0, d1⟩ := h d (.head _)
    have p : (0 : Int) < 2 ^ n := Int.pow_pos (by decide)
    have z : 0 ≤ (ldv n b r).1 * 2 ^ n := Int.mul_nonneg h1 (Int.le_of_lt p)
    have z2 : ((ldv n b r).1 + 1) * 2 ^ n ≤ b * 2 ^ n := Int.mul_le_mul_of_nonneg_right h2 (Int.le_of_lt p)
    rw [Int.add_mul, Int.one_mul] at z2
    have e : (n : Int).toNat = n := Int.toNat_natCast n
    simp only [ldv, e]
    rw [Int.fmod_eq_emod_of_nonneg _ (Int.le_of_lt hb), Int.fdiv_eq_ediv_of_nonneg _ (Int.le_of_lt hb)]
    refine ⟨Int.emod_nonneg _ (Int.ne_of_gt hb), Int.emod_lt_of_pos _ hb, fun q hq => ?_, by rw [List.length_cons, List.length_cons, h4], ?_⟩
    · rcases List.mem_cons.mp hq with rfl | hq
      · refine ⟨Int.ediv_nonneg (by omega) (Int.le_of_lt hb), Int.ediv_lt_of_lt_mul hb ?_⟩
        rw [Int.mul_comm (2 ^ n)]; omega
      · exact h3 q hq
    · have hd := Int.emod_add_mul_ediv ((ldv n b r).1 * 2 ^ n + d) b
      simp only [d2]
      rw [h5, Int.add_mul, Int.mul_assoc]
      rw [Int.mul_comm b] at hd
      rw [Int.mul_add, Int.mul_comm (2 ^ n) (ldv n b r).1]
      omega
theorem d2_digs (n : Nat) : ∀ (m : Nat) (v : Int), 0 ≤ v → v < 2 ^ (m * n) → d2 n (digs n m v) = v
  | 0, v, h0, h1 => by simp at h1; simp [digs, d2]; omega
  | m + 1, v, h0, h1 => by
    have p : (0 : Int) < 2 ^ n := Int.pow_pos (by decide)
    have e : (2 : Int) ^ ((m + 1) * n) = 2 ^ (m * n) * 2 ^ n := by rw [Nat.add_mul, Nat.one_mul, Int.pow_add]
    rw [e] at h1
    rw [digs, d2, d2_digs n m (v / 2 ^ n) (Int.ediv_nonneg h0 (Int.le_of_lt p)) (Int.ediv_lt_of_lt_mul p h1)]
    have := Int.emod_add_mul_ediv v (2 ^ n)
    exact this
theorem digs_mem (n : Nat) : ∀ (m : Nat) (v : Int), ∀ d ∈ digs n m v, 0 ≤ d ∧ d < 2 ^ n
  | 0, _, _, h => nomatch h
  | m + 1, v, d, h => by
    have p : (0 : Int) < 2 ^ n := Int.pow_pos (by decide)
    rcases List.mem_cons.mp h with rfl | h
    · exact ⟨Int.emod_nonneg _ (Int.ne_of_gt p), Int.emod_lt_of_pos _ p⟩
    · exact digs_mem n m _ d h
theorem drop_step {ds : List Int} {i : Nat} (h : i < ds.length) : ds.drop (ds.length - (i + 1)) = ds.getD (ds.length - 1 - i) 0 :: ds.drop (ds.length - i) := by
  have hl : ds.length - (i + 1) < ds.length := by omega
  rw [List.drop_eq_getElem_cons hl, show ds.length - 1 - i = ds.length - (i + 1) by omega, show ds.length - (i + 1) + 1 = ds.length - i by omega]
  simp [hl]
theorem bits16 {b : Int} (hb : 0 < b ∧ b ≤ 16) : 0 < Builtin.Int.intBits b ∧ Builtin.Int.intBits b ≤ 5 := by
  have h0 : 0 < Builtin.Int.intBits b := by unfold Builtin.Int.intBits; rw [if_neg (by simp; omega)]; omega
  exact ⟨h0, intBits_le_iff.mpr (by omega)⟩
theorem ldv_step {n : Nat} {b : Int} {ds : List Int} {i : Nat} (h : i < ds.length) : ldv n b (ds.drop (ds.length - (i + 1))) = (((ldv n b (ds.drop (ds.length - i))).1 * 2 ^ (n : Int).toNat + ds.getD (ds.length - 1 - i) 0).fmod b, ((ldv n b (ds.drop (ds.length - i))).1 * 2 ^ (n : Int).toNat + ds.getD (ds.length - 1 - i) 0).fdiv b :: (ldv n b (ds.drop (ds.length - i))).2) := by
  rw [drop_step h, ldv]
theorem ints_rev : ∀ {vs : List Value} {ns : List Int}, IntsAre vs ns → IntsAre vs.reverse ns.reverse
  | _, _, .nil => .nil
  | _, _, .cons n t h => by
    rw [List.reverse_cons, List.reverse_cons]
    exact IntsAre.append (ints_rev h) (.cons n t .nil)
theorem ldv_div {a b q r : Int} (hb : 0 < b) (h0 : 0 ≤ r) (h1 : r < b) (h : a = q * b + r) : q = a.fdiv b ∧ r = a.fmod b := by
  rw [Int.fdiv_eq_ediv_of_nonneg _ (Int.le_of_lt hb), Int.fmod_eq_emod_of_nonneg _ (Int.le_of_lt hb), h]
  rw [Int.add_comm, Int.add_mul_ediv_right _ _ (Int.ne_of_gt hb), Int.ediv_eq_zero_of_lt h0 h1, Int.add_mul_emod_self_right, Int.emod_eq_of_lt h0 h1]
  simp
theorem ldv_sm {n : Nat} {r b d : Int} (r0 : 0 ≤ r) (r1 : r < b) (hb : b ≤ 16) (hn : n ≤ 5) (d0 : 0 ≤ d) (d1 : d < 2 ^ n) : 0 ≤ r * 2 ^ (n : Int).toNat + d ∧ r * 2 ^ (n : Int).toNat + d < 2 ^ 200 := by
  rw [Int.toNat_natCast]
  have p : (0 : Int) < 2 ^ n := Int.pow_pos (by decide)
  have p2 : (2 : Int) ^ n ≤ 32 := by
    have := Nat.pow_le_pow_right (show 0 < 2 by decide) hn
    have h2 : ((2 ^ n : Nat) : Int) ≤ ((2 ^ 5 : Nat) : Int) := by exact_mod_cast this
    simpa using h2
  have z : 0 ≤ r * 2 ^ n := Int.mul_nonneg r0 (Int.le_of_lt p)
  have z2 : r * 2 ^ n ≤ 16 * 32 := Int.mul_le_mul (by omega) p2 (Int.le_of_lt p) (by decide)
  omega
theorem ldv_pl {n : Nat} {b q r : Int} {e : List Int} {Q : List Int} {l : Addr} {tb tn tr : Tok} (h : ldv n b e = (r, q :: Q)) : [(Str.ofString "b", Value.int b tb), (Str.ofString "n", Value.int (n : Int) tn), (Str.ofString "r", Value.int r tr), (Str.ofString "q_digits", Value.ref l)] = [(Str.ofString "b", Value.int b tb), (Str.ofString "n", Value.int (n : Int) tn), (Str.ofString "r", Value.int (ldv n b e).1 tr), (Str.ofString "q_digits", Value.ref l)] := by rw [h]
theorem ldv_push {ws : Array Value} {Q : List Int} {q : Int} {t : Tok} (h : IntsAre ws.toList Q.reverse) : IntsAre (ws.push (.int q t)).toList (q :: Q).reverse := by
  rw [List.reverse_cons]
  exact ints_push h
noncomputable def InvQ (vs : List Value) (ds : List Int) (n : Nat) (b : Int) (la : Addr) (k : Nat) (tb tn : Tok) (i : Nat) (led : List (Addr × Obj)) (pl : List (Str × Value)) : Prop :=
  ∃ l ws kk tr, led = [(l, W.listOf ws kk), (la, W.listOf vs.toArray k)] ∧ pl = [(Str.ofString "b", Value.int b tb), (Str.ofString "n", Value.int (n : Int) tn), (Str.ofString "r", Value.int (ldv n b (ds.drop (ds.length - i))).1 tr), (Str.ofString "q_digits", Value.ref l)] ∧ IntsAre ws.toList (ldv n b (ds.drop (ds.length - i))).2.reverse ∧ @LT.lt Nat instLTNat la l ∧ ws.size ≤ i
theorem dpos_spec (w : World) (a b : Int) (c1 c2 : Addr) (ta tb : Tok) (ha : 0 < a ∧ a < 2 ^ 100) (hb : 0 < b ∧ b ≤ 16) : Spec w 95 [.int a ta, .int b tb] 30 400 [] (fun h => TabIn 76 39 4 q81 h c1 ∧ TabIn 83 54 4 q88 h c2) (PairG (a.fdiv b) (a.fmod b)) := by
  obtain ⟨b1, b2⟩ := bits16 hb
  have ha2 : a < 2 ^ 180 := by omega
  w_top off; unfold Spec; intro p loose mean mg mb dp un gd outer base h₀ s R B X T hkp hsz hled hdp hun hask hret; revert X; k_fill; intro X; k_dflt (walk_at "my enter"); intro L' h₁ tk' F' N' hltL; (try dsimp only); (try k_fold)
  obtain ⟨hask1, hask2⟩ := hask
  (k_with "@call ref" => (fail_if_success (k_extra "Dm1 off"));  (refine' Spec.use (int_hit w a (Builtin.Int.intBits b) c1 _ _ ha.1 ha2 ⟨b1, by omega⟩) ?k1 ?k2 ?k3 ?k4 ?k5 ?kK ?kd ?ku (hask1.keeps (Fr.keep (by k_asm))) ?_; walk_at "my prem"; intro r9 h9 tk9 F9 N9 g9; obtain ⟨l9, vs9, k9, e9, g8, g7, i9⟩ := g9; subst e9; (have N8 := news_add (by k_asm) (by k_asm) N9 g8 g7); clear N9; obtain ⟨N9, o9⟩ := N8; clear g8 g7; (try dsimp only); (try k_fold)))
  k_steps
  obtain ⟨m1, m2, m3, m4⟩ := m_ok ha.1 ha2 b1
  have hds := digs_mem (Builtin.Int.intBits b) (mOf a (Builtin.Int.intBits b)).toNat a
  have hdl := digs_len (Builtin.Int.intBits b) (mOf a (Builtin.Int.intBits b)).toNat a
  have hda := d2_digs (Builtin.Int.intBits b) (mOf a (Builtin.Int.intBits b)).toNat a (Int.le_of_lt ha.1) m4
  have hvl := i9.length
  generalize hN : Builtin.Int.intBits b = N at *
  generalize hD : digs N (mOf a N).toNat a = ds at *
  have hl180 : ds.length ≤ 180 := by omega
  have hl1 : 0 < ds.length := by omega
  have hNl : N * ds.length ≤ 200 := by
    rw [hdl]
    have : ((N * (mOf a N).toNat : Nat) : Int) = mOf a N * N := by rw [Int.natCast_mul, Int.toNat_of_nonneg (by omega), Int.mul_comm]
    omega
  (rename Fr _ _ _ _ => lF')
  (rename News _ _ _ _ => lN')
  (with_unfolding_all refine my_rev _ (InvQ vs9 ds N b l9 k9 tb _) (by rfl) (.tail _ (.head _)) (fun i led pl hJ => (by obtain ⟨l, ws, kk, tr, rfl, _⟩ := hJ; exact .tail _ (.head _))) lF' lN' ⟨by k_ne, by k_ne, trivial⟩ (show AllAt _ [(Str.ofString "b", _), (Str.ofString "n", _), (Str.ofString "r", _), (Str.ofString "q_digits", _)] from ⟨rfl, rfl, rfl, rfl, trivial⟩) ⟨_, _, _, _, rfl, (by rw [Nat.sub_zero, List.drop_length]; rfl), (by rw [Nat.sub_zero, List.drop_length]; exact IntsAre.nil), (by omega), Nat.le_refl _⟩ ?_ ?_)
  · (repeat ((with_reducible (rename News _ _ _ _ => zz)); clear zz)); (repeat ((with_reducible (rename Fr _ _ _ _ => zz)); clear zz)); (repeat ((with_reducible (rename IsRange _ _ _ _ _ _ _ _ => zz)); clear zz)); (repeat ((with_reducible (rename ((_ : Obj).data = Data.cell _) => zz)); clear zz)); (repeat ((with_reducible (rename (∀ (b : Addr) (o : Obj), Heap.get? _ b = some o → Heap.get? _ b = some o) => zz)); clear zz))
    rintro i v led pl u o h tk hi hv ⟨l, ws, kk, tr, rfl, rfl, hI, hlt, hsz⟩ ho F N'
    obtain ⟨d, td, rfl, hd⟩ := IntsAre.at i9 _ _ hv
    rw [hvl] at hi hd
    have hd0 : ds.getD (ds.length - 1 - i) 0 = d := by rw [List.getD_eq_getElem?_getD, hd]; rfl
    obtain ⟨r0, r1, r2, r3, r4⟩ := ldv_ok (n := N) (b := b) hb.1 (ds := ds.drop (ds.length - i)) fun x hx => hds x (List.mem_of_mem_drop hx)
    obtain ⟨d0, d1⟩ := hds d (List.mem_of_getElem? hd)
    have hst := ldv_step (n := N) (b := b) hi
    rw [hd0] at hst
    have hx := ldv_sm (n := N) r0 r1 hb.2 b2 d0 d1
    change Fr h₀ L' h _ at F; change News h₀ L' h _ at N'; simp only [kstB] at F; (try dsimp only); (try k_fold)
    (k_with "@binaryOp LShift int int" => (fail_if_success (k_extra "Dm1 off"));  (refine lsh_ok ⟨r0, by omega⟩ ⟨by omega, by omega⟩ ?_))
    (k_with "@call ref" => (fail_if_success (k_extra "Dm1 off"));  (refine' Spec.use (div2_spec w _ _ _ _ _ _ hx hb (by omega)) ?k1 ?k2 ?k3 ?k4 ?k5 ?kK ?kd ?ku trivial ?_; walk_at "my prem"; intro r9 h9 tk9 F9 N9 g9; obtain ⟨l9', t9, t9', k9', e9, g8, g7⟩ := g9; subst e9; (have N8 := news_add (by k_asm) (by k_asm) N9 g8 g7); clear N9; obtain ⟨N9, o9'⟩ := N8; clear g8 g7; (try dsimp only); (try k_fold)))
    k_steps
    (try subst hQz); exact te_next (by assumption) (by assumption) (by repeat' first | exact trivial | refine ⟨by k_mem, ?_⟩) (by repeat' first | exact trivial | refine ⟨rfl, ?_⟩) (⟨_, _, _, _, rfl, ldv_pl hst, (by rw [hst]; exact ldv_push hI), hlt, (by simp only [Array.size_push]; omega)⟩) (by exact ho)
  · (repeat ((with_reducible (rename News _ _ _ _ => zz)); clear zz)); (repeat ((with_reducible (rename Fr _ _ _ _ => zz)); clear zz)); (repeat ((with_reducible (rename IsRange _ _ _ _ _ _ _ _ => zz)); clear zz)); (repeat ((with_reducible (rename ((_ : Obj).data = Data.cell _) => zz)); clear zz)); (repeat ((with_reducible (rename (∀ (b : Addr) (o : Obj), Heap.get? _ b = some o → Heap.get? _ b = some o) => zz)); clear zz))
    rintro led pl u h tk ⟨l, ws, kk, tr, rfl, rfl, hI, hlt, hsz⟩ F N'
    change Fr h₀ L' h _ at F; change News h₀ L' h _ at N'; simp only [kstB] at F; (try dsimp only); (try k_fold)
    rw [hvl, Nat.sub_self, List.drop_zero] at hI
    obtain ⟨r0, r1, r2, r3, r4⟩ := ldv_ok (n := N) (b := b) hb.1 (ds := ds) hds
    rw [hda] at r4
    have hI2 : IntsAre ws.toList.reverse (ldv N b ds).2 := by
      have := ints_rev hI
      rwa [List.reverse_reverse] at this
    have hq := ldv_div hb.1 r0 r1 r4
    (k_with "@call ref" => (fail_if_success (k_extra "Dm1 off"));  (refine' Spec.use (dig_hit w _ c2 _ _ _ N _ hI2 (by rw [r3]; exact hNl) (by omega) (by omega) r2) ?k1 ?k2 ?k3 ?k4 ?k5 ?kK ?kd ?ku ⟨News.get (by k_asm) (by k_mem), hask2.keeps (Fr.keep (by k_asm))⟩ ?_; walk_at "my prem"; intro r9 h9 tk9 F9 N9 g9; obtain ⟨t9, e9⟩ := g9; subst e9; (try dsimp only); (try k_fold)))
    have hws : ws.toList.length ≤ sizeLine := by rw [hI.length, List.length_reverse, r3, sizeLine_eq]; omega
    rw [hvl, Nat.sub_self, List.drop_zero] at F
    (k_with "@call builtin:list.reverse" => (fail_if_success (k_extra "Dm1 off"));  ((try dsimp only); refine' kl_reverse ?F ?N rfl ?U hws ?_; (case F => k_asm); (case N => k_asm); (case U => k_upd); intro h' F' N'))
    k_steps
    walk_at "my tidy"
    (rename Fr _ _ _ _ => lF'); (rename News _ _ _ _ => lN')
    rw [hq.1, hq.2] at lN'
    exact hret _ _ _ lF'.keep ⟨_, _, _, _, rfl, lN'.fresh (by k_mem), lN'.get (by k_mem)⟩
theorem divmod_spec (w : World) (a b : Int) (c1 c2 : Addr) (ta tb : Tok) (ha : 0 < a ∧ a < 2 ^ 100) (hb : 0 < b ∧ b ≤ 16) : Spec w 102 [.int a ta, .int b tb] 34 460 [] (fun h => TabIn 76 39 4 q81 h c1 ∧ TabIn 83 54 4 q88 h c2) (PairG (a.fdiv b) (a.fmod b)) := by
  w_top off; unfold Spec; intro p loose mean mg mb dp un gd outer base h₀ s R B X T hkp hsz hled hdp hun hask hret; revert X; k_fill; intro X; k_dflt (walk_at "my enter"); intro L' h₁ tk' F' N' hltL; (try dsimp only); (try k_fold)
  (k_with "@call ref" => (fail_if_success (k_extra "Dm1 off"));  (refine' Spec.use (dpos_spec w a b c1 c2 _ _ ha hb) ?k1 ?k2 ?k3 ?k4 ?k5 ?kK ?kd ?ku ⟨hask.1.keeps (Fr.keep (by k_asm)), hask.2.keeps (Fr.keep (by k_asm))⟩ ?_; walk_at "my prem"; intro r9 h9 tk9 F9 N9 g9; obtain ⟨l9', t9, t9', k9', e9, g8, g7⟩ := g9; subst e9; (have N8 := news_add (by k_asm) (by k_asm) N9 g8 g7); clear N9; obtain ⟨N9, o9'⟩ := N8; clear g8 g7; (try dsimp only); (try k_fold)))
  k_steps
  · exact absurd (by assumption : b = 0) (by omega)
  · walk_at "my tidy"
    (rename Fr _ _ _ _ => lF'); (rename News _ _ _ _ => lN')
    exact hret _ _ _ lF'.keep ⟨_, _, _, _, rfl, lN'.fresh (.head _), lN'.get (.head _)⟩
theorem off_Dm1 : True := by
  (k_with "Dm1 off" => skip)
  exact True.intro

end
section --Dd

theorem pow_small' {a : Int} {k : Nat} (h : a < 2 ^ k) (hk : k ≤ 180) : a < 2 ^ 180 := by
  refine Int.lt_of_lt_of_le h ?_
  have := Nat.pow_le_pow_right (show 0 < 2 by decide) hk
  exact_mod_cast this
theorem digs_d2 (n : Nat) : ∀ (C : List Int), (∀ x ∈ C, 0 ≤ x ∧ x < 2 ^ n) → digs n C.length (d2 n C) = C
  | [], _ => rfl
  | x :: r, h => by
    obtain ⟨h1, h2⟩ := h x (.head _)
    have p : (0 : Int) < 2 ^ n := Int.pow_pos (by decide)
    rw [List.length_cons, digs, d2, Int.add_mul_emod_self_left, Int.emod_eq_of_lt h1 h2, Int.add_mul_ediv_left _ _ (Int.ne_of_gt p), Int.ediv_eq_zero_of_lt h1 h2, Int.zero_add, digs_d2 n r fun y hy => h y (.tail _ hy)]
theorem d2_low (n : Nat) : ∀ (C : List Int), (∀ x ∈ C, 0 ≤ x ∧ x < 2 ^ n) → 0 < C.length → 0 < C.getD (C.length - 1) 0 → 2 ^ (n * (C.length - 1)) ≤ d2 n C
  | [], _, h, _ => absurd h (Nat.lt_irrefl _)
  | [x], _, _, h => by
    have : 0 < x := h
    simp [d2]; (first | lia | omega)
  | x :: y :: r, h, _, ht => by
    have p : (0 : Int) < 2 ^ n := Int.pow_pos (by decide)
    have h1 := d2_low n (y :: r) (fun z hz => h z (.tail _ hz)) (Nat.succ_pos _) (by simpa using ht)
    have h2 : 2 ^ n * 2 ^ (n * ((y :: r).length - 1)) ≤ 2 ^ n * d2 n (y :: r) := Int.mul_le_mul_of_nonneg_left h1 (Int.le_of_lt p)
    have e : (2 : Int) ^ (n * ((x :: y :: r).length - 1)) = 2 ^ n * 2 ^ (n * ((y :: r).length - 1)) := by
      rw [← Int.pow_add]
      congr 1
      simp only [List.length_cons]
      rw [show r.length + 1 + 1 - 1 = (r.length + 1 - 1) + 1 by (first | lia | omega), Nat.mul_add, Nat.mul_one, Nat.add_comm]
    rw [e]
    have h3 := (h x (.head _)).1
    show _ ≤ x + 2 ^ n * d2 n (y :: r)
    (first | lia | omega)
theorem mOf_d2 {n : Nat} {C : List Int} (hn : 0 < n) (hb : ∀ x ∈ C, 0 ≤ x ∧ x < 2 ^ n) (h0 : 0 < C.length) (ht : 0 < C.getD (C.length - 1) 0) : (mOf (d2 n C) n).toNat = C.length ∧ 0 < d2 n C := by
  have hlo := d2_low n C hb h0 ht
  have hhi := (d2_bnd n C hb).2
  have p : (0 : Int) < 2 ^ (n * (C.length - 1)) := Int.pow_pos (by decide)
  have hpos : 0 < d2 n C := by (first | lia | omega)
  refine ⟨?_, hpos⟩
  have b1 : Builtin.Int.intBits (d2 n C) ≤ n * C.length := intBits_le_iff.mpr (nat_lt_pow (by
    rw [show ((d2 n C).natAbs : Int) = d2 n C by (first | lia | omega)]; exact hhi))
  have b2 : n * (C.length - 1) < Builtin.Int.intBits (d2 n C) := by
    refine Nat.lt_of_not_le fun h => ?_
    have := intBits_le_iff.mp h
    have h3 : ((d2 n C).natAbs : Int) < 2 ^ (n * (C.length - 1)) := by exact_mod_cast this
    (first | lia | omega)
  have e : mOf (d2 n C) n = (((Builtin.Int.intBits (d2 n C) : Nat) : Int) + (n : Int) - 1) / (n : Int) := Int.fdiv_eq_ediv_of_nonneg _ (by (first | lia | omega))
  have e2 : mOf (d2 n C) n = (C.length : Int) := by
    rw [e]
    have c1 : ((n * C.length : Nat) : Int) = (C.length : Int) * n := by rw [Int.natCast_mul, Int.mul_comm]
    have c2 : ((n * (C.length - 1) : Nat) : Int) = (C.length : Int) * n - n := by
      rw [Int.natCast_mul, Int.natCast_sub (by (first | lia | omega)), Int.mul_comm, Int.sub_mul]; simp
    have hnn : (0 : Int) < n := by (first | lia | omega)
    apply Int.le_antisymm
    · have : ((Builtin.Int.intBits (d2 n C) : Nat) : Int) + (n : Int) - 1 < ((C.length : Int) + 1) * n := by
        rw [Int.add_mul, Int.one_mul]; (first | lia | omega)
      have := Int.ediv_lt_of_lt_mul hnn this
      (first | lia | omega)
    · exact Int.le_ediv_of_mul_le hnn (by (first | lia | omega))
  (first | lia | omega)

end
section --Eq

section
variable {prog : Program} {w : World} {A : Around} {E : Value → Shared → Prop} {s : Shared} {a b : Addr} {vs us : List Value} {ns ms : List Int} {Q : Value → Shared → Prop}
theorem ne_same (hl : s.heap.IsList a vs.toArray) (hi : IntsAre vs ns) (hl' : s.heap.IsList b us.toArray) (hi' : IntsAre us ns) (hu : A.units + 64 < cLine) (h : Q (.bool false) s) :
    wpAny (model prog w) A (compareOp .NotEq (.ref a) (.ref b)) Q E s := ne_intsK hl hi hl' hi' hu (by simpa using h)
theorem eq_same (hl : s.heap.IsList a vs.toArray) (hi : IntsAre vs ns) (hl' : s.heap.IsList b us.toArray) (hi' : IntsAre us ns) (hu : A.units + 64 < cLine) (h : Q (.bool true) s) :
    wpAny (model prog w) A (compareOp .Eq (.ref a) (.ref b)) Q E s := eq_intsK hl hi hl' hi' hu (by simpa using h)
end

end
section --Ty1

noncomputable def kayF (al r : Int) : Int := [107, 75, 119818 + 52 * al.fmod 13, 8490].getD r.toNat 0
noncomputable def theF (al r : Int) : Int := [952, 920, 120495 + 58 * al.fmod 5, 1012].getD r.toNat 0
noncomputable def omeF (al r : Int) : Int := [969, 937, 120512 + 58 * al.fmod 5, 8486].getD r.toNat 0
noncomputable def typedF (al r0 r1 r2 : Int) : Str := ⟨#[(kayF al r0).toNat, (theF al r1).toNat, (omeF al r2).toNat]⟩
theorem menu_bnd {a b c d r : Int} (h : 0 ≤ r ∧ r < 4) (ha : 0 ≤ a ∧ a ≤ 1114111) (hb : 0 ≤ b ∧ b ≤ 1114111) (hc : 0 ≤ c ∧ c ≤ 1114111) (hd : 0 ≤ d ∧ d ≤ 1114111) : 0 ≤ [a, b, c, d].getD r.toNat 0 ∧ [a, b, c, d].getD r.toNat 0 ≤ 1114111 := by
  have : r = 0 ∨ r = 1 ∨ r = 2 ∨ r = 3 := by omega
  rcases this with rfl | rfl | rfl | rfl
  · exact ha
  · exact hb
  · exact hc
  · exact hd
theorem reg_Ty1_1 : True := by
  (k_with "@call builtin:chr" => ((fail_if_success (k_extra "Ty1 off")); ((k_here; (with_reducible show wpAny _ _ (call (Value.builtin "chr") [Value.int _ _]) _ _ _); (refine chr_of_range (And.left (by assumption)) (And.right (by assumption)) ?_)))))
  exact True.intro
theorem typed_spec (w : World) (a : Addr) (r0 r1 r2 al : Int) (t0 t1 t2 ta : Tok) (k : Nat) (q0 : 0 ≤ r0 ∧ r0 < 4) (q1 : 0 ≤ r1 ∧ r1 < 4) (q2 : 0 ≤ r2 ∧ r2 < 4) (qa : 0 ≤ al ∧ al < 2605) :
    Spec w 162 [.ref a, .int al ta] 8 80 [] (fun h => h.get? a = some (W.listOf #[.int r0 t0, .int r1 t1, .int r2 t2] k)) (StrG (typedF al r0 r1 r2)) := by
  have d0 := fmod_lo al (n := 13) (by decide)
  have d1 := fmod_hi al (n := 13) (by decide)
  have d2 := fmod_lo al (n := 5) (by decide)
  have d3 := fmod_hi al (n := 5) (by decide)
  have b0 := menu_bnd q0 (show (0:Int) ≤ 107 ∧ (107:Int) ≤ 1114111 by omega) (show (0:Int) ≤ 75 ∧ (75:Int) ≤ 1114111 by omega) (show 0 ≤ 119818 + 52 * al.fmod 13 ∧ 119818 + 52 * al.fmod 13 ≤ 1114111 by omega) (show (0:Int) ≤ 8490 ∧ (8490:Int) ≤ 1114111 by omega)
  have b1 := menu_bnd q1 (show (0:Int) ≤ 952 ∧ (952:Int) ≤ 1114111 by omega) (show (0:Int) ≤ 920 ∧ (920:Int) ≤ 1114111 by omega) (show 0 ≤ 120495 + 58 * al.fmod 5 ∧ 120495 + 58 * al.fmod 5 ≤ 1114111 by omega) (show (0:Int) ≤ 1012 ∧ (1012:Int) ≤ 1114111 by omega)
  have b2 := menu_bnd q2 (show (0:Int) ≤ 969 ∧ (969:Int) ≤ 1114111 by omega) (show (0:Int) ≤ 937 ∧ (937:Int) ≤ 1114111 by omega) (show 0 ≤ 120512 + 58 * al.fmod 5 ∧ 120512 + 58 * al.fmod 5 ≤ 1114111 by omega) (show (0:Int) ≤ 8486 ∧ (8486:Int) ≤ 1114111 by omega)
  clear d0 d1 d2 d3
  w_top off; unfold Spec; intro p loose mean mg mb dp un gd outer base h₀ s R B X T hkp hsz hled hdp hun hask hret; revert X; k_fill; intro X; k_dflt (walk_at "my enter"); intro L' h₁ tk' F' N' hltL; (try dsimp only); (try k_fold)
  k_steps
  walk_at "my tidy"
  exact hret _ _ _ (Fr.keep (by k_asm)) ⟨_, congrArg (fun x => Value.str x _) (by with_unfolding_all rfl)⟩
theorem off_Ty1 : True := by
  (k_with "Ty1 off" => skip)
  exact True.intro

end
section --Mp1

noncomputable def bigD : List (Int × PyData) := kvs.map fun p => (p.1, PyData.str p.2)
theorem asc_nodup : ∀ (l : List (Int × Str)) (lo : Int), asc lo l = true → (l.map (·.1)).Nodup ∧ ∀ x ∈ l.map (·.1), lo < x
  | [], _, _ => ⟨.nil, fun _ h => nomatch h⟩
  | (i, v) :: r, lo, h => by
    obtain ⟨h1, _, h3⟩ := asc_cons h
    obtain ⟨n, b⟩ := asc_nodup r i h3
    refine ⟨List.nodup_cons.mpr ⟨fun q => Int.lt_irrefl _ (b i q), n⟩, fun x hx => ?_⟩
    rcases List.mem_cons.mp hx with rfl | hx
    · exact h1
    · exact Int.lt_trans h1 (b x hx)
theorem kvs_cut : kA ++ (kB.flatten ++ kC) = kvs := by kernel_rfl
theorem bigD_nodup : (bigD.map (·.1)).Nodup := by
  have := (asc_nodup _ _ (kvs_cut ▸ k_asc)).1
  unfold bigD
  rw [List.map_map]
  exact this
theorem big_look1 : KTD.numsLook bigE bigD = true := by kernel_rfl
theorem big_in {P : Params} : (hd.heap_1 P).lookup 15 = some bigO := by kernel_rfl
theorem big_keyed {P : Params} {h : Heap} (X : (hd.heap_1 P).In h) : KTD.Keyed h 15 bigD := fun prog w => by
  obtain ⟨hk, kvs, hp, hf, hm⟩ := KTD.nums_of_look prog w big_look1
  exact ⟨by decide, kvs, ⟨bigO, bigE.toArray, 650, X _ _ big_in, ⟨rfl, rfl, rfl⟩, rfl, fun e he => hk e (by simpa using he), by simpa using hp, by rw [hm]; exact bigD_nodup⟩, hf⟩
section
variable {prog : Program} {w : World} {A : Around} {E : Value → Shared → Prop} {s : Shared} {h₀ : Heap} {a : Addr} {D : List (Int × PyData)} {k : Int} {tk : Tok} {Q : Value → Shared → Prop}
theorem get_big {d : Option PyData} (e : KTD.datumAt k D = d) (K : KTD.Keyed h₀ a D) (hk : ∀ b o, h₀.get? b = some o → s.heap.get? b = some o) (h : ∀ v, PyProof.V.Flat v (d.getD .none) → Q v { s with toks := s.toks + 1 }) :
    wpAny (model prog w) A (call (.builtin "dict.get") [.ref a, .int k tk]) Q E s :=
  call_get1_intTab (K.keep hk prog w) fun v hv => h v (by rw [KTD.lookup_keyed, e] at hv; exact hv)
end
theorem reg_Mp1_1 : True := by
  (k_with "@getMethod ref" => ((fail_if_success (k_extra "Mp1 off")); (k_dflt (refine KTD.getMethod_keyed (by assumption) (Fr.keep (by k_asm)) ?_))))
  exact True.intro
theorem flat_str {v : Value} {r : Str} (h : PyProof.V.Flat v (.str r)) : ∃ t, v = .str r t := by
  have := h ⟨#[], {}⟩
  cases this
  exact ⟨_, rfl⟩
theorem flat_none {v : Value} (h : PyProof.V.Flat v .none) : v = .none := by
  have := h ⟨#[], {}⟩
  cases this
  rfl
theorem reg_Mp1_2 : True := by
  (k_with "@call builtin:dict.get" => ((fail_if_success (k_extra "Mp1 off")); (k_dflt (refine get_big (by assumption) (by assumption) (Fr.keep (by k_asm)) ?_; intro v9Q hv9Q; dsimp only [Option.getD] at hv9Q; first | (obtain ⟨t9Q, e9Q⟩ := flat_str hv9Q; clear hv9Q; subst e9Q) | (have e9Q := flat_none hv9Q; clear hv9Q; subst e9Q)))))
  exact True.intro
noncomputable def One (x y : Str) : Prop := ∃ c : Nat, x = ⟨#[c]⟩ ∧ (KTD.datumAt (c : Int) bigD = some (.str y) ∨ KTD.datumAt (c : Int) bigD = none ∧ Txt.lower ⟨#[c]⟩ = y)
theorem map_spec (w : World) (x y : Str) (t : Tok) (hx : One x y) : Spec w 60 [.str x t] 4 40 [] (fun _ => True) (StrG y) := by
  obtain ⟨c, rfl, hd | ⟨hd, hy⟩⟩ := hx
  · w_top off; unfold Spec; intro p loose mean mg mb dp un gd outer base h₀ s R B X T hkp hsz hled hdp hun hask hret; revert X; k_fill; intro X; k_dflt (walk_at "my enter"); intro L' h₁ tk' F' N' hltL; (try dsimp only); (try k_fold)
    have ky := big_keyed X
    k_steps
    walk_at "my tidy"
    exact hret _ _ _ (Fr.keep (by k_asm)) ⟨_, rfl⟩
  · w_top off; unfold Spec; intro p loose mean mg mb dp un gd outer base h₀ s R B X T hkp hsz hled hdp hun hask hret; revert X; k_fill; intro X; k_dflt (walk_at "my enter"); intro L' h₁ tk' F' N' hltL; (try dsimp only); (try k_fold)
    have ky := big_keyed X
    k_steps
    walk_at "my tidy"
    exact hret _ _ _ (Fr.keep (by k_asm)) ⟨_, by rw [← hy]⟩
theorem off_Mp1 : True := by
  (k_with "Mp1 off" => skip)
  exact True.intro

end
section --Mp2

noncomputable def oneB (c d : Nat) : Bool := match KTD.datumAt (c : Int) bigD with
  | some (.str y) => y == ⟨#[d]⟩
  | some _ => false
  | none => Txt.lower ⟨#[c]⟩ == ⟨#[d]⟩
theorem one_of {c d : Nat} (h : oneB c d = true) : One ⟨#[c]⟩ ⟨#[d]⟩ := by
  unfold oneB at h
  refine ⟨c, rfl, ?_⟩
  split at h
  · rename_i y e
    rw [beq_iff_eq.mp h] at e
    exact .inl e
  · cases h
  · rename_i e
    exact .inr ⟨e, beq_iff_eq.mp h⟩
theorem one_k : ([107, 75, 8490] ++ (List.range 13).map fun a => 119818 + 52 * a).all (fun c => oneB c 107) = true := by decide +kernel
theorem one_t : ([952, 920, 1012] ++ (List.range 5).map fun a => 120495 + 58 * a).all (fun c => oneB c 952) = true := by decide +kernel
theorem one_o : ([969, 937, 8486] ++ (List.range 5).map fun a => 120512 + 58 * a).all (fun c => oneB c 969) = true := by decide +kernel

end
section --Lcs
open PySem PySem.W PyProof.Rows PySem.Calls PyProof.Rows.LCg PySem.Spec
noncomputable def Sgn3 (a b c : Nat) (i : Nat) (v : Value) : Prop := match i with
  | 0 => ∃ t, v = .str ⟨#[a]⟩ t
  | 1 => ∃ t, v = .str ⟨#[b]⟩ t
  | 2 => ∃ t, v = .str ⟨#[c]⟩ t
  | _ => True
theorem sgn3_of {a b c : Nat} {i : Nat} {v : Value} (h : SignAt ⟨#[a, b, c]⟩ i v) : Sgn3 a b c i v := by
  obtain ⟨d, u, hd, rfl⟩ := h
  match i with
  | 0 => have : a = d := by simpa using hd
         subst this; exact ⟨u, rfl⟩
  | 1 => have : b = d := by simpa using hd
         subst this; exact ⟨u, rfl⟩
  | 2 => have : c = d := by simpa using hd
         subst this; exact ⟨u, rfl⟩
  | i + 3 => trivial
section
variable {prog : Program} {w : World} {A : Around} {E : Value → Shared → Prop} {s : Shared} {h₀ : Heap} {L : Addr} {m : Str → Option Value} {env : Env}
theorem walks_imp {I : Addr} {fp wr : List Addr} {n : Nat} {P P' : Nat → Value → Prop} {St : Nat → Heap → Prop} (W : Walks prog w A I fp wr n P St) (h : ∀ i v, P i v → P' i v) : Walks prog w A I fp wr n P' St :=
  { sub := W.sub, frame := W.frame, done := W.done, self := W.self, item := fun i s Q E hi st hQ => W.item i s Q E hi st fun v h' tk hP => hQ v h' tk (h i v hP) }
theorem str_st {I : Addr} {ty : String} {x : Str} {t : Tok} : ∀ i (h h' : Heap) (o : Obj) (nw : List (Addr × Obj)), h.IsStrIter I ty x t i → h.get? I = some o → h'.get? I = some o → (∀ b o, h₀.get? b = some o → h'.get? b = some o) → News h₀ L h' nw → True → h'.IsStrIter I ty x t i :=
  fun i h h' o nw st e e' _ _ _ => by obtain ⟨o', q, r⟩ := st; rw [e] at q; cases q; exact ⟨o, e', r⟩
noncomputable def SrcS (prog : Program) (w : World) (A : Around) (h₀ : Heap) (L : Addr) (m : Str → Option Value) (env : Env) (elt : Expr) (x : Str) (scope : Scope) (cl : List (Str × Addr)) (Fin : Shared → List Value → List (Addr × Obj) → Prop) (xv : Value) (s₁ : Shared) : Prop :=
  ∃ a b c t news, xv = .str ⟨#[a, b, c]⟩ t ∧ A.handled = none ∧ Fr h₀ L s₁.heap m ∧ News h₀ L s₁.heap news ∧
    ∀ s₂ : Shared, (∃ h, s₂ = { s₁ with heap := h }) → CompRest prog w A h₀ L m env elt x scope cl s₂ (fun _ => True) (Sgn3 a b c) (Fin s₂) 3 0 [] news
theorem SrcS.intro {elt : Expr} {x : Str} {scope : Scope} {cl : List (Str × Addr)} {Fin : Shared → List Value → List (Addr × Obj) → Prop} {a b c : Nat} {t : Tok} {news : List (Addr × Obj)} {s₁ : Shared}
    (hh : A.handled = none) (F : Fr h₀ L s₁.heap m) (N : News h₀ L s₁.heap news)
    (h : ∀ g, CompRest prog w A h₀ L m env elt x scope cl { s₁ with heap := g } (fun _ => True) (Sgn3 a b c) (Fin { s₁ with heap := g }) 3 0 [] news) :
    SrcS prog w A h₀ L m env elt x scope cl Fin (.str ⟨#[a, b, c]⟩ t) s₁ := ⟨a, b, c, t, news, rfl, hh, F, N, fun _ ⟨g, e⟩ => e ▸ h g⟩
theorem ListComp_S {elt iter : Expr} {x : Str} {px : Pos} {scope : Scope} {cl : List (Str × Addr)} {pos : Pos} {Q : Value → Shared → Prop} (F₀ : Fr h₀ L s.heap m)
    (hclos : closureFor scope env = pure cl) (hcell : ∀ y ∈ scope.names, y.2 ≠ .cell) (hkind : scope.kind = .function)
    (hnames : ∀ y ∈ scope.names, y.2 = .local → scope.names.lookup y.1 = some .local) (hx : scope.names.lookup x = some .local)
    (h : wpAny (model prog w) A (eval iter env) (SrcS prog w A h₀ L m env elt x scope cl (fun s₂ => FinE h₀ L m s₂ Q)) E s)
    (hs : ∀ x, foldedSetIterable iter env x = pure x := by intro _; rfl) :
    wpAny (model prog w) A (eval (.ListComp elt [⟨.Name x px, iter, [], 0⟩] scope pos) env) Q E s := by
  rw [eval_ListComp]
  refine wpAny_comprehension_free (use := none) rfl hs hclos hkind hnames (wpAny_mono h (fun xv s₁ h₁ => ?_) fun _ _ e => e)
  obtain ⟨a, b, c, t, news, rfl, hh, F, N, R⟩ := h₁
  cases ha : (⟨#[a, b, c]⟩ : Str).cps.all (· < 128)
  · refine wpAny_pyIter_wide ha ?_
    refine block_U (walks_imp (Walks.strWide hh s₁.heap.objs.size ⟨#[a, b, c]⟩ t) (fun _ _ => sgn3_of)) (show 3 ≤ sizeLine by rw [sizeLine_eq]; decide) (fun i h st => let ⟨o, e, _⟩ := st; ⟨o, e⟩) str_st hcell hkind hx ⟨_, Heap.get?_push_size _ rfl, rfl, rfl⟩ (fun b hb => ?_)
      (F.keeps fun _ _ e => Heap.get?_push_of_some _ e) (N.grown fun _ _ e => Heap.get?_push_of_some _ e) (Nat.ne_of_lt F.ns.lt) (next_is_new F) (fun p hp => Nat.ne_of_lt (Heap.lt_size (N p hp).1)) trivial (R _ ⟨_, rfl⟩) ?_
    · rw [List.mem_singleton.mp hb]
      show s₁.heap.objs.size < (s₁.heap.push _).objs.size
      rw [Heap.size_push]; exact Nat.lt_succ_self _
    · intro D C h tk m' ys news' F' N' o1 hn hC₀ hD₀ hCL hDL hCD offC fin
      refine ⟨m', hn, fun h'' hs'' => fin D h'' tk (F'.change hs'' hCL hC₀) (fun p hp => ?_) o1⟩
      refine ⟨hs''.extBut _ _ ?_ (N' p hp).1, (N' p hp).2⟩
      rcases List.mem_cons.mp hp with rfl | hp
      · exact Ne.symm hCD
      · exact offC p hp
  · refine wpAny_pyIter_ascii ha ?_
    refine block_U (walks_imp (Walks.strAscii hh s₁.heap.objs.size ⟨#[a, b, c]⟩ t) (fun _ _ => sgn3_of)) (show 3 ≤ sizeLine by rw [sizeLine_eq]; decide) (fun i h st => let ⟨o, e, _⟩ := st; ⟨o, e⟩) str_st hcell hkind hx ⟨_, Heap.get?_push_size _ rfl, rfl, rfl⟩ (fun b hb => ?_)
      (F.keeps fun _ _ e => Heap.get?_push_of_some _ e) (N.grown fun _ _ e => Heap.get?_push_of_some _ e) (Nat.ne_of_lt F.ns.lt) (next_is_new F) (fun p hp => Nat.ne_of_lt (Heap.lt_size (N p hp).1)) trivial (R _ ⟨_, rfl⟩) ?_
    · rw [List.mem_singleton.mp hb]
      show s₁.heap.objs.size < (s₁.heap.push _).objs.size
      rw [Heap.size_push]; exact Nat.lt_succ_self _
    · intro D C h tk m' ys news' F' N' o1 hn hC₀ hD₀ hCL hDL hCD offC fin
      refine ⟨m', hn, fun h'' hs'' => fin D h'' tk (F'.change hs'' hCL hC₀) (fun p hp => ?_) o1⟩
      refine ⟨hs''.extBut _ _ ?_ (N' p hp).1, (N' p hp).2⟩
      rcases List.mem_cons.mp hp with rfl | hp
      · exact Ne.symm hCD
      · exact offC p hp
end

end
section --Sb1

noncomputable def subF (x y : Nat) : Int := if x = y then 0 else if Txt.lower ⟨#[x]⟩ = Txt.lower ⟨#[y]⟩ then 1 else 2
theorem ch_eq {x y : Nat} (h : (({ cps := #[x] } : Str) == { cps := #[y] }) = true) : x = y := by simpa using beq_iff_eq.mp h
theorem ch_ne {x y : Nat} (h : (({ cps := #[x] } : Str) == { cps := #[y] }) = false) : x ≠ y := fun e => by subst e; simp at h
theorem sub_eq {x y : Nat} (h : (({ cps := #[x] } : Str) == { cps := #[y] }) = true) : subF x y = 0 := if_pos (ch_eq h)
theorem sub_case {x y : Nat} (h : (({ cps := #[x] } : Str) == { cps := #[y] }) = false) (g : (Txt.lower ⟨#[x]⟩ == Txt.lower ⟨#[y]⟩) = true) : subF x y = 1 := (if_neg (ch_ne h)).trans (if_pos (beq_iff_eq.mp g))
theorem sub_ne {x y : Nat} (h : (({ cps := #[x] } : Str) == { cps := #[y] }) = false) (g : (Txt.lower ⟨#[x]⟩ == Txt.lower ⟨#[y]⟩) = false) : subF x y = 2 := (if_neg (ch_ne h)).trans (if_neg (beq_eq_false_iff_ne.mp g))
theorem sub_spec (w : World) (x y : Nat) (t u : Tok) : Spec w 124 [.str ⟨#[x]⟩ t, .str ⟨#[y]⟩ u] 4 40 [] (fun _ => True) (IntG (subF x y)) := by
  w_top off; unfold Spec; intro p loose mean mg mb dp un gd outer base h₀ s R B X T hkp hsz hled hdp hun hask hret; revert X; k_fill; intro X; k_dflt (walk_at "my enter"); intro L' h₁ tk' F' N' hltL; (try dsimp only); (try k_fold)
  k_steps
  all_goals walk_at "my tidy"
  · exact hret _ _ _ (Fr.keep (by k_asm)) ⟨_, congrArg (fun z => Value.int z _) (sub_eq (by assumption)).symm⟩
  · exact hret _ _ _ (Fr.keep (by k_asm)) ⟨_, congrArg (fun z => Value.int z _) (sub_case (by assumption) (by assumption)).symm⟩
  · exact hret _ _ _ (Fr.keep (by k_asm)) ⟨_, congrArg (fun z => Value.int z _) (sub_ne (by assumption) (by assumption)).symm⟩

end
section --Lv4

noncomputable def dr (xs : Array Nat) (j : Nat) : Array Nat := (xs.toList.drop j).toArray
noncomputable def tkE (xs : Array Nat) (p : Nat) : Array Nat := (xs.toList.take (xs.size - p)).toArray
theorem dr_size {xs : Array Nat} {j : Nat} : (dr xs j).size = xs.size - j := by simp [dr]
theorem tk_size {xs : Array Nat} {p : Nat} : (tkE xs p).size = xs.size - p := by simp [tkE]
theorem sl_pre {xs : Array Nat} {j : Nat} {e : Int} (he : e = (j : Int)) (h : j ≤ xs.size) : Txt.slice ⟨xs⟩ (some e) none = ⟨dr xs j⟩ := by
  subst he
  rw [slice_from_eq (b := ((xs.size : Nat) : Int)) (Int.natCast_nonneg j) (Int.ofNat_le.mpr h) rfl, List.take_of_length_le]
  · rfl
  · simp
theorem sl_all {xs : Array Nat} : Txt.slice ⟨xs⟩ none none = ⟨tkE xs 0⟩ := by
  have e : Txt.slice ⟨xs⟩ none none = Txt.slice ⟨xs⟩ (some 0) none := by
    unfold Txt.slice
    rw [show PySem.Builtin.Str.strSliceIndices none none 1 (Str.length ⟨xs⟩) = PySem.Builtin.Str.strSliceIndices (some 0) none 1 (Str.length ⟨xs⟩) by
      have q : max (0 : Int) (min 0 ((Str.length ⟨xs⟩ : Nat) : Int)) = 0 := by omega
      simp [PySem.Builtin.Str.strSliceIndices, q]]
  rw [e, sl_pre (j := 0) (e := 0) rfl (Nat.zero_le _)]
  rw [tkE, dr, Nat.sub_zero, List.take_of_length_le (Nat.le_of_eq Array.length_toList)]
  rfl
theorem sl_post {xs : Array Nat} {p : Nat} {e : Int} (he : e = -(p : Int)) (h0 : 0 < p) (h : p ≤ xs.size) : Txt.slice ⟨xs⟩ none (some e) = ⟨tkE xs p⟩ := by
  subst he
  rw [beq_iff_eq.mp (slice_closes_to_neg (k := ((xs.size - p : Nat) : Int)) (by omega) (by show -((xs.size : Nat) : Int) ≤ _; omega) (by show _ = _ + ((xs.size : Nat) : Int); omega))]
  rfl
theorem it_end {xs : Array Nat} {p : Nat} {e : Int} (he : e = -(p : Int)) (h : p < xs.size) : Txt.item ⟨xs⟩ (e - 1) = ⟨#[xs.getD (xs.size - 1 - p) 0]⟩ := by
  subst he
  rw [beq_iff_eq.mp (item_closes_neg (j := ((xs.size - 1 - p : Nat) : Int)) (by omega) (by show -((xs.size : Nat) : Int) ≤ _; omega) (by show _ = _ + ((xs.size : Nat) : Int); omega))]
  rfl
theorem it_at {xs : Array Nat} {j : Nat} {e : Int} (he : e = (j : Int)) (h : j < xs.size) : Txt.item ⟨xs⟩ e = ⟨#[xs.getD j 0]⟩ := by
  subst he
  rw [beq_iff_eq.mp (item_closes (x := ⟨xs⟩) (i := (j : Int)) ⟨by omega, by show _ < ((xs.size : Nat) : Int); omega⟩)]
  rfl
noncomputable def PreOk (A B : Array Nat) (j : Nat) : Prop := j < A.size ∧ B.size = A.size ∧ A ≠ B ∧ ∀ i, i < j → A.getD i 0 = B.getD i 0
theorem pre_step {A B : Array Nat} {j : Nat} (h : PreOk A B j) (e : A.getD j 0 = B.getD j 0) : PreOk A B (j + 1) := by
  obtain ⟨h1, h2, h3, h4⟩ := h
  have h5 : ∀ i, i < j + 1 → A.getD i 0 = B.getD i 0 := fun i hi => by
    rcases Nat.lt_succ_iff_lt_or_eq.mp hi with h | rfl
    · exact h4 i h
    · exact e
  refine ⟨Nat.lt_of_le_of_ne h1 fun e' => h3 (Array.ext h2.symm fun i hi hi' => ?_), h2, h3, h5⟩
  have := h5 i (e' ▸ hi)
  simpa [Array.getD, hi, hi'] using this
noncomputable def PostOk (xs ys : Array Nat) (p : Nat) : Prop := p < xs.size ∧ ys.size = xs.size ∧ xs.getD 0 0 ≠ ys.getD 0 0 ∧ ∀ i, i < p → xs.getD (xs.size - 1 - i) 0 = ys.getD (ys.size - 1 - i) 0
theorem post_step {A B : Array Nat} {j : Nat} (h : PostOk A B j) (e : A.getD (A.size - 1 - j) 0 = B.getD (B.size - 1 - j) 0) : PostOk A B (j + 1) := by
  obtain ⟨h1, h2, h3, h4⟩ := h
  refine ⟨Nat.lt_of_le_of_ne h1 fun e' => h3 ?_, h2, h3, fun i hi => ?_⟩
  · rw [h2, ← e', show j.succ - 1 - j = 0 by omega] at e; exact e
  · rcases Nat.lt_succ_iff_lt_or_eq.mp hi with h | rfl
    · exact h4 i h
    · exact e
theorem post_zero {A B : Array Nat} {j : Nat} (h : PreOk A B j) (e : A.getD j 0 ≠ B.getD j 0) : PostOk (dr A j) (dr B j) 0 := by
  obtain ⟨h1, h2, h3, h4⟩ := h
  refine ⟨by rw [dr_size]; omega, by rw [dr_size, dr_size, h2], ?_, fun i hi => absurd hi (Nat.not_lt_zero i)⟩
  simpa [dr] using e
noncomputable def trimF (a0 a1 a2 b0 b1 b2 : Nat) : Array Nat × Array Nat :=
  if a0 ≠ b0 then (if a2 ≠ b2 then (#[a0, a1, a2], #[b0, b1, b2]) else if a1 ≠ b1 then (#[a0, a1], #[b0, b1]) else (#[a0], #[b0]))
  else if a1 ≠ b1 then (if a2 ≠ b2 then (#[a1, a2], #[b1, b2]) else (#[a1], #[b1])) else (#[a2], #[b2])
theorem lt3c {j : Nat} (h : j < 3) : j = 0 ∨ j = 1 ∨ j = 2 := by omega
theorem trim_mk {a0 a1 a2 b0 b1 b2 j p : Nat} (h : PreOk #[a0, a1, a2] #[b0, b1, b2] j) (g : PostOk (dr #[a0, a1, a2] j) (dr #[b0, b1, b2] j) p)
    (e : (dr #[a0, a1, a2] j).getD ((dr #[a0, a1, a2] j).size - 1 - p) 0 ≠ (dr #[b0, b1, b2] j).getD ((dr #[b0, b1, b2] j).size - 1 - p) 0) :
    trimF a0 a1 a2 b0 b1 b2 = (tkE (dr #[a0, a1, a2] j) p, tkE (dr #[b0, b1, b2] j) p) ∧ ¬ (a0 = b0 ∧ a1 = b1 ∧ a2 = b2) := by
  obtain ⟨h1, -, h3, h4⟩ := h
  obtain ⟨g1, -, g3, g4⟩ := g
  refine ⟨?_, fun ⟨x, y, z⟩ => h3 (by rw [x, y, z])⟩
  have hj : j < 3 := h1
  rcases lt3c hj with rfl | rfl | rfl
  · have hp : p < 3 := g1
    have k0 : a0 ≠ b0 := g3
    rcases lt3c hp with rfl | rfl | rfl
    · have k : a2 ≠ b2 := e
      rw [trimF, if_pos k0, if_pos k]; rfl
    · have k : a1 ≠ b1 := e
      have q : a2 = b2 := g4 0 (by decide)
      rw [trimF, if_pos k0, if_neg (not_not_intro q), if_pos k]; rfl
    · have q : a2 = b2 := g4 0 (by decide)
      have q' : a1 = b1 := g4 1 (by decide)
      rw [trimF, if_pos k0, if_neg (not_not_intro q), if_neg (not_not_intro q')]; rfl
  · have hp : p < 2 := g1
    have k0 : a1 ≠ b1 := g3
    have r0 : a0 = b0 := h4 0 (by decide)
    rw [trimF, if_neg (not_not_intro r0), if_pos k0]
    rcases lt3c (Nat.lt_succ_of_lt hp) with rfl | rfl | rfl
    · have k : a2 ≠ b2 := e
      rw [if_pos k]; rfl
    · have q : a2 = b2 := g4 0 (by decide)
      rw [if_neg (not_not_intro q)]; rfl
    · exact absurd hp (by decide)
  · have hp : p < 1 := g1
    have r0 : a0 = b0 := h4 0 (by decide)
    have r1 : a1 = b1 := h4 1 (by decide)
    rw [trimF, if_neg (not_not_intro r0), if_neg (not_not_intro r1), Nat.lt_one_iff.mp hp]; rfl
theorem reg_Lv4_1 : True := by
  (k_with "@exec While BoolOp" => ((fail_if_success (k_extra "Lv4 off")); ((refine my_while_stop ?_))))
  exact True.intro
section
variable {prog : Program} {w : World} {A : Around} {E : Value → Shared → Prop} {s : Shared} {h₀ : Heap} {L : Addr} {m : Str → Option Value} {news : List (Addr × Obj)} {value slice : Expr} {x y : Str} {xs : Array Nat} {t ui : Tok} {i : Int} {Q : Value → Shared → Prop} {n j p : Nat}
theorem sz3 {k : Nat} (h : xs.size ≤ 3) (hk : 3 ≤ k) : Str.length ⟨xs⟩ ≤ k := Nat.le_trans h hk
theorem slq_sn (hy : Txt.slice x (some i) none = y) (hF : Fr h₀ L s.heap m) (hN : News h₀ L s.heap news) (hsz : x.length ≤ sizeLine) (h : ∀ h' t' k, Fr h₀ L h' m → News h₀ L h' news → Q (.str y t') { s with heap := h', toks := k })
    (hs : subscripted slice false (.str x t) (.ref s.heap.objs.size) = operate [.ref s.heap.objs.size, .str x t] (getItem (.str x t) (.ref s.heap.objs.size)) := by with_unfolding_all rfl)
    (ht : ∀ r, letTemporaryGo value (.str x t) r = pure () := by intro _; with_unfolding_all rfl) :
    wpAny (model prog w) A (subscriptTail value slice (.str x t) (.ref s.heap.objs.size)) Q E { s with heap := s.heap.push { cls := .type "slice", data := .fields #[.int i ui, .none, .none] } } := by
  subst hy; exact slice_strN_sn hF hN h hs ht hsz
theorem slq_ns (hy : Txt.slice x none (some i) = y) (hF : Fr h₀ L s.heap m) (hN : News h₀ L s.heap news) (hsz : x.length ≤ sizeLine) (h : ∀ h' t' k, Fr h₀ L h' m → News h₀ L h' news → Q (.str y t') { s with heap := h', toks := k })
    (hs : subscripted slice false (.str x t) (.ref s.heap.objs.size) = operate [.ref s.heap.objs.size, .str x t] (getItem (.str x t) (.ref s.heap.objs.size)) := by with_unfolding_all rfl)
    (ht : ∀ r, letTemporaryGo value (.str x t) r = pure () := by intro _; with_unfolding_all rfl) :
    wpAny (model prog w) A (subscriptTail value slice (.str x t) (.ref s.heap.objs.size)) Q E { s with heap := s.heap.push { cls := .type "slice", data := .fields #[.none, .int i ui, .none] } } := by
  subst hy; exact slice_strN_ns hF hN h hs ht hsz
theorem slq_nn (hy : Txt.slice x none none = y) (hF : Fr h₀ L s.heap m) (hN : News h₀ L s.heap news) (hsz : x.length ≤ sizeLine) (h : ∀ h' t' k, Fr h₀ L h' m → News h₀ L h' news → Q (.str y t') { s with heap := h', toks := k })
    (hs : subscripted slice false (.str x t) (.ref s.heap.objs.size) = operate [.ref s.heap.objs.size, .str x t] (getItem (.str x t) (.ref s.heap.objs.size)) := by with_unfolding_all rfl)
    (ht : ∀ r, letTemporaryGo value (.str x t) r = pure () := by intro _; with_unfolding_all rfl) :
    wpAny (model prog w) A (subscriptTail value slice (.str x t) (.ref s.heap.objs.size)) Q E { s with heap := s.heap.push { cls := .type "slice", data := .fields #[.none, .none, .none] } } := by
  subst hy; exact slice_strN_nn hF hN h hs ht hsz
theorem fits3 {e : Int} (h1 : -3 ≤ e) (h2 : e ≤ 3) : fitsSsize e = true := by
  rcases (show e = -3 ∨ e = -2 ∨ e = -1 ∨ e = 0 ∨ e = 1 ∨ e = 2 ∨ e = 3 by omega) with rfl | rfl | rfl | rfl | rfl | rfl | rfl <;> rfl
theorem its_g {u : Tok} (hi : i = (j : Int)) (hn : xs.size ≤ 3) (hj : j < xs.size) (h : Q (.str ⟨#[xs.getD j 0]⟩ s.toks) { s with toks := s.toks + 1 })
    (hb : subscripted slice false (.str ⟨xs⟩ t) (.int i u) = operate [.str ⟨xs⟩ t, .int i u] (getItem (.str ⟨xs⟩ t) (.int i u)) := by with_unfolding_all rfl)
    (ht : ∀ r, letTemporaryGo value (.str ⟨xs⟩ t) r = pure () := by intro _; with_unfolding_all rfl) :
    wpAny (model prog w) A (subscriptTail value slice (.str ⟨xs⟩ t) (.int i u)) Q E s :=
  item_str (fits3 (by omega) (by omega)) (by show -((xs.size : Nat) : Int) ≤ _; omega) (by show _ < ((xs.size : Nat) : Int); omega) (fun _ => by rw [it_at hi hj]; exact h) hb ht
theorem its_e {u : Tok} (hi : i = -(p : Int)) (hn : xs.size ≤ 3) (hj : p < xs.size) (h : Q (.str ⟨#[xs.getD (xs.size - 1 - p) 0]⟩ s.toks) { s with toks := s.toks + 1 })
    (hb : subscripted slice false (.str ⟨xs⟩ t) (.int (i - 1) u) = operate [.str ⟨xs⟩ t, .int (i - 1) u] (getItem (.str ⟨xs⟩ t) (.int (i - 1) u)) := by with_unfolding_all rfl)
    (ht : ∀ r, letTemporaryGo value (.str ⟨xs⟩ t) r = pure () := by intro _; with_unfolding_all rfl) :
    wpAny (model prog w) A (subscriptTail value slice (.str ⟨xs⟩ t) (.int (i - 1) u)) Q E s :=
  item_str (fits3 (by omega) (by omega)) (by show -((xs.size : Nat) : Int) ≤ _; omega) (by show _ < ((xs.size : Nat) : Int); omega) (fun _ => by rw [it_end hi hj]; exact h) hb ht
theorem len_n (hs : xs.size = n) (hn : n ≤ 3) (h : Q (.int (n : Int) (s.toks + 1)) { s with toks := s.toks + 1 + 1 }) : wpAny (model prog w) A (call (.builtin "len") [.str ⟨xs⟩ t]) Q E s := by
  subst hs
  exact len_str (show ¬ ((xs.size : Nat) : Int) ≥ 2 ^ 63 by omega) h
theorem truthy_n {Q : Bool → Shared → Prop} (h0 : 0 < xs.size) (hn : xs.size ≤ 3) (h : Q true { s with toks := s.toks + 1 + 1 }) : wpAny (model prog w) A (truthy (.str ⟨xs⟩ t)) Q E s :=
  P.truthy_str (show ¬ ((xs.size : Nat) : Int) ≥ 2 ^ 63 by omega) (by rw [show (((Str.length ⟨xs⟩ : Nat) : Int) != 0) = true from bne_iff_ne.mpr (show ((xs.size : Nat) : Int) ≠ 0 by omega)]; exact h)
end
section
variable {prog : Program} {w : World} {A : Around} {E : Value → Shared → Prop} {s : Shared} {h₀ : Heap} {L a : Addr} {m : Str → Option Value} {cn : Str} {cs : Scope} {ccd : Value} {cl : List (Str × Addr)} {news : List (Addr × Obj)} {Q : Value → Shared → Prop} {na np : Str} {p1 p2 p3 p4 p5 p6 : Pos} {xs : Array Nat} {t z : Tok} {e : Int} {j c : Nat}
theorem sub_pre (F : Fr h₀ L s.heap m) (N : News h₀ L s.heap news) (ha : m na = some (.str ⟨xs⟩ t)) (hp : m np = some (.int e z)) (he : e = (j : Int)) (hj : j < xs.size) (h3 : xs.size ≤ 3)
    (h : ∀ h' t' k, Fr h₀ L h' m → News h₀ L h' news → Q (.str ⟨dr xs j⟩ t') { s with heap := h', toks := k })
    (hk : cs.kind = .function := by rfl) (hxa : (envX cn cs L a ccd cl).kindOf na = some .local := by rfl) (hxp : (envX cn cs L a ccd cl).kindOf np = some .local := by rfl)
    (hda : (na == ("__debug__" : Str)) = false := by decide) (hdp : (np == ("__debug__" : Str)) = false := by decide) :
    wpAny (model prog w) A (eval (.Subscript (.Name na p1) (.Slice (some (.Name np p2)) none none p3) p4) (envX cn cs L a ccd cl)) Q E s := by
  refine Subscript_ (nameX_L F ha ?_ hk hxa hda)
  refine wpAny_Slice (evalPart_some_step (nameX_L F hp (evalPart_none_step (evalPart_none_step ?_)) hk hxp hdp))
  exact slq_sn (sl_pre he (Nat.le_of_lt hj)) F N (sz3 h3 (Nat.le_of_ble_eq_true rfl)) h
theorem sub_post (F : Fr h₀ L s.heap m) (N : News h₀ L s.heap news) (ha : m na = some (.str ⟨xs⟩ t)) (hp : m np = some (.int e z)) (he : e = -(j : Int)) (hj : j < xs.size) (h3 : xs.size ≤ 3)
    (h : ∀ h' t' k, Fr h₀ L h' m → News h₀ L h' news → Q (.str ⟨tkE xs j⟩ t') { s with heap := h', toks := k })
    (hk : cs.kind = .function := by rfl) (hxa : (envX cn cs L a ccd cl).kindOf na = some .local := by rfl) (hxp : (envX cn cs L a ccd cl).kindOf np = some .local := by rfl)
    (hda : (na == ("__debug__" : Str)) = false := by decide) (hdp : (np == ("__debug__" : Str)) = false := by decide) :
    wpAny (model prog w) A (eval (.Subscript (.Name na p1) (.Slice none (some (.BoolOp .Or [.Name np p2, .Constant .none c p5] p6)) none p3) p4) (envX cn cs L a ccd cl)) Q E s := by
  refine Subscript_ (nameX_L F ha ?_ hk hxa hda)
  refine wpAny_Slice (evalPart_none_step (evalPart_some_step (BoolOp_or (nameX_L F hp (P.truthy_int ?_) hk hxp hdp))))
  rcases Nat.eq_zero_or_pos j with rfl | h0
  · have e0 : e = 0 := he
    subst e0
    exact BoolOp_one (Constant_none (evalPart_none_step (slq_nn sl_all F N (sz3 h3 (Nat.le_of_ble_eq_true rfl)) h)))
  · rw [show (e != 0) = true from bne_iff_ne.mpr (by omega)]
    exact evalPart_none_step (slq_ns (sl_post he h0 (Nat.le_of_lt hj)) F N (sz3 h3 (Nat.le_of_ble_eq_true rfl)) h)
end
theorem reg_Lv4_2 : True := by
  (k_with "@eval Subscript" => ((fail_if_success (k_extra "Lv4 off")); ((k_here; k_dflt ((first
  | (with_reducible refine' sub_pre ?F ?N ?ha ?hp ?he ?hj ?h3 ?_ ?k1 ?k2 ?k3 ?k4 ?k5)
  | (with_reducible refine' sub_post ?F ?N ?ha ?hp ?he ?hj ?h3 ?_ ?k1 ?k2 ?k3 ?k4 ?k5)); (case F => k_asm); (case N => k_asm); (case k1 => rfl); (case k2 => rfl); (case k3 => rfl); (case k4 => decide); (case k5 => decide); (case ha => rfl); (case hp => rfl); (case he => assumption); (case hj => assumption); (case h3 => assumption); k_whole); intro h'Q t'Q k'Q F'Q N'Q))))
  (k_with "@truthy str" => ((fail_if_success (k_extra "Lv4 off")); (k_dflt (with_reducible refine truthy_n (by assumption) (by assumption) ?_))))
  (k_with "@subscriptTail Name Name str int" => ((fail_if_success (k_extra "Lv4 off")); (k_dflt (with_reducible refine its_g (by assumption) (by assumption) (by assumption) ?_))))
  (k_with "@subscriptTail Name BinOp str int" => ((fail_if_success (k_extra "Lv4 off")); (k_dflt (with_reducible refine its_e (by assumption) (by assumption) (by assumption) ?_))))
  (k_with "@call builtin:len" => ((fail_if_success (k_extra "Lv4 off")); (k_dflt (with_reducible refine len_n (by assumption) (by assumption) ?_))))
  exact True.intro
section
variable {prog : Program} {w : World} {A : Around} {E : Value → Shared → Prop} {s : Shared} {h₀ : Heap} {L : Addr} {m : Str → Option Value} {Q : Value → Shared → Prop}
theorem list_range_N {r : Addr} {a b c : Int} {t u v : Tok} {n : Nat} {news : List (Addr × Obj)} (hh : A.handled = none) (F : Fr h₀ L s.heap m) (N : News h₀ L s.heap news)
    (hr : IsRange s.heap r a b c t u v) (hsmall : Builtin.Range.small a b c = true) (hn : Builtin.Range.rangeSize a b c = (n : Int)) (hlen : n ≤ 2 ^ 24)
    (hQ : ∀ h' tk (ys : List Value) k l, Fr h₀ L h' m → News h₀ L h' ((l, W.listOf ys.toArray k) :: news) → LCg.Off1 l news → IntsAre ys (rangeInts a c n) → Q (.ref l) { s with heap := h', toks := tk }) :
    wpAny (model prog w) A (call (.type "list") [.ref r]) Q E s := by
  refine list_rangeD hh F N hr hsmall hn hlen fun h' tk ys F' N' hk h0 hl hp hc => ?_
  obtain ⟨⟨k, e⟩, _⟩ := hp
  obtain ⟨N'', off⟩ := news_add F N N' (Heap.get?_none_of_le (Nat.le_refl _)) e
  exact hQ h' tk ys k _ F' N'' off (IntsAre.ofCarried hc)
end
theorem reg_Lv4_3 : True := by
  (k_with "@call ref" => ((fail_if_success (k_extra "Lv4 off")); ((k_here; (with_reducible show wpAny _ _ (call (Value.ref 124) _) _ _ _); k_dflt (refine' Spec.use (sub_spec _ _ _ _ _) ?k1 ?k2 ?k3 ?k4 ?k5 ?kK ?kd ?ku trivial ?_); walk_at "my prem"; intro r9Q h9Q tk9Q F9Q N9Q g9Q; obtain ⟨t9Q, e9Q⟩ := g9Q; subst e9Q; (try dsimp only); (try k_fold)))))
  exact True.intro
structure LvT where
  row : List Int
  dist : Int
  res : Int
  mn : Int
noncomputable abbrev mn2 (a b : Int) : Int := if b < a then b else a
noncomputable abbrev lvR (c : Int) (J : Nat) (t : LvT) : Int := mn2 (mn2 t.res (t.row.getD J 0) + 2) (t.dist + c)
noncomputable def lvStep (c : Int) (i : Nat) (t : LvT) : LvT :=
  ⟨t.row.set (0 + (i : Int)).toNat (lvR c (0 + (i : Int)).toNat t), t.row.getD (0 + (i : Int)).toNat 0, lvR c (0 + (i : Int)).toNat t, if lvR c (0 + (i : Int)).toNat t < t.mn then lvR c (0 + (i : Int)).toNat t else t.mn⟩
noncomputable def lvIn (c : Nat → Int) (t : LvT) : Nat → LvT
  | 0 => t
  | i + 1 => lvStep (c i) i (lvIn c t i)
noncomputable def lvT0 (row : List Int) (i : Nat) : LvT := ⟨row, (0 + (i : Int)) * 2, (0 + (i : Int)) * 2, 9223372036854775807⟩
noncomputable def lvOut (c : Nat → Nat → Int) (n : Nat) (mc : Int) : Nat → Option (List Int × Int)
  | 0 => some (rangeInts 2 2 n, 0)
  | i + 1 => match lvOut c n mc i with
    | none => none
    | some (row, _) => if (lvIn (c i) (lvT0 row i) n).mn > mc then none else some ((lvIn (c i) (lvT0 row i) n).row, (lvIn (c i) (lvT0 row i) n).res)
noncomputable def levC (c : Nat → Nat → Int) (n : Nat) (mc : Int) : Int := match lvOut c n mc n with
  | some (_, r) => r
  | none => mc + 1
theorem lv_pos {c : Nat → Int} {j : Nat} {T t0 : LvT} (hT : T = lvIn c t0 j) (h : lvR (c j) (0 + (j : Int)).toNat T < T.mn) :
    (⟨T.row.set (0 + (j : Int)).toNat (lvR (c j) (0 + (j : Int)).toNat T), T.row.getD (0 + (j : Int)).toNat 0, lvR (c j) (0 + (j : Int)).toNat T, lvR (c j) (0 + (j : Int)).toNat T⟩ : LvT) = lvIn c t0 (j + 1) := by
  show _ = lvStep (c j) j (lvIn c t0 j)
  rw [← hT, lvStep, if_pos h]
theorem lv_neg {c : Nat → Int} {j : Nat} {T t0 : LvT} (hT : T = lvIn c t0 j) (h : T.mn ≤ lvR (c j) (0 + (j : Int)).toNat T) :
    (⟨T.row.set (0 + (j : Int)).toNat (lvR (c j) (0 + (j : Int)).toNat T), T.row.getD (0 + (j : Int)).toNat 0, lvR (c j) (0 + (j : Int)).toNat T, T.mn⟩ : LvT) = lvIn c t0 (j + 1) := by
  show _ = lvStep (c j) j (lvIn c t0 j)
  rw [← hT, lvStep, if_neg (Int.not_lt.mpr h)]
theorem lv_go {c : Nat → Nat → Int} {n i : Nat} {mc r0 : Int} {row : List Int} {T : LvT} (hout : lvOut c n mc i = some (row, r0)) (hT : T = lvIn (c i) (lvT0 row i) n) (h : T.mn ≤ mc) : lvOut c n mc (i + 1) = some (T.row, T.res) := by
  rw [lvOut, hout, hT]
  simp only
  rw [if_neg (by rw [← hT]; exact Int.not_lt.mpr h)]
theorem lv_none {c : Nat → Nat → Int} {n i : Nat} {mc : Int} (h : lvOut c n mc i = none) : ∀ d, lvOut c n mc (i + d) = none
  | 0 => h
  | d + 1 => by rw [← Nat.add_assoc, lvOut, lv_none h d]
theorem lv_stop {c : Nat → Nat → Int} {n i : Nat} {mc r0 : Int} {row : List Int} {T : LvT} (hi : i < n) (hout : lvOut c n mc i = some (row, r0)) (hT : T = lvIn (c i) (lvT0 row i) n) (h : mc < T.mn) : levC c n mc = mc + 1 := by
  have : lvOut c n mc (i + 1) = none := by
    rw [lvOut, hout]
    simp only
    rw [if_pos (by rw [← hT]; exact h)]
  have := lv_none this (n - (i + 1))
  rw [show i + 1 + (n - (i + 1)) = n by omega] at this
  rw [levC, this]
noncomputable def costF (xs ys : Array Nat) (i j : Nat) : Int := subF (ys.getD i 0) (xs.getD j 0)
theorem lv_fin {c : Nat → Nat → Int} {n : Nat} {mc r0 : Int} {row : List Int} (h : lvOut c n mc n = some (row, r0)) : levC c n mc = r0 := by rw [levC, h]
noncomputable def levF (a0 a1 a2 b0 b1 b2 : Nat) (mc : Int) : Int :=
  if a0 = b0 ∧ a1 = b1 ∧ a2 = b2 then 0 else if mc < 0 then mc + 1 else
    levC (costF (trimF a0 a1 a2 b0 b1 b2).1 (trimF a0 a1 a2 b0 b1 b2).2) (trimF a0 a1 a2 b0 b1 b2).1.size mc
noncomputable def levA (A B : Array Nat) (mc : Int) : Int := levF (A.getD 0 0) (A.getD 1 0) (A.getD 2 0) (B.getD 0 0) (B.getD 1 0) (B.getD 2 0) mc
theorem arr3 {A : Array Nat} (h : A.size = 3) : A = #[A.getD 0 0, A.getD 1 0, A.getD 2 0] := by
  rcases A with ⟨l⟩
  rcases l with _ | ⟨a, _ | ⟨b, _ | ⟨c, _ | ⟨d, r⟩⟩⟩⟩ <;> first | rfl | (simp at h)
noncomputable def TrimP (A B xs ys : Array Nat) : Prop :=
  trimF (A.getD 0 0) (A.getD 1 0) (A.getD 2 0) (B.getD 0 0) (B.getD 1 0) (B.getD 2 0) = (xs, ys) ∧ ¬ (A.getD 0 0 = B.getD 0 0 ∧ A.getD 1 0 = B.getD 1 0 ∧ A.getD 2 0 = B.getD 2 0)
theorem trim_P {A B : Array Nat} {j p : Nat} (hA : A.size = 3) (hB : B.size = 3) (h : PreOk A B j) (g : PostOk (dr A j) (dr B j) p)
    (e : (dr A j).getD ((dr A j).size - 1 - p) 0 ≠ (dr B j).getD ((dr B j).size - 1 - p) 0) : TrimP A B (tkE (dr A j) p) (tkE (dr B j) p) := by
  rw [arr3 hA, arr3 hB] at h g e ⊢
  exact trim_mk h g e
theorem lv_end {A B : Array Nat} {xs ys : Array Nat} {n : Nat} {mc r : Int} (hT : TrimP A B xs ys) (hs : xs.size = n) (h0 : 0 ≤ mc) (h : levC (costF xs ys) n mc = r) : r = levA A B mc := by
  subst hs h
  obtain ⟨e, g⟩ := hT
  rw [levA, levF, if_neg g, if_neg (Int.not_lt.mpr h0), e]
theorem lev_same {A B : Array Nat} {mc : Int} (h : (({ cps := A } : Str) == { cps := B }) = true) : levA A B mc = 0 := by
  have e : A = B := congrArg Str.cps (beq_iff_eq.mp h)
  subst e
  exact if_pos ⟨rfl, rfl, rfl⟩
theorem arr_ne {A B : Array Nat} (h : (({ cps := A } : Str) == { cps := B }) = false) : A ≠ B := fun e => by subst e; simp at h
theorem lev_low {A B : Array Nat} {xs ys : Array Nat} {mc : Int} (hT : TrimP A B xs ys) (h : mc < 0) : mc + 1 = levA A B mc := by
  rw [levA, levF, if_neg hT.2, if_pos h]
inductive InvPre (A B : Array Nat) (mc : Int) (t u v : Tok) (n : Nat) : List (Addr × Obj) → List (Str × Value) → Prop
  | mk : ∀ (e : Int) (z : Tok) (j : Nat), n = 3 - j → e = (j : Int) → PreOk A B j → InvPre A B mc t u v n [] [(Str.ofString "a", Value.str ⟨A⟩ t), (Str.ofString "b", Value.str ⟨B⟩ u), (Str.ofString "max_cost", Value.int mc v), (Str.ofString "pre", Value.int e z)]
inductive InvPost (xs ys : Array Nat) (mc : Int) (t u v : Tok) (n : Nat) : List (Addr × Obj) → List (Str × Value) → Prop
  | mk : ∀ (e : Int) (z : Tok) (p : Nat), n = 3 - p → e = -(p : Int) → PostOk xs ys p → InvPost xs ys mc t u v n [] [(Str.ofString "a", Value.str ⟨xs⟩ t), (Str.ofString "b", Value.str ⟨ys⟩ u), (Str.ofString "max_cost", Value.int mc v), (Str.ofString "post", Value.int e z)]
inductive MidT (A B : Array Nat) (mc : Int) (v : Tok) : List (Addr × Obj) → List (Str × Value) → Prop
  | mk : ∀ xs ys t u n, TrimP A B xs ys → xs.size = n → ys.size = n → 0 < n → n ≤ 3 → MidT A B mc v [] [(Str.ofString "a", Value.str ⟨xs⟩ t), (Str.ofString "b", Value.str ⟨ys⟩ u), (Str.ofString "max_cost", Value.int mc v)]
inductive MidU (A B : Array Nat) (mc : Int) (tv : Tok) : List (Addr × Obj) → List (Str × Value) → Prop
  | mk : ∀ xs ys t u n l vs k z, TrimP A B xs ys → xs.size = n → ys.size = n → 0 < n → n ≤ 3 → IntsAre vs (rangeInts 2 2 n) → 0 ≤ mc → MidU A B mc tv [(l, W.listOf (List.toArray vs) k)] [(Str.ofString "a", Value.str ⟨xs⟩ t), (Str.ofString "b", Value.str ⟨ys⟩ u), (Str.ofString "max_cost", Value.int mc tv), (Str.ofString "row", Value.ref l), (Str.ofString "result", Value.int 0 z)]
inductive InvLo (xs ys : Array Nat) (t u tv : Tok) (mc : Int) (n : Nat) (l : Addr) (i : Nat) : List (Addr × Obj) → List (Str × Value) → Prop
  | mk : ∀ vs k z row r, (IntsAre vs row) → (row.length = n) → (lvOut (costF xs ys) n mc i = some (row, r)) → InvLo xs ys t u tv mc n l i ([(l, W.listOf (List.toArray vs) k)]) ([(Str.ofString "a", Value.str ⟨xs⟩ t), (Str.ofString "b", Value.str ⟨ys⟩ u), (Str.ofString "max_cost", Value.int mc tv), (Str.ofString "row", Value.ref l), (Str.ofString "result", Value.int r z)])
inductive InvLi (xs ys : Array Nat) (t u tv : Tok) (mc : Int) (n : Nat) (l I : Addr) (oI : Obj) (i : Nat) (row : List Int) (bt : Tok) (j : Nat) : List (Addr × Obj) → List (Str × Value) → Prop
  | mk : ∀ vs k z1 z2 z3 T, (IntsAre vs (LvT.row T)) → ((LvT.row T).length = n) → (T = lvIn (costF xs ys i) (lvT0 row i) j) → InvLi xs ys t u tv mc n l I oI i row bt j ([(I, oI), (l, W.listOf (List.toArray vs) k)]) ([(Str.ofString "a", Value.str ⟨xs⟩ t), (Str.ofString "b", Value.str ⟨ys⟩ u), (Str.ofString "max_cost", Value.int mc tv), (Str.ofString "row", Value.ref l), (Str.ofString "bchar", Value.str ⟨#[ys.getD i 0]⟩ bt), (Str.ofString "distance", Value.int (LvT.dist T) z1), (Str.ofString "result", Value.int (LvT.res T) z2), (Str.ofString "minimum", Value.int (LvT.mn T) z3)])
theorem lv_small {n : Nat} (h0 : 0 < n) (hn : n ≤ 3) : (Builtin.Range.small 0 n 1 = true ∧ Builtin.Range.rangeSize 0 n 1 = (n : Int)) ∧ Builtin.Range.small 2 (2 * ((n : Int) + 1)) 2 = true ∧ Builtin.Range.rangeSize 2 (2 * ((n : Int) + 1)) 2 = (n : Int) := by
  rcases lt3c (j := n - 1) (by omega) with h | h | h
  · rw [show n = 1 by omega]; decide
  · rw [show n = 2 by omega]; decide
  · rw [show n = 3 by omega]; decide
theorem lev_gen (w : World) (a b : Array Nat) (hA : a.size = 3) (hB : b.size = 3) (mc : Int) (t u v : Tok) (hm : -1 ≤ mc ∧ mc < 100) : Spec w 131 [.str ⟨a⟩ t, .str ⟨b⟩ u, .int mc v] 8 80 [] (fun _ => True) (IntG (levA a b mc)) := by
  w_top off; unfold Spec; intro p loose mean mg mb dp un gd outer base h₀ s R B X T hkp hsz hled hdp hun hask hret; revert X; k_fill; intro X; k_dflt (walk_at "my enter"); intro L' h₁ tk' F' N' hltL; (try dsimp only); (try k_fold)
  refine execs_cut 9 (MidP h₀ L' { s with heap := h₁ } (MidT a b mc v)) ?_ ?_
  · dsimp only [List.take]
    refine wp_gen ?_; intro Qz hQz
    k_steps
    · walk_at "my tidy"
      exact hret _ _ _ (Fr.keep (by k_asm)) ⟨_, congrArg (fun z => Value.int z _) (lev_same (by assumption)).symm⟩
    have hab := arr_ne (by assumption)
    have h3a : a.size ≤ 3 := Nat.le_of_eq hA
    have h3b : b.size ≤ 3 := Nat.le_of_eq hB
    (rename Fr _ _ _ _ => lF'); (rename News _ _ _ _ => lN')
    unfold MyWhile
    (with_unfolding_all refine my_while _ (InvPre a b mc t u v) 3 lF' lN' (show AllAt _ [(Str.ofString "a", _), (Str.ofString "b", _), (Str.ofString "max_cost", _), (Str.ofString "pre", _)] from ⟨rfl, rfl, rfl, rfl, trivial⟩) (InvPre.mk _ _ 0 (by rfl) (by rfl) ⟨hA ▸ by decide, hB.trans hA.symm, hab, fun i hi => absurd hi (Nat.not_lt_zero i)⟩) ?_)
    (repeat ((with_reducible (rename News _ _ _ _ => zz)); clear zz)); (repeat ((with_reducible (rename Fr _ _ _ _ => zz)); clear zz)); (repeat ((with_reducible (rename IsRange _ _ _ _ _ _ _ _ => zz)); clear zz)); (repeat ((with_reducible (rename ((_ : Obj).data = Data.cell _) => zz)); clear zz)); (repeat ((with_reducible (rename (∀ (b : Addr) (o : Obj), Heap.get? _ b = some o → Heap.get? _ b = some o) => zz)); clear zz))
    rintro n led pl uu h tk ⟨e, z, j, hn, he, hj⟩ F N
    change Fr h₀ L' h _ at F; change News h₀ L' h _ at N; (try dsimp only); (try k_fold)
    have hja := hj.1
    have hjb : j < b.size := hj.2.1 ▸ hja
    have d0 : 0 < (dr a j).size := by rw [dr_size]; omega
    have d1 : (dr a j).size ≤ 3 := by rw [dr_size]; omega
    have f0 : 0 < (dr b j).size := by rw [dr_size]; omega
    have f1 : (dr b j).size ≤ 3 := by rw [dr_size]; omega
    k_steps
    · (try subst hQz); exact tw_next (by assumption) (by assumption) (by repeat' first | exact trivial | refine ⟨by k_mem, ?_⟩) (by repeat' first | exact trivial | refine ⟨rfl, ?_⟩) (⟨3 - (j + 1), by rw [hn]; omega, InvPre.mk _ _ (j + 1) rfl (by rw [he]; rfl) (pre_step hj (ch_eq (by assumption)))⟩)
    have hp := post_zero hj (ch_ne (by assumption))
    clear he hn
    (rename Fr _ _ _ _ => lF'); (rename News _ _ _ _ => lN')
    unfold MyWhile
    (with_unfolding_all refine my_while _ (InvPost (dr a j) (dr b j) mc _ _ v) 3 lF' lN' (show AllAt _ [(Str.ofString "a", _), (Str.ofString "b", _), (Str.ofString "max_cost", _), (Str.ofString "post", _)] from ⟨rfl, rfl, rfl, rfl, trivial⟩) (InvPost.mk _ _ 0 (by rfl) (by rfl) hp) ?_)
    clear hp hja hjb
    (repeat ((with_reducible (rename News _ _ _ _ => zz)); clear zz)); (repeat ((with_reducible (rename Fr _ _ _ _ => zz)); clear zz)); (repeat ((with_reducible (rename IsRange _ _ _ _ _ _ _ _ => zz)); clear zz)); (repeat ((with_reducible (rename ((_ : Obj).data = Data.cell _) => zz)); clear zz)); (repeat ((with_reducible (rename (∀ (b : Addr) (o : Obj), Heap.get? _ b = some o → Heap.get? _ b = some o) => zz)); clear zz))
    rintro n led pl uu h tk ⟨e, z, p, hn, he, hp⟩ F N
    change Fr h₀ L' h _ at F; change News h₀ L' h _ at N; (try dsimp only); (try k_fold)
    have q1 := hp.1
    have q2 : p < (dr b j).size := hp.2.1 ▸ hp.1
    have k0 : (dr a j).size - p ≤ 3 := by omega
    have k1 : 0 < (tkE (dr a j) p).size := by rw [tk_size]; omega
    have k2 : (tkE (dr a j) p).size ≤ 3 := by rw [tk_size]; omega
    have k3 : 0 < (tkE (dr b j) p).size := by rw [tk_size]; omega
    have k4 : (tkE (dr b j) p).size ≤ 3 := by rw [tk_size]; omega
    k_steps
    · (try subst hQz); exact tw_next (by assumption) (by assumption) (by repeat' first | exact trivial | refine ⟨by k_mem, ?_⟩) (by repeat' first | exact trivial | refine ⟨rfl, ?_⟩) (⟨3 - (p + 1), by rw [hn]; omega, InvPost.mk _ _ (p + 1) rfl (by rw [he]; omega) (post_step hp (ch_eq (by assumption)))⟩)
    · (try subst hQz); (try subst hQz); exact mid_next (by assumption) (by assumption) (by repeat' first | exact trivial | refine ⟨by k_mem, ?_⟩) (by repeat' first | exact trivial | refine ⟨rfl, ?_⟩) (MidT.mk _ _ _ _ _ (trim_P hA hB hj hp (ch_ne (by assumption))) rfl (by rw [tk_size, tk_size, hp.2.1]) k1 k2)
  · dsimp only [List.drop]
    intro s' hs'
    refine mid_get hs' ?_
    rintro h tk led pl uu rfl F N ⟨xs, ys, t, u, n, hT, hx, hy, n0, n3⟩
    clear hs'
    change Fr h₀ L' h _ at F; change News h₀ L' h _ at N; (try dsimp only); (try k_fold)
    refine execs_cut 6 (MidP h₀ L' { s with heap := h₁ } (MidU a b mc v)) ?_ ?_
    · dsimp only [List.take]
      refine wp_gen ?_; intro Qz hQz
      have x0 : 0 < xs.size := hx ▸ n0
      have x3 : xs.size ≤ 3 := hx ▸ n3
      have y0 : 0 < ys.size := hy ▸ n0
      have y3 : ys.size ≤ 3 := hy ▸ n3
      have hsm := (lv_small n0 n3).2.1
      have hsz2 := (lv_small n0 n3).2.2
      have hle : n ≤ 2 ^ 24 := Nat.le_trans n3 (by decide)
      k_steps
      · walk_at "my tidy"
        exact hret _ _ _ (Fr.keep (by k_asm)) ⟨_, congrArg (fun z => Value.int z _) (lev_low hT (by omega))⟩
      (rename IsRange _ _ _ _ _ _ _ _ => rgX)
      refine list_range_N (by rfl) (by k_asm) (by k_asm) rgX hsm hsz2 hle ?_
      intro h' tk' vs' k' l' F' N' o' i'
      k_steps
      (try subst hQz); (try subst hQz); exact mid_next (by assumption) (by assumption) (by repeat' first | exact trivial | refine ⟨by k_mem, ?_⟩) (by repeat' first | exact trivial | refine ⟨rfl, ?_⟩) (MidU.mk _ _ _ _ _ _ _ _ _ hT hx hy n0 n3 (by assumption) (by omega))
    · clear F N; (repeat ((with_reducible (rename News _ _ _ _ => zz)); clear zz)); (repeat ((with_reducible (rename Fr _ _ _ _ => zz)); clear zz)); (repeat ((with_reducible (rename IsRange _ _ _ _ _ _ _ _ => zz)); clear zz)); (repeat ((with_reducible (rename ((_ : Obj).data = Data.cell _) => zz)); clear zz)); (repeat ((with_reducible (rename (∀ (b : Addr) (o : Obj), Heap.get? _ b = some o → Heap.get? _ b = some o) => zz)); clear zz))
      dsimp only [List.drop]
      intro s' hs'
      refine mid_get hs' ?_
      clear hT
      rintro h tk led pl uu rfl F N ⟨xs, ys, t, u, n, l, vs, k, z, hTr, h1, h2, h3, h4, hI, hm0⟩
      clear hs'
      change Fr h₀ L' h _ at F; change News h₀ L' h _ at N; (try dsimp only); (try k_fold)
      have h5 := (lv_small h3 h4).1
      have h1' : xs.size ≤ 3 := h1 ▸ h4
      have h2' : ys.size ≤ 3 := h2 ▸ h4
      k_steps
      (rename Fr _ _ _ _ => lF'); (rename News _ _ _ _ => lN'); (rename IsRange _ _ _ _ _ _ _ _ => rgX)
      (with_unfolding_all refine my_range _ (InvLo xs ys t u v mc n l) (by rfl) rgX h5.1 (n := n) h5.2 lF' lN' (show AllAt _ [(Str.ofString "a", _), (Str.ofString "b", _), (Str.ofString "max_cost", _), (Str.ofString "row", _), (Str.ofString "result", _)] from ⟨rfl, rfl, rfl, rfl, rfl, trivial⟩) ⟨_, _, _, _, _, hI, rangeInts_length .., rfl⟩ ?_ ?_)
      · (repeat ((with_reducible (rename News _ _ _ _ => zz)); clear zz)); (repeat ((with_reducible (rename Fr _ _ _ _ => zz)); clear zz)); (repeat ((with_reducible (rename IsRange _ _ _ _ _ _ _ _ => zz)); clear zz)); (repeat ((with_reducible (rename ((_ : Obj).data = Data.cell _) => zz)); clear zz)); (repeat ((with_reducible (rename (∀ (b : Addr) (o : Obj), Heap.get? _ b = some o → Heap.get? _ b = some o) => zz)); clear zz))
        clear hI
        rintro i v led pl I u o h tk hi ⟨t, rfl⟩ ⟨vs, k, z, row, r, hI, hlen, hout⟩ ho F N
        change Fr h₀ L' h _ at F; change News h₀ L' h _ at N; (try dsimp only); (try k_fold)
        have z0 := Int.zero_add (i : Int)
        have z1 : i < ys.size := h2 ▸ hi
        k_steps
        (rename Fr _ _ _ _ => lF'); (rename News _ _ _ _ => lN'); (rename IsRange _ _ _ _ _ _ _ _ => rgX)
        (with_unfolding_all refine my_range _ (InvLi xs ys _ _ _ mc n l I o i row _) (by rfl) rgX h5.1 (n := n) h5.2 lF' lN' (show AllAt _ [(Str.ofString "a", _), (Str.ofString "b", _), (Str.ofString "max_cost", _), (Str.ofString "row", _), (Str.ofString "bchar", _), (Str.ofString "distance", _), (Str.ofString "result", _), (Str.ofString "minimum", _)] from ⟨rfl, rfl, rfl, rfl, rfl, rfl, rfl, rfl, trivial⟩) ⟨_, _, _, _, _, lvT0 row i, hI, hlen, rfl⟩ ?_ ?_)
        · (repeat ((with_reducible (rename News _ _ _ _ => zz)); clear zz)); (repeat ((with_reducible (rename Fr _ _ _ _ => zz)); clear zz)); (repeat ((with_reducible (rename IsRange _ _ _ _ _ _ _ _ => zz)); clear zz)); (repeat ((with_reducible (rename ((_ : Obj).data = Data.cell _) => zz)); clear zz)); (repeat ((with_reducible (rename (∀ (b : Addr) (o : Obj), Heap.get? _ b = some o → Heap.get? _ b = some o) => zz)); clear zz))
          clear hI
          rintro j v led pl J u o h tk hj ⟨t, rfl⟩ ⟨vs, k, z1, z2, z3, T, hI, hlen, hT⟩ ho F N
          change Fr h₀ L' h _ at F; change News h₀ L' h _ at N; (try dsimp only); (try k_fold)
          have z4 := Int.zero_add (j : Int)
          have z5 : j < xs.size := h1 ▸ hj
          k_steps
          · (try subst hQz); exact te_next (by assumption) (by assumption) (by repeat' first | exact trivial | refine ⟨by k_mem, ?_⟩) (by repeat' first | exact trivial | refine ⟨rfl, ?_⟩) (⟨_, _, _, _, _, ⟨_, _, _, _⟩, by assumption, by (rw [List.length_set]; exact hlen), lv_pos hT (by assumption)⟩) (by exact ho)
          · (try subst hQz); exact te_next (by assumption) (by assumption) (by repeat' first | exact trivial | refine ⟨by k_mem, ?_⟩) (by repeat' first | exact trivial | refine ⟨rfl, ?_⟩) (⟨_, _, _, _, _, ⟨_, _, _, _⟩, by assumption, by (rw [List.length_set]; exact hlen), lv_neg hT (by first | assumption | exact Int.not_lt.mp (by assumption) | omega)⟩) (by exact ho)
        · (repeat ((with_reducible (rename News _ _ _ _ => zz)); clear zz)); (repeat ((with_reducible (rename Fr _ _ _ _ => zz)); clear zz)); (repeat ((with_reducible (rename IsRange _ _ _ _ _ _ _ _ => zz)); clear zz)); (repeat ((with_reducible (rename ((_ : Obj).data = Data.cell _) => zz)); clear zz)); (repeat ((with_reducible (rename (∀ (b : Addr) (o : Obj), Heap.get? _ b = some o → Heap.get? _ b = some o) => zz)); clear zz))
          rintro led pl u h tk ⟨vs, k, z1, z2, z3, T, hI, hlen, hT⟩ F N
          change Fr h₀ L' h _ at F; change News h₀ L' h _ at N; (try dsimp only); (try k_fold)
          k_steps
          · (try subst hQz); unfold TE
            walk_at "my tidy"
            exact hret _ _ _ (Fr.keep (by k_asm)) ⟨_, congrArg (fun z => Value.int z _) (lv_end hTr h1 hm0 (lv_stop hi hout hT (by assumption)))⟩
          · (try subst hQz); exact te_next (by assumption) (by assumption) (by repeat' first | exact trivial | refine ⟨by k_mem, ?_⟩) (by repeat' first | exact trivial | refine ⟨rfl, ?_⟩) (⟨_, _, _, _, _, hI, hlen, lv_go hout hT (by first | assumption | exact Int.not_lt.mp (by assumption) | omega)⟩) (by exact ho)
      · (repeat ((with_reducible (rename News _ _ _ _ => zz)); clear zz)); (repeat ((with_reducible (rename Fr _ _ _ _ => zz)); clear zz)); (repeat ((with_reducible (rename IsRange _ _ _ _ _ _ _ _ => zz)); clear zz)); (repeat ((with_reducible (rename ((_ : Obj).data = Data.cell _) => zz)); clear zz)); (repeat ((with_reducible (rename (∀ (b : Addr) (o : Obj), Heap.get? _ b = some o → Heap.get? _ b = some o) => zz)); clear zz))
        rintro led pl u h tk ⟨vs, k, z, row, r, hI, hlen, hout⟩ F N
        change Fr h₀ L' h _ at F; change News h₀ L' h _ at N; (try dsimp only); (try k_fold)
        k_steps
        walk_at "my tidy"
        exact hret _ _ _ (Fr.keep (by k_asm)) ⟨_, congrArg (fun z => Value.int z _) (lv_end hTr h1 hm0 (lv_fin hout))⟩
theorem lev_spec (w : World) (a0 a1 a2 b0 b1 b2 : Nat) (mc : Int) (t u v : Tok) (hm : -1 ≤ mc ∧ mc < 100) : Spec w 131 [.str ⟨#[a0, a1, a2]⟩ t, .str ⟨#[b0, b1, b2]⟩ u, .int mc v] 8 80 [] (fun _ => True) (IntG (levF a0 a1 a2 b0 b1 b2 mc)) :=
  lev_gen w #[a0, a1, a2] #[b0, b1, b2] rfl rfl mc t u v hm
theorem off_Lv4 : True := by
  (k_with "Lv4 off" => skip)
  exact True.intro

end
section --Pl1

theorem lvIn_congr {c c' : Nat → Int} {t : LvT} {n : Nat} (h : ∀ j, j < n → c j = c' j) : ∀ k, k ≤ n → lvIn c t k = lvIn c' t k
  | 0, _ => rfl
  | k + 1, hk => by
    show lvStep (c k) k (lvIn c t k) = lvStep (c' k) k (lvIn c' t k)
    rw [h k hk, lvIn_congr h k (Nat.le_of_succ_le hk)]
theorem lvOut_congr {c c' : Nat → Nat → Int} {n : Nat} {mc : Int} (h : ∀ i, i < n → ∀ j, j < n → c i j = c' i j) : ∀ k, k ≤ n → lvOut c n mc k = lvOut c' n mc k
  | 0, _ => rfl
  | k + 1, hk => by
    rw [lvOut, lvOut, lvOut_congr h k (Nat.le_of_succ_le hk)]
    cases lvOut c' n mc k with
    | none => rfl
    | some p =>
      obtain ⟨row, r⟩ := p
      simp only
      rw [lvIn_congr (h k hk) n (Nat.le_refl n)]
theorem levC_congr {c c' : Nat → Nat → Int} {n : Nat} {mc : Int} (h : ∀ i, i < n → ∀ j, j < n → c i j = c' i j) : levC c n mc = levC c' n mc := by
  unfold levC
  rw [lvOut_congr h n (Nat.le_refl n)]
noncomputable def mat (l : List (List Int)) (i j : Nat) : Int := (l.getD i []).getD j 0
theorem m3 : ∀ (c0 c1 c2 d : Fin 3), c0.val ≠ 0 → c2.val ≠ 0 → levC (mat [[(c0.val : Int), 2, 2], [2, (c1.val : Int), 2], [2, 2, (c2.val : Int)]]) 3 ((c0.val : Int) + ((c1.val : Int) + ((c2.val : Int) + 0)) + (d.val : Int) - 1) = (c0.val : Int) + ((c1.val : Int) + ((c2.val : Int) + 0)) := by decide +kernel
theorem m2 : ∀ (c0 c1 d : Fin 3), c0.val ≠ 0 → c1.val ≠ 0 → levC (mat [[(c0.val : Int), 2], [2, (c1.val : Int)]]) 2 ((c0.val : Int) + (c1.val : Int) + (d.val : Int) - 1) = (c0.val : Int) + (c1.val : Int) := by decide +kernel
theorem m1 : ∀ (c0 d : Fin 3), c0.val ≠ 0 → levC (mat [[(c0.val : Int)]]) 1 ((c0.val : Int) + (d.val : Int) - 1) = (c0.val : Int) := by decide +kernel
theorem fin3 {c : Int} (k : 0 ≤ c ∧ c < 3) : ∃ C : Fin 3, (C.val : Int) = c := ⟨⟨c.toNat, by (first | lia | omega)⟩, by show ((c.toNat : Nat) : Int) = c; (first | lia | omega)⟩
theorem lev1 {a b : Nat} {c mc : Int} (k : 0 < c ∧ c < 3) (s : subF b a = c) (h : c - 1 ≤ mc ∧ mc ≤ c + 1) : levC (costF #[a] #[b]) 1 mc = c := by
  obtain ⟨C, hC⟩ := fin3 (c := c) (by (first | lia | omega))
  obtain ⟨d, hd⟩ := fin3 (c := mc - c + 1) (by (first | lia | omega))
  rw [levC_congr (c := costF #[a] #[b]) (c' := mat [[(C.val : Int)]]) (n := 1) (fun i hi j hj => by
    obtain rfl : i = 0 := by (first | lia | omega)
    obtain rfl : j = 0 := by (first | lia | omega)
    show subF b a = _
    rw [s, ← hC]; rfl)]
  have := m1 C d (by (first | lia | omega))
  rw [show (C.val : Int) + (d.val : Int) - 1 = mc by (first | lia | omega)] at this
  rw [this, hC]
theorem lev2 {a0 a1 b0 b1 : Nat} {c0 c1 mc : Int} (k0 : 0 < c0 ∧ c0 < 3) (k1 : 0 < c1 ∧ c1 < 3) (s00 : subF b0 a0 = c0) (s11 : subF b1 a1 = c1) (s01 : subF b0 a1 = 2) (s10 : subF b1 a0 = 2) (h : c0 + c1 - 1 ≤ mc ∧ mc ≤ c0 + c1 + 1) : levC (costF #[a0, a1] #[b0, b1]) 2 mc = c0 + c1 := by
  obtain ⟨C0, hC0⟩ := fin3 (c := c0) (by (first | lia | omega))
  obtain ⟨C1, hC1⟩ := fin3 (c := c1) (by (first | lia | omega))
  obtain ⟨d, hd⟩ := fin3 (c := mc - (c0 + c1) + 1) (by (first | lia | omega))
  rw [levC_congr (c := costF #[a0, a1] #[b0, b1]) (c' := mat [[(C0.val : Int), 2], [2, (C1.val : Int)]]) (n := 2) (fun i hi j hj => by
    rcases (show i = 0 ∨ i = 1 by (first | lia | omega)) with rfl | rfl <;> rcases (show j = 0 ∨ j = 1 by (first | lia | omega)) with rfl | rfl
    · show subF b0 a0 = _; rw [s00, ← hC0]; rfl
    · exact s01
    · exact s10
    · show subF b1 a1 = _; rw [s11, ← hC1]; rfl)]
  have := m2 C0 C1 d (by (first | lia | omega)) (by (first | lia | omega))
  rw [show (C0.val : Int) + (C1.val : Int) + (d.val : Int) - 1 = mc by (first | lia | omega)] at this
  rw [this, hC0, hC1]
theorem lev3 {a0 a1 a2 b0 b1 b2 : Nat} {c0 c1 c2 mc : Int} (k0 : 0 < c0 ∧ c0 < 3) (k1 : 0 ≤ c1 ∧ c1 < 3) (k2 : 0 < c2 ∧ c2 < 3) (s00 : subF b0 a0 = c0) (s11 : subF b1 a1 = c1) (s22 : subF b2 a2 = c2) (s01 : subF b0 a1 = 2) (s02 : subF b0 a2 = 2) (s10 : subF b1 a0 = 2) (s12 : subF b1 a2 = 2) (s20 : subF b2 a0 = 2) (s21 : subF b2 a1 = 2)
    (h : c0 + (c1 + (c2 + 0)) - 1 ≤ mc ∧ mc ≤ c0 + (c1 + (c2 + 0)) + 1) : levC (costF #[a0, a1, a2] #[b0, b1, b2]) 3 mc = c0 + (c1 + (c2 + 0)) := by
  obtain ⟨C0, hC0⟩ := fin3 (c := c0) (by (first | lia | omega))
  obtain ⟨C1, hC1⟩ := fin3 (c := c1) (by (first | lia | omega))
  obtain ⟨C2, hC2⟩ := fin3 (c := c2) (by (first | lia | omega))
  obtain ⟨d, hd⟩ := fin3 (c := mc - (c0 + (c1 + (c2 + 0))) + 1) (by (first | lia | omega))
  rw [levC_congr (c := costF #[a0, a1, a2] #[b0, b1, b2]) (c' := mat [[(C0.val : Int), 2, 2], [2, (C1.val : Int), 2], [2, 2, (C2.val : Int)]]) (n := 3) (fun i hi j hj => by
    rcases (show i = 0 ∨ i = 1 ∨ i = 2 by (first | lia | omega)) with rfl | rfl | rfl <;> rcases (show j = 0 ∨ j = 1 ∨ j = 2 by (first | lia | omega)) with rfl | rfl | rfl
    · show subF b0 a0 = _; rw [s00, ← hC0]; rfl
    · exact s01
    · exact s02
    · exact s10
    · show subF b1 a1 = _; rw [s11, ← hC1]; rfl
    · exact s12
    · exact s20
    · exact s21
    · show subF b2 a2 = _; rw [s22, ← hC2]; rfl)]
  have := m3 C0 C1 C2 d (by (first | lia | omega)) (by (first | lia | omega))
  rw [show (C0.val : Int) + ((C1.val : Int) + ((C2.val : Int) + 0)) + (d.val : Int) - 1 = mc by (first | lia | omega)] at this
  rw [this, hC0, hC1, hC2]
theorem lev_abs {a0 a1 a2 b0 b1 b2 : Nat} {c0 c1 c2 mc : Int} (k0 : 0 ≤ c0 ∧ c0 < 3) (k1 : 0 ≤ c1 ∧ c1 < 3) (k2 : 0 ≤ c2 ∧ c2 < 3) (e0 : a0 = b0 ↔ c0 = 0) (e1 : a1 = b1 ↔ c1 = 0) (e2 : a2 = b2 ↔ c2 = 0)
    (s00 : subF b0 a0 = c0) (s11 : subF b1 a1 = c1) (s22 : subF b2 a2 = c2) (s01 : subF b0 a1 = 2) (s02 : subF b0 a2 = 2) (s10 : subF b1 a0 = 2) (s12 : subF b1 a2 = 2) (s20 : subF b2 a0 = 2) (s21 : subF b2 a1 = 2)
    (h : c0 + (c1 + (c2 + 0)) - 1 ≤ mc ∧ mc ≤ c0 + (c1 + (c2 + 0)) + 1) : levF a0 a1 a2 b0 b1 b2 mc = c0 + (c1 + (c2 + 0)) := by
  have n0 : c0 ≠ 0 → a0 ≠ b0 := fun q e => q (e0.mp e)
  have n1 : c1 ≠ 0 → a1 ≠ b1 := fun q e => q (e1.mp e)
  have n2 : c2 ≠ 0 → a2 ≠ b2 := fun q e => q (e2.mp e)
  unfold levF
  by_cases z : c0 = 0 ∧ c1 = 0 ∧ c2 = 0
  · rw [if_pos ⟨e0.mpr z.1, e1.mpr z.2.1, e2.mpr z.2.2⟩]; (first | lia | omega)
  · rw [if_neg (fun q => z ⟨e0.mp q.1, e1.mp q.2.1, e2.mp q.2.2⟩), if_neg (by (first | lia | omega))]
    unfold trimF
    by_cases z0 : c0 = 0
    · rw [if_neg (not_not_intro (e0.mpr z0))]
      by_cases z1 : c1 = 0
      · rw [if_neg (not_not_intro (e1.mpr z1))]
        exact (lev1 (by (first | lia | omega)) s22 (by (first | lia | omega))).trans (by (first | lia | omega))
      · rw [if_pos (n1 z1)]
        by_cases z2 : c2 = 0
        · rw [if_neg (not_not_intro (e2.mpr z2))]
          exact (lev1 (by (first | lia | omega)) s11 (by (first | lia | omega))).trans (by (first | lia | omega))
        · rw [if_pos (n2 z2)]
          exact (lev2 (by (first | lia | omega)) (by (first | lia | omega)) s11 s22 s12 s21 (by (first | lia | omega))).trans (by (first | lia | omega))
    · rw [if_pos (n0 z0)]
      by_cases z2 : c2 = 0
      · rw [if_neg (not_not_intro (e2.mpr z2))]
        by_cases z1 : c1 = 0
        · rw [if_neg (not_not_intro (e1.mpr z1))]
          exact (lev1 (by (first | lia | omega)) s00 (by (first | lia | omega))).trans (by (first | lia | omega))
        · rw [if_pos (n1 z1)]
          exact (lev2 (by (first | lia | omega)) (by (first | lia | omega)) s00 s11 s01 s10 (by (first | lia | omega))).trans (by (first | lia | omega))
      · rw [if_pos (n2 z2)]
        exact lev3 (by (first | lia | omega)) k1 (by (first | lia | omega)) s00 s11 s22 s01 s02 s10 s12 s20 s21 (by (first | lia | omega))
noncomputable def costOk (b0 b1 b2 c : Nat) (p : Int) : Bool := subF b0 c == p && subF b1 c == 2 && subF b2 c == 2
theorem ck_k : ((costOk 107 952 969 107 0 && costOk 107 952 969 75 1 && costOk 107 952 969 8490 1) && (List.range 13).all fun a => costOk 107 952 969 (119818 + 52 * a) 2) = true := by decide +kernel
theorem ck_t : ((costOk 952 107 969 952 0 && costOk 952 107 969 920 1 && costOk 952 107 969 1012 1) && (List.range 5).all fun a => costOk 952 107 969 (120495 + 58 * a) 2) = true := by decide +kernel
theorem ck_o : ((costOk 969 107 952 969 0 && costOk 969 107 952 937 1 && costOk 969 107 952 8486 1) && (List.range 5).all fun a => costOk 969 107 952 (120512 + 58 * a) 2) = true := by decide +kernel
noncomputable def leeF (r : Int) : Int := if 4 - r < r then 4 - r else r
theorem cost_k {al r : Int} (hr : 0 ≤ r ∧ r < 4) : costOk 107 952 969 (kayF al r).toNat (leeF r) = true ∧ ((kayF al r).toNat = 107 ↔ leeF r = 0) := by
  have h0 := fmod_lo al (n := 13) (by decide)
  have h1 := fmod_hi al (n := 13) (by decide)
  have c := ck_k
  simp only [Bool.and_eq_true] at c
  obtain ⟨⟨⟨c1, c2⟩, c3⟩, c4⟩ := c
  rcases of4 hr with rfl | rfl | rfl | rfl
  · exact ⟨c1, by show ((107:Nat) = 107 ↔ leeF 0 = 0); decide⟩
  · exact ⟨c2, by show ((75:Nat) = 107 ↔ leeF 1 = 0); decide⟩
  · have e : (kayF al 2).toNat = 119818 + 52 * (al.fmod 13).toNat := by
      exact nat_lin 119818 52 h0
    rw [e]
    exact ⟨List.all_eq_true.mp c4 _ (List.mem_range.mpr (nat_lt h0 h1)), ⟨fun q => by (first | lia | omega), fun q => by simp [leeF] at q⟩⟩
  · exact ⟨c3, by show ((8490:Nat) = 107 ↔ leeF 3 = 0); decide⟩
theorem cost_t {al r : Int} (hr : 0 ≤ r ∧ r < 4) : costOk 952 107 969 (theF al r).toNat (leeF r) = true ∧ ((theF al r).toNat = 952 ↔ leeF r = 0) := by
  have h0 := fmod_lo al (n := 5) (by decide)
  have h1 := fmod_hi al (n := 5) (by decide)
  have c := ck_t
  simp only [Bool.and_eq_true] at c
  obtain ⟨⟨⟨c1, c2⟩, c3⟩, c4⟩ := c
  rcases of4 hr with rfl | rfl | rfl | rfl
  · exact ⟨c1, by show ((952:Nat) = 952 ↔ leeF 0 = 0); decide⟩
  · exact ⟨c2, by show ((920:Nat) = 952 ↔ leeF 1 = 0); decide⟩
  · have e : (theF al 2).toNat = 120495 + 58 * (al.fmod 5).toNat := by
      exact nat_lin 120495 58 h0
    rw [e]
    exact ⟨List.all_eq_true.mp c4 _ (List.mem_range.mpr (nat_lt h0 h1)), ⟨fun q => by (first | lia | omega), fun q => by simp [leeF] at q⟩⟩
  · exact ⟨c3, by show ((1012:Nat) = 952 ↔ leeF 3 = 0); decide⟩
theorem cost_o {al r : Int} (hr : 0 ≤ r ∧ r < 4) : costOk 969 107 952 (omeF al r).toNat (leeF r) = true ∧ ((omeF al r).toNat = 969 ↔ leeF r = 0) := by
  have h0 := fmod_lo al (n := 5) (by decide)
  have h1 := fmod_hi al (n := 5) (by decide)
  have c := ck_o
  simp only [Bool.and_eq_true] at c
  obtain ⟨⟨⟨c1, c2⟩, c3⟩, c4⟩ := c
  rcases of4 hr with rfl | rfl | rfl | rfl
  · exact ⟨c1, by show ((969:Nat) = 969 ↔ leeF 0 = 0); decide⟩
  · exact ⟨c2, by show ((937:Nat) = 969 ↔ leeF 1 = 0); decide⟩
  · have e : (omeF al 2).toNat = 120512 + 58 * (al.fmod 5).toNat := by
      exact nat_lin 120512 58 h0
    rw [e]
    exact ⟨List.all_eq_true.mp c4 _ (List.mem_range.mpr (nat_lt h0 h1)), ⟨fun q => by (first | lia | omega), fun q => by simp [leeF] at q⟩⟩
  · exact ⟨c3, by show ((8486:Nat) = 969 ↔ leeF 3 = 0); decide⟩
theorem cost_of {b0 b1 b2 c : Nat} {p : Int} (h : costOk b0 b1 b2 c p = true) : subF b0 c = p ∧ subF b1 c = 2 ∧ subF b2 c = 2 := by
  unfold costOk at h
  simp only [Bool.and_eq_true, beq_iff_eq] at h
  exact ⟨h.1.1, h.1.2, h.2⟩
theorem leeF_b {r : Int} (h : 0 ≤ r ∧ r < 4) : 0 ≤ leeF r ∧ leeF r < 3 := by unfold leeF; (first | lia | omega)
noncomputable def priceF (r0 r1 r2 : Int) : Int := (if 4 - r0 < r0 then 4 - r0 else r0) + ((if 4 - r1 < r1 then 4 - r1 else r1) + ((if 4 - r2 < r2 then 4 - r2 else r2) + 0))
theorem lev_law (al r0 r1 r2 mc : Int) (g0 : 0 ≤ r0 ∧ r0 < 4) (g1 : 0 ≤ r1 ∧ r1 < 4) (g2 : 0 ≤ r2 ∧ r2 < 4) (h : priceF r0 r1 r2 - 1 ≤ mc ∧ mc ≤ priceF r0 r1 r2 + 1) :
    levF (kayF al r0).toNat (theF al r1).toNat (omeF al r2).toNat 107 952 969 mc = priceF r0 r1 r2 := by
  obtain ⟨x0, y0⟩ := cost_k (al := al) g0
  obtain ⟨x1, y1⟩ := cost_t (al := al) g1
  obtain ⟨x2, y2⟩ := cost_o (al := al) g2
  obtain ⟨u1, u2, u3⟩ := cost_of x0
  obtain ⟨v1, v2, v3⟩ := cost_of x1
  obtain ⟨w1, w2, w3⟩ := cost_of x2
  exact lev_abs (leeF_b g0) (leeF_b g1) (leeF_b g2) y0 y1 y2 u1 v1 w1 v2 w2 u2 w3 u3 v3 h

end
section --Lvl



end
section --No1

local macro_rules | `(tactic| size_fits) => `(tactic| walk_at "my size_fits")


theorem reg_No1_1 : True := by
  (k_with "@my size_fits" => ((fail_if_success (k_extra "No1 off")); (((simp only [Array.size_push, PySem.sizeLine_eq]); omega))))
  (k_with "@subscriptTail Name BinOp ref int" => ((fail_if_success (k_extra "No1 off")); (k_dflt (refine news_item (by k_asm) (by k_mem) (by decide) (by rfl) (by decide) ?_))))
  exact True.intro
section
variable {prog : Program} {w : World} {A : Around} {E : Value → Shared → Prop} {s : Shared} {h₀ : Heap} {L l : Addr} {m : Str → Option Value} {news : List (Addr × Obj)} {value slice : PySem.Expr} {n i j : Nat} {u : Tok} {k : Int} {Q : Value → Shared → Prop}
theorem nm_item {n0 n1 n2 n3 n4 n5 : Str} {s0 s1 s2 s3 s4 s5 : Tok} (N : News h₀ L s.heap news) (hm : (l, W.listOf #[.str n0 s0, .str n1 s1, .str n2 s2, .str n3 s3, .str n4 s4, .str n5 s5] n) ∈ news) (hj : j < 6) (e : k = (j : Int)) (h : ∀ t, Q (.str ([n0, n1, n2, n3, n4, n5].getD j (Str.ofString "")) t) s)
    (hs : subscripted slice false (.ref l) (.int k u) = operate [.ref l, .int k u] (getItem (.ref l) (.int k u)) := by with_unfolding_all rfl) (hg : ∀ r, letTemporaryGo value (.ref l) r = pure () := by intro _; with_unfolding_all rfl) :
    wpAny (model prog w) A (subscriptTail value slice (.ref l) (.int k u)) Q E s := by
  subst e
  match j, hj with
  | 0, _ => exact news_item N hm (by decide) rfl (by decide) (h _) hs hg
  | 1, _ => exact news_item N hm (by decide) rfl (by decide) (h _) hs hg
  | 2, _ => exact news_item N hm (by decide) rfl (by decide) (h _) hs hg
  | 3, _ => exact news_item N hm (by decide) rfl (by decide) (h _) hs hg
  | 4, _ => exact news_item N hm (by decide) rfl (by decide) (h _) hs hg
  | 5, _ => exact news_item N hm (by decide) rfl (by decide) (h _) hs hg
end
noncomputable def nmL : List Str := [Str.ofString "OPTIMIZED", Str.ofString "NEWLOCALS", Str.ofString "VARARGS", Str.ofString "VARKEYWORDS", Str.ofString "NESTED", Str.ofString "GENERATOR"]
noncomputable def nmP (c : Bool) (acc : List Str) (j : Nat) : List Str := if c = true then acc ++ [nmL.getD j (Str.ofString "")] else acc
noncomputable def nmG (o p : Int) (acc : List Str) (i : Nat) : List Str := nmP (([2, 3].any fun x => x == o) != ([2, 3].any fun x => x == p)) (nmP (([1, 2].any fun x => x == o) != ([1, 2].any fun x => x == p)) acc (2 * i)) (2 * i + 1)
noncomputable def namesF (o0 o1 o2 p0 p1 p2 : Int) : Nat → List Str
  | 0 => []
  | i + 1 => nmG ([o0, o1, o2].getD i 0) ([p0, p1, p2].getD i 0) (namesF o0 o1 o2 p0 p1 p2 i) i
inductive InvN (o0 o1 o2 p0 p1 p2 : Int) (a b nl : Addr) (nO : Obj) (i : Nat) : List (Addr × Obj) → List (Str × Value) → Prop
  | mk : ∀ l vs k ss, (@LT.lt Nat instLTNat nl l) → (StrsAre vs.toList ss) → (ss = namesF o0 o1 o2 p0 p1 p2 i) → (vs.size ≤ 2 * i) → InvN o0 o1 o2 p0 p1 p2 a b nl nO i ([(l, W.listOf vs k), (nl, nO)]) ([(Str.ofString "told", Value.ref l), (Str.ofString "names", Value.ref nl), (Str.ofString "one", Value.ref a), (Str.ofString "other", Value.ref b)])
section
variable {o0 o1 o2 p0 p1 p2 o p : Int} {i : Nat} {x y : Str}
theorem nm_tt (e1 : [o0, o1, o2].getD i 0 = o) (e2 : [p0, p1, p2].getD i 0 = p) (h1 : (([1, 2].any fun x => x == o) != ([1, 2].any fun x => x == p)) = true) (h2 : (([2, 3].any fun x => x == o) != ([2, 3].any fun x => x == p)) = true) (ex : nmL.getD (2 * i) (Str.ofString "") = x) (ey : nmL.getD (2 * i + 1) (Str.ofString "") = y) :
    namesF o0 o1 o2 p0 p1 p2 i ++ [x] ++ [y] = namesF o0 o1 o2 p0 p1 p2 (i + 1) := by
  show _ = nmG _ _ _ _
  rw [e1, e2, nmG, nmP, nmP, if_pos h2, if_pos h1, ex, ey]
theorem nm_tf (e1 : [o0, o1, o2].getD i 0 = o) (e2 : [p0, p1, p2].getD i 0 = p) (h1 : (([1, 2].any fun x => x == o) != ([1, 2].any fun x => x == p)) = true) (h2 : (([2, 3].any fun x => x == o) != ([2, 3].any fun x => x == p)) = false) (ex : nmL.getD (2 * i) (Str.ofString "") = x) :
    namesF o0 o1 o2 p0 p1 p2 i ++ [x] = namesF o0 o1 o2 p0 p1 p2 (i + 1) := by
  show _ = nmG _ _ _ _
  rw [e1, e2, nmG, nmP, nmP, if_neg (Bool.eq_false_iff.mp h2), if_pos h1, ex]
theorem nm_ft (e1 : [o0, o1, o2].getD i 0 = o) (e2 : [p0, p1, p2].getD i 0 = p) (h1 : (([1, 2].any fun x => x == o) != ([1, 2].any fun x => x == p)) = false) (h2 : (([2, 3].any fun x => x == o) != ([2, 3].any fun x => x == p)) = true) (ey : nmL.getD (2 * i + 1) (Str.ofString "") = y) :
    namesF o0 o1 o2 p0 p1 p2 i ++ [y] = namesF o0 o1 o2 p0 p1 p2 (i + 1) := by
  show _ = nmG _ _ _ _
  rw [e1, e2, nmG, nmP, nmP, if_pos h2, if_neg (Bool.eq_false_iff.mp h1), ey]
theorem nm_ff (e1 : [o0, o1, o2].getD i 0 = o) (e2 : [p0, p1, p2].getD i 0 = p) (h1 : (([1, 2].any fun x => x == o) != ([1, 2].any fun x => x == p)) = false) (h2 : (([2, 3].any fun x => x == o) != ([2, 3].any fun x => x == p)) = false) :
    namesF o0 o1 o2 p0 p1 p2 i = namesF o0 o1 o2 p0 p1 p2 (i + 1) := by
  show _ = nmG _ _ _ _
  rw [e1, e2, nmG, nmP, nmP, if_neg (Bool.eq_false_iff.mp h2), if_neg (Bool.eq_false_iff.mp h1)]
end
theorem names_spec (w : World) (a b : Addr) (o0 o1 o2 p0 p1 p2 : Int) (t0 t1 t2 u0 u1 u2 : Tok) (k k' : Nat) (q0 : 0 ≤ o0 ∧ o0 < 4) (q1 : 0 ≤ o1 ∧ o1 < 4) (q2 : 0 ≤ o2 ∧ o2 < 4) (r0 : 0 ≤ p0 ∧ p0 < 4) (r1 : 0 ≤ p1 ∧ p1 < 4) (r2 : 0 ≤ p2 ∧ p2 < 4) :
    Spec w 174 [.ref a, .ref b] 8 80 [] (fun h => h.get? a = some (W.listOf #[.int o0 t0, .int o1 t1, .int o2 t2] k) ∧ h.get? b = some (W.listOf #[.int p0 u0, .int p1 u1, .int p2 u2] k')) (StrsG (namesF o0 o1 o2 p0 p1 p2 3)) := by
  w_top off; unfold Spec; intro p loose mean mg mb dp un gd outer base h₀ s R B X T hkp hsz hled hdp hun hask hret; revert X; k_fill; intro X; k_dflt (walk_at "my enter"); intro L' h₁ tk' F' N' hltL; (try dsimp only); (try k_fold)
  obtain ⟨ha, hb⟩ := hask
  k_steps
  (rename Fr _ _ _ _ => lF'); (rename News _ _ _ _ => lN'); (rename IsRange _ _ _ _ _ _ _ _ => rgX)
  (with_unfolding_all refine my_range _ (InvN o0 o1 o2 p0 p1 p2 a b _ _) (by rfl) rgX (by decide) (n := 3) (by rfl) lF' lN' ?_ ⟨_, _, _, [], by omega, StrsAre.nil, rfl, Nat.le_refl _⟩ ?_ ?_)
  · exact ⟨rfl, rfl, rfl, rfl, trivial⟩
  · skip
    (repeat ((with_reducible (rename News _ _ _ _ => zz)); clear zz)); (repeat ((with_reducible (rename Fr _ _ _ _ => zz)); clear zz)); (repeat ((with_reducible (rename IsRange _ _ _ _ _ _ _ _ => zz)); clear zz)); (repeat ((with_reducible (rename ((_ : Obj).data = Data.cell _) => zz)); clear zz)); (repeat ((with_reducible (rename (∀ (b : Addr) (o : Obj), Heap.get? _ b = some o → Heap.get? _ b = some o) => zz)); clear zz))
    rintro i v led pl I u o h tk hi ⟨t, rfl⟩ ⟨l, vs, kk, ss, hlt, hS, hss, hlen⟩ ho F N
    change Fr h₀ L' h _ at F; change News h₀ L' h _ at N; (try dsimp only); (try k_fold)
    have hi9 : (0 : Int) ≤ 0 + (i : Int) ∧ 0 + (i : Int) < 3 := by omega
    (k_with "@subscriptTail Name Name ref int" => (fail_if_success (k_extra "No1 off"));  ((first | refine b3_g (by k_asm) ha hi ?_ | refine b3_g (by k_asm) hb hi ?_); intro t9))
    (k_with "@subscriptTail Name BinOp ref int" => (fail_if_success (k_extra "No1 off"));  ((first | refine nm_item (j := 2 * i) (by k_asm) (by k_mem) (by omega) (by omega) ?_ | refine nm_item (j := 2 * i + 1) (by k_asm) (by k_mem) (by omega) (by omega) ?_); intro t9))
    k_steps
    all_goals first
      | (try subst hQz); exact te_next (by assumption) (by assumption) (by repeat' first | exact trivial | refine ⟨by k_mem, ?_⟩) (by repeat' first | exact trivial | refine ⟨rfl, ?_⟩) (⟨_, _, _, _, hlt, (by first | exact hS | exact strsAre_push hS | exact strsAre_push (strsAre_push hS)), (by rw [hss]; first | exact nm_tt rfl rfl (by assumption) (by assumption) rfl rfl | exact nm_tf rfl rfl (by assumption) (by assumption) rfl | exact nm_ft rfl rfl (by assumption) (by assumption) rfl | exact nm_ff rfl rfl (by assumption) (by assumption)), (by (try simp only [Array.size_push]); omega)⟩) (by exact ho)
  · skip
    (repeat ((with_reducible (rename News _ _ _ _ => zz)); clear zz)); (repeat ((with_reducible (rename Fr _ _ _ _ => zz)); clear zz)); (repeat ((with_reducible (rename IsRange _ _ _ _ _ _ _ _ => zz)); clear zz)); (repeat ((with_reducible (rename ((_ : Obj).data = Data.cell _) => zz)); clear zz)); (repeat ((with_reducible (rename (∀ (b : Addr) (o : Obj), Heap.get? _ b = some o → Heap.get? _ b = some o) => zz)); clear zz))
    rintro led pl u h tk ⟨l, vs, kk, ss, hlt, hS, hss, hlen⟩ F N
    change Fr h₀ L' h _ at F; change News h₀ L' h _ at N; (try dsimp only); (try k_fold)
    k_steps
    walk_at "my tidy"
    exact hret _ _ _ (Fr.keep (by k_asm)) (strs_g (by k_asm) (by k_mem) hS hss)
theorem off_No1 : True := by
  (k_with "No1 off" => skip)
  exact True.intro

end
section --Fl1

noncomputable def flG (p q c : Int) (r0 r1 r2 : Int) (l : List Int) (k : Int) : List Int := if [r0, r1, r2].getD k.toNat 0 = p ∨ [r0, r1, r2].getD k.toNat 0 = q then l ++ [c * 4 ^ k.toNat] else l
theorem flG_in {p q c r0 r1 r2 k r x : Int} {l : List Int} (h : ([p, q].any fun x => x == r) = true) (e : [r0, r1, r2].getD k.toNat 0 = r) (hx : x = c * 4 ^ k.toNat) : flG p q c r0 r1 r2 l k = l ++ [x] := by
  unfold flG
  rw [e, hx, if_pos]
  simp only [List.any_cons, List.any_nil, Bool.or_false, Bool.or_eq_true, beq_iff_eq] at h
  omega
theorem flG_out {p q c r0 r1 r2 k r : Int} {l : List Int} (h : ([p, q].any fun x => x == r) = false) (e : [r0, r1, r2].getD k.toNat 0 = r) : flG p q c r0 r1 r2 l k = l := by
  unfold flG
  rw [e, if_neg]
  simp only [List.any_cons, List.any_nil, Bool.or_false, Bool.or_eq_false_iff, beq_eq_false_iff_ne] at h
  omega
noncomputable def flagsF (r0 r1 r2 : Int) : Int := ((rangeKs 0 3).foldl (flG 1 2 1 r0 r1 r2) []).sum + ((rangeKs 0 3).foldl (flG 2 3 2 r0 r1 r2) []).sum
section
variable {prog : Program} {w : World} {A : Around} {E : Value → Shared → Prop} {s : Shared} {h₀ : Heap} {L l : Addr} {m : Str → Option Value} {value slice : PySem.Expr} {n : Nat} {u : Tok} {k : Int} {Q : Value → Shared → Prop}
theorem b3_k {o0 o1 o2 : Int} {t0 t1 t2 : Tok} (F : Fr h₀ L s.heap m) (hl : h₀.get? l = some (W.listOf #[.int o0 t0, .int o1 t1, .int o2 t2] n)) (h0 : 0 ≤ k) (h3 : k < 3) (h : ∀ t, Q (.int ([o0, o1, o2].getD k.toNat 0) t) s)
    (hs : subscripted slice false (.ref l) (.int k u) = operate [.ref l, .int k u] (getItem (.ref l) (.int k u)) := by with_unfolding_all rfl) (hg : ∀ r, letTemporaryGo value (.ref l) r = pure () := by intro _; with_unfolding_all rfl) :
    wpAny (model prog w) A (subscriptTail value slice (.ref l) (.int k u)) Q E s := by
  rcases (show k = 0 ∨ k = 1 ∨ k = 2 by omega) with rfl | rfl | rfl
  · exact b3_0 rfl F hl (h _) hs hg
  · exact b3_1 rfl F hl (h _) hs hg
  · exact b3_2 rfl F hl (h _) hs hg
end
theorem flags_spec (w : World) (a : Addr) (r0 r1 r2 : Int) (t0 t1 t2 : Tok) (k : Nat) (q0 : 0 ≤ r0 ∧ r0 < 4) (q1 : 0 ≤ r1 ∧ r1 < 4) (q2 : 0 ≤ r2 ∧ r2 < 4) :
    Spec w 167 [.ref a] 8 80 [] (fun h => h.get? a = some (W.listOf #[.int r0 t0, .int r1 t1, .int r2 t2] k)) (IntG (flagsF r0 r1 r2)) := by
  w_top off; unfold Spec; intro p loose mean mg mb dp un gd outer base h₀ s R B X T hkp hsz hled hdp hun hask hret; revert X; k_fill; intro X; k_dflt (walk_at "my enterC"); intro L' h₁ tk' cells' F' N' Y' hltL; k_cells Y'; (try simp only [List.cons_append, List.nil_append] at N'); (try dsimp only); (try k_fold)
  (k_with "@CompEnd" => (fail_if_success (k_extra "Fl1 off"));  (first
    | (refine LCg.CompEnd.intro (by assumption) (by assumption) _ (by lcg_sub) off trivial (kci_el (flG_in (by assumption) rfl (by first | rfl | exact (Int.one_mul _).symm)) rfl rfl))
    | (refine LCg.CompEnd.intro (by assumption) (by assumption) _ (by lcg_sub) off trivial (kci_no (flG_out (by assumption) rfl) rfl))))
  repeat ((fail_if_success (with_reducible show LCt.CompRestT _ _ _ _ _ _ _ _ _ _ _ _ _ _ _ _ _ _ _ _)); walk_at "my step")
  refine kci_range (n := 3) (flG 1 2 1 r0 r1 r2) (fun k t I oI C oC D m₂ ys l h tk E' hlo hhi hI hC hx F N off ne mk => ?_) (show ∀ ys, _ → _ → _ from fun ys hy hl => ?_) (fun l k => by unfold flG; split <;> simp)
  · (k_with "@subscriptTail Name Name ref int" => (fail_if_success (k_extra "Fl1 off"));  (refine b3_k (by k_asm) hask (by omega) (by omega) ?_; intro t9))
    k_steps
    all_goals skip
  · repeat ((fail_if_success (with_reducible show LCt.CompRestT _ _ _ _ _ _ _ _ _ _ _ _ _ _ _ _ _ _ _ _)); walk_at "my step")
    refine kci_range (n := 3) (flG 2 3 2 r0 r1 r2) (fun k t I oI C oC D m₂ ys l h tk E' hlo hhi hI hC hx F N off ne mk => ?_) (show ∀ ys, _ → _ → _ from fun ys hy hl => ?_) (fun l k => by unfold flG; split <;> simp)
    · k_steps
      all_goals skip
    · k_steps
      walk_at "my tidy"
      exact hret _ _ _ (Fr.keep (by k_asm)) ⟨_, rfl⟩
theorem off_Fl1 : True := by
  (k_with "Fl1 off" => skip)
  exact True.intro

end
section --Pf1

noncomputable def flN : List Str := [Str.ofString "OPTIMIZED", Str.ofString "NEWLOCALS", Str.ofString "VARARGS", Str.ofString "VARKEYWORDS", Str.ofString "NESTED", Str.ofString "GENERATOR"]
noncomputable def flI (f : Int) (i : Nat) : Int := f / 2 ^ i * 2 ^ i
noncomputable def flS (f : Int) : Nat → List Str
  | 0 => []
  | i + 1 => if f / 2 ^ i % 2 = 1 then flS f i ++ [flN.getD i (Str.ofString "")] else flS f i
noncomputable def InvP (f : Int) (i : Nat) (led : List (Addr × Obj)) (pl : List (Str × Value)) : Prop :=
  ∃ l vs k z, led = [(l, W.listOf vs k)] ∧ pl = [(Str.ofString "names", Value.ref l), (Str.ofString "flags", Value.int (flI f i) z)] ∧ StrsAre vs.toList (flS f i) ∧ vs.size ≤ i ∧ (f ≠ 0 → flI f i ≠ 0)
theorem flag_dec : ∀ (f : Fin 64) (i : Fin 6), Builtin.bitAnd (flI (f.val : Int) i.val) (1 * 2 ^ (0 + (i.val : Int)).toNat) = (if (f.val : Int) / 2 ^ i.val % 2 = 1 then 2 ^ i.val else 0) ∧
    ((f.val : Int) / 2 ^ i.val % 2 = 1 → Builtin.bitXor (flI (f.val : Int) i.val) (1 * 2 ^ (0 + (i.val : Int)).toNat) = flI (f.val : Int) (i.val + 1)) ∧ (¬ (f.val : Int) / 2 ^ i.val % 2 = 1 → flI (f.val : Int) i.val = flI (f.val : Int) (i.val + 1)) ∧
    (flI (f.val : Int) (i.val + 1) = 0 → flS (f.val : Int) (i.val + 1) = flS (f.val : Int) 6) ∧ ((f.val : Int) ≠ 0 → flI (f.val : Int) 6 = 0) := by decide +kernel
theorem pf_start {f : Int} {l : Addr} {t : Tok} : [(Str.ofString "names", Value.ref l), (Str.ofString "flags", Value.int f t)] = [(Str.ofString "names", Value.ref l), (Str.ofString "flags", Value.int (flI f 0) t)] := by
  unfold flI; simp
theorem pf_pl {l : Addr} {a b : Int} {t : Tok} (e : a = b) : [(Str.ofString "names", Value.ref l), (Str.ofString "flags", Value.int a t)] = [(Str.ofString "names", Value.ref l), (Str.ofString "flags", Value.int b t)] := by rw [e]
theorem pf_push {vs : Array Value} {ss : List Str} {x y : Str} {t : Tok} (hS : StrsAre vs.toList ss) (e : y = x) : StrsAre (vs.push (.str x t)).toList (ss ++ [y]) := by
  subst e; exact strsAre_push hS
noncomputable def prettyF (f : Int) : Str := if f = 0 then Str.ofString "0x0" else Txt.join (Str.ofString ", ") (flS f 6)
theorem bitAnd_z (x : Int) : Builtin.bitAnd 0 x = 0 := by
  have := bitAnd_range x (show (0 : Int) ≤ 0 by decide)
  rw [bitAnd_comm]
  omega
section
variable {f : Int} {i : Nat}
theorem pf_all (hf : 0 ≤ f ∧ f < 64) (hi : i < 6) : Builtin.bitAnd (flI f i) (1 * 2 ^ (0 + (i : Int)).toNat) = (if f / 2 ^ i % 2 = 1 then 2 ^ i else 0) ∧
    (f / 2 ^ i % 2 = 1 → Builtin.bitXor (flI f i) (1 * 2 ^ (0 + (i : Int)).toNat) = flI f (i + 1)) ∧ (¬ f / 2 ^ i % 2 = 1 → flI f i = flI f (i + 1)) ∧
    (flI f (i + 1) = 0 → flS f (i + 1) = flS f 6) ∧ (f ≠ 0 → flI f 6 = 0) := by
  have := flag_dec ⟨f.toNat, by omega⟩ ⟨i, hi⟩
  simp only [show ((f.toNat : Nat) : Int) = f by omega] at this
  exact this
theorem pf_xor (hf : 0 ≤ f ∧ f < 64) (hi : i < 6) (h : Builtin.bitAnd (flI f i) (1 * 2 ^ (0 + (i : Int)).toNat) ≠ 0) : Builtin.bitXor (flI f i) (1 * 2 ^ (0 + (i : Int)).toNat) = flI f (i + 1) ∧ flS f (i + 1) = flS f i ++ [flN.getD i (Str.ofString "")] := by
  obtain ⟨h1, h2, h3, h4, h5⟩ := pf_all hf hi
  by_cases c : f / 2 ^ i % 2 = 1
  · exact ⟨h2 c, by rw [flS, if_pos c]⟩
  · rw [if_neg c] at h1; exact absurd h1 h
theorem pf_zero (hf : 0 ≤ f ∧ f < 64) (hi : i < 6) (h : Builtin.bitAnd (flI f i) (1 * 2 ^ (0 + (i : Int)).toNat) = 0) : flI f i = flI f (i + 1) ∧ flS f (i + 1) = flS f i := by
  obtain ⟨h1, h2, h3, h4, h5⟩ := pf_all hf hi
  by_cases c : f / 2 ^ i % 2 = 1
  · rw [if_pos c, h] at h1; exact absurd h1.symm (Int.ne_of_gt (Int.pow_pos (by decide)))
  · exact ⟨h3 c, by rw [flS, if_neg c]⟩
theorem pf_fin {ss : List Str} {a : Int} (hf : 0 ≤ f ∧ f < 64) (h : ss = flS f 6) (h1 : Builtin.bitAnd (flI f i) a ≠ 0) (_ : Builtin.bitXor (flI f i) a = flI f (i + 1)) (_ : flI f (i + 1) = 0) : Txt.join (Str.ofString ", ") ss = prettyF f := by
  have : f ≠ 0 := fun e => by
    subst e
    rw [show flI 0 i = 0 by unfold flI; simp, bitAnd_z] at h1
    exact h1 rfl
  rw [prettyF, if_neg this, h]
theorem pf_end (hf : 0 ≤ f ∧ f < 64) (hi : i < 6) (h : flI f (i + 1) = 0) : flS f (i + 1) = flS f 6 := (pf_all hf hi).2.2.2.1 h
theorem pf_hi (hf : 0 ≤ f ∧ f < 64) (hi : 6 ≤ i) : flI f i = 0 := by
  unfold flI
  have h1 : (64 : Int) ≤ 2 ^ i := by
    have := Nat.pow_le_pow_right (show 0 < 2 by decide) hi
    have h2 : ((64 : Nat) : Int) ≤ ((2 ^ i : Nat) : Int) := by exact_mod_cast this
    simpa using h2
  rw [Int.ediv_eq_zero_of_lt hf.1 (by omega), Int.zero_mul]
end
theorem fit_dec : ∀ (f : Fin 64) (i : Fin 7), ((flS (f.val : Int) i.val).map (·.length)).sum + (flS (f.val : Int) i.val).length * 2 ≤ 16777216 := by decide +kernel
theorem pf_fit {f : Int} {i : Nat} (hf : 0 ≤ f ∧ f < 64) (hi : i < 7) : ((flS f i).map (·.length)).sum + (flS f i).length * (Str.ofString ", ").length ≤ 16777216 := by
  have := fit_dec ⟨f.toNat, by omega⟩ ⟨i, hi⟩
  simp only [show ((f.toNat : Nat) : Int) = f by omega] at this
  exact this
section
variable {prog : Program} {w : World} {A : Around} {E : Value → Shared → Prop} {s : Shared} {b : Int} {t u : Tok} {Q : Value → Shared → Prop}
theorem and_z (h : Q (.int 0 s.toks) { s with toks := s.toks + 1 }) : wpAny (model prog w) A (binaryOp .BitAnd (.int 0 t) (.int b u)) Q E s := and_int (by rw [bitAnd_z]; exact h)
end
theorem flS_z : ∀ i, flS 0 i = []
  | 0 => rfl
  | i + 1 => by rw [flS, flS_z i]; simp
theorem pf_zero_end : Txt.join (Str.ofString ", ") (flS 0 32 ++ [baseText "0x" 16 0]) = prettyF 0 := by kernel_rfl
theorem cut_eq {M : Model} {A : Around} {m : Sem Value} {Q : Value → Shared → Prop} {E : Value → Shared → Prop} {s : Shared} {P : Value → Prop} (h1 : wpAny M A m (fun v s' => P v ∧ ∃ tk, s' = { s with toks := tk }) E s) (h2 : ∀ v tk, P v → Q v { s with toks := tk }) : wpAny M A m Q E s :=
  wpAny_mono h1 (fun v s' h => by obtain ⟨hv, tk, rfl⟩ := h; exact h2 v tk hv) fun _ _ e => e
theorem pf_hex {i : Nat} (hi : i < 6) : (baseText "0x" 16 (1 * 2 ^ (0 + (i : Int)).toNat)).length ≤ PySem.sizeLine := by
  have := (show ∀ j : Fin 6, (baseText "0x" 16 (1 * 2 ^ (0 + (j.val : Int)).toNat)).length ≤ 100 by decide +kernel) ⟨i, hi⟩
  exact Nat.le_trans this (by rw [PySem.sizeLine_eq]; decide)
theorem pretty_spec (w : World) (f : Int) (t : Tok) (hf : 0 ≤ f ∧ f < 64) : Spec w 110 [.int f t] 6 60 [] (fun _ => True) (StrG (prettyF f)) := by
  w_top off; unfold Spec; intro p loose mean mg mb dp un gd outer base h₀ s R B X T hkp hsz hled hdp hun hask hret; revert X; k_fill; intro X; k_dflt (walk_at "my enter"); intro L' h₁ tk' F' N' hltL; (try dsimp only); (try k_fold)
  k_steps
  (rename Fr _ _ _ _ => lF'); (rename News _ _ _ _ => lN'); (rename IsRange _ _ _ _ _ _ _ _ => rgX)
  (with_unfolding_all refine my_range _ (InvP f) (by rfl) rgX (by decide) (n := 32) (by rfl) lF' lN' (show AllAt _ [(Str.ofString "names", _), (Str.ofString "flags", _)] from ⟨rfl, rfl, trivial⟩) ⟨_, _, _, _, rfl, pf_start, StrsAre.nil, Nat.le_refl _, fun h => (by unfold flI; simpa using h)⟩ ?_ ?_)
  · (repeat ((with_reducible (rename News _ _ _ _ => zz)); clear zz)); (repeat ((with_reducible (rename Fr _ _ _ _ => zz)); clear zz)); (repeat ((with_reducible (rename IsRange _ _ _ _ _ _ _ _ => zz)); clear zz)); (repeat ((with_reducible (rename ((_ : Obj).data = Data.cell _) => zz)); clear zz)); (repeat ((with_reducible (rename (∀ (b : Addr) (o : Obj), Heap.get? _ b = some o → Heap.get? _ b = some o) => zz)); clear zz))
    rintro i v led pl I u o h tk hi ⟨t, rfl⟩ ⟨l, vs, k, z, rfl, rfl, hS, hsz, hne⟩ ho F N
    change Fr h₀ L' h _ at F; change News h₀ L' h _ at N; (try dsimp only); (try k_fold)
    rcases (show i < 6 ∨ 6 ≤ i by omega) with hi5 | hi6
    · (k_with "@call builtin:hex" => (fail_if_success (k_extra "Pf1 off"));  (refine P.hex_of_int ?_ (pf_hex hi5)))
      (k_with "@call builtin:dict.get" => (fail_if_success (k_extra "Pf1 off"));  (refine cut_eq (P := fun v => ∃ t, v = Value.str (flN.getD i (Str.ofString "")) t) ?_ ?_; (focus (rcases (show i = 0 ∨ i = 1 ∨ i = 2 ∨ i = 3 ∨ i = 4 ∨ i = 5 by omega) with rfl | rfl | rfl | rfl | rfl | rfl; all_goals ((repeat ((fail_if_success (with_reducible show (Exists _) ∧ (Exists _))); walk_at "my step")); exact ⟨⟨_, rfl⟩, _, rfl⟩))); (rintro _ tk9 ⟨t9, rfl⟩)))
      k_steps
      · have e := pf_xor hf hi5 (by assumption)
        have hz : flI f (i + 1) ≠ 0 := e.1 ▸ (by assumption)
        (try subst hQz); exact te_next (by assumption) (by assumption) (by repeat' first | exact trivial | refine ⟨by k_mem, ?_⟩) (by repeat' first | exact trivial | refine ⟨rfl, ?_⟩) (⟨_, _, _, _, rfl, pf_pl e.1, (by rw [e.2]; exact pf_push hS rfl), (by simp only [Array.size_push]; omega), fun _ => hz⟩) (by exact ho)
      · have e := pf_xor hf hi5 (by assumption)
        have hz : flI f (i + 1) = 0 := e.1.symm.trans (by assumption)
        walk_at "my tidy"
        (try subst hQz); unfold TE
        walk_at "my tidy"
        (k_with "@call builtin:str.join" => (fail_if_success (k_extra "Pf1 off"));  (refine join_list (News.isList (by k_asm) (by k_mem)) (ys := flS f (i + 1)) (by rw [e.2]; exact pf_push hS rfl) (pf_fit hf (by omega)) ?_; intro t9 k9))
        k_steps
        walk_at "my tidy"
        exact hret _ _ _ (Fr.keep (by k_asm)) ⟨_, congrArg (fun z => Value.str z _) (pf_fin hf (pf_end hf hi5 hz) (by assumption) e.1 hz)⟩
      · have e := pf_zero hf hi5 (by assumption)
        (try subst hQz); exact te_next (by assumption) (by assumption) (by repeat' first | exact trivial | refine ⟨by k_mem, ?_⟩) (by repeat' first | exact trivial | refine ⟨rfl, ?_⟩) (⟨_, _, _, _, rfl, pf_pl e.1, (by rw [e.2]; exact hS), by omega, fun h => e.1 ▸ hne h⟩) (by exact ho)
    · have h0 : f = 0 := by
        by_cases c : f = 0
        · exact c
        · exact absurd (pf_hi hf hi6) (hne c)
      have z0 : flI f i = 0 := pf_hi hf hi6
      have z1 : flI f (i + 1) = 0 := pf_hi hf (by omega)
      rw [z0] at F
      (k_with "@binaryOp BitAnd int int" => (fail_if_success (k_extra "Pf1 off"));  (refine and_z ?_))
      k_steps
      · (try subst hQz); exact te_next (by assumption) (by assumption) (by repeat' first | exact trivial | refine ⟨by k_mem, ?_⟩) (by repeat' first | exact trivial | refine ⟨rfl, ?_⟩) (⟨_, _, _, _, rfl, pf_pl z1.symm, (by subst h0; rw [flS_z] at hS ⊢; exact hS), by omega, fun h => absurd h0 h⟩) (by exact ho)
  · (repeat ((with_reducible (rename News _ _ _ _ => zz)); clear zz)); (repeat ((with_reducible (rename Fr _ _ _ _ => zz)); clear zz)); (repeat ((with_reducible (rename IsRange _ _ _ _ _ _ _ _ => zz)); clear zz)); (repeat ((with_reducible (rename ((_ : Obj).data = Data.cell _) => zz)); clear zz)); (repeat ((with_reducible (rename (∀ (b : Addr) (o : Obj), Heap.get? _ b = some o → Heap.get? _ b = some o) => zz)); clear zz))
    rintro led pl u h tk ⟨l, vs, k, z, rfl, rfl, hS, hsz, hne⟩ F N
    change Fr h₀ L' h _ at F; change News h₀ L' h _ at N; (try dsimp only); (try k_fold)
    have h0 : f = 0 := by
      by_cases c : f = 0
      · exact c
      · exact absurd (pf_hi hf (by decide)) (hne c)
    subst h0
    rw [show flI 0 32 = 0 by decide] at F
    (k_with "@call builtin:str.join" => (fail_if_success (k_extra "Pf1 off"));  (refine join_list (News.isList (by k_asm) (by k_mem)) (pf_push hS rfl) (by decide) ?_; intro t9 k9))
    k_steps
    exact hret _ _ _ (Fr.keep (by k_asm)) ⟨_, congrArg (fun z => Value.str z _) pf_zero_end⟩
theorem off_Pf1 : True := by
  (k_with "Pf1 off" => skip)
  exact True.intro

end
section --Pl2

noncomputable def grF (r : Int) : Int := if r = 0 then 0 else if r = 1 then 1 else if r = 2 then 3 else 2
theorem fl_d : ∀ r0 r1 r2 : Fin 4, flagsF (r0.val : Int) (r1.val : Int) (r2.val : Int) = grF r0.val + 4 * grF r1.val + 16 * grF r2.val := by decide +kernel
noncomputable def alB (o p : Int) : Bool := (([1, 2].any fun x => x == o) != ([1, 2].any fun x => x == p))
noncomputable def beB (o p : Int) : Bool := (([2, 3].any fun x => x == o) != ([2, 3].any fun x => x == p))
noncomputable def bitB (f : Int) (i : Nat) : Bool := decide (f / 2 ^ i % 2 = 1)
noncomputable def xrB (f : Int) (r0 r1 r2 p0 p1 p2 : Int) : Bool :=
  decide (0 ≤ f) && decide (f < 64) && (bitB f 0 == alB r0 p0) && (bitB f 1 == beB r0 p0) && (bitB f 2 == alB r1 p1) && (bitB f 3 == beB r1 p1) && (bitB f 4 == alB r2 p2) && (bitB f 5 == beB r2 p2) && (decide (f = 0) == !(alB r0 p0 || beB r0 p0 || alB r1 p1 || beB r1 p1 || alB r2 p2 || beB r2 p2))
theorem xr_d : ∀ r0 r1 r2 p0 p1 p2 : Fin 4, xrB (Builtin.bitXor (grF r0.val + 4 * grF r1.val + 16 * grF r2.val) (grF p0.val + 4 * grF p1.val + 16 * grF p2.val)) r0.val r1.val r2.val p0.val p1.val p2.val = true := by decide +kernel
noncomputable def nmB (b0 b1 b2 b3 b4 b5 : Bool) : List Str := nmP b5 (nmP b4 (nmP b3 (nmP b2 (nmP b1 (nmP b0 [] 0) 1) 2) 3) 4) 5
theorem names_b (r0 r1 r2 p0 p1 p2 : Int) : namesF r0 r1 r2 p0 p1 p2 3 = nmB (alB r0 p0) (beB r0 p0) (alB r1 p1) (beB r1 p1) (alB r2 p2) (beB r2 p2) := rfl
theorem flS_st (f : Int) (i : Nat) : flS f (i + 1) = nmP (bitB f i) (flS f i) i := by
  show (if f / 2 ^ i % 2 = 1 then flS f i ++ [flN.getD i (Str.ofString "")] else flS f i) = _
  unfold nmP bitB
  by_cases h : f / 2 ^ i % 2 = 1
  · rw [if_pos h, if_pos (by simp [h])]; rfl
  · rw [if_neg h, if_neg (by simp [h])]
theorem flS_b (f : Int) : flS f 6 = nmB (bitB f 0) (bitB f 1) (bitB f 2) (bitB f 3) (bitB f 4) (bitB f 5) := by
  rw [flS_st, flS_st, flS_st, flS_st, flS_st, flS_st]; rfl
noncomputable def jnB (l : List Str) (z : Bool) : Bool := decide ((l.map (·.length)).sum + l.length * 2 ≤ 16777216) && decide (l.length ≤ 6) &&
  (if z = true then decide ((Txt.join (Str.ofString ", ") l).length = 0) else decide (0 < (Txt.join (Str.ofString ", ") l).length) && decide ((Txt.join (Str.ofString ", ") l).length < 1000))
theorem jn_d : ∀ b0 b1 b2 b3 b4 b5 : Bool, jnB (nmB b0 b1 b2 b3 b4 b5) (!(b0 || b1 || b2 || b3 || b4 || b5)) = true := by decide +kernel
theorem flag_law {r0 r1 r2 p0 p1 p2 : Int} (g0 : 0 ≤ r0 ∧ r0 < 4) (g1 : 0 ≤ r1 ∧ r1 < 4) (g2 : 0 ≤ r2 ∧ r2 < 4) (q0 : 0 ≤ p0 ∧ p0 < 4) (q1 : 0 ≤ p1 ∧ p1 < 4) (q2 : 0 ≤ p2 ∧ p2 < 4) :
    (0 ≤ Builtin.bitXor (flagsF r0 r1 r2) (flagsF p0 p1 p2) ∧ Builtin.bitXor (flagsF r0 r1 r2) (flagsF p0 p1 p2) < 64) ∧
    (((namesF r0 r1 r2 p0 p1 p2 3).map (·.length)).sum + (namesF r0 r1 r2 p0 p1 p2 3).length * (Str.ofString ", ").length ≤ 16777216) ∧ ((namesF r0 r1 r2 p0 p1 p2 3).length ≤ 6) ∧
    ((Txt.join (Str.ofString ", ") (namesF r0 r1 r2 p0 p1 p2 3) = ⟨#[]⟩ ∧ prettyF (Builtin.bitXor (flagsF r0 r1 r2) (flagsF p0 p1 p2)) = Str.ofString "0x0") ∨
     ((0 < (Txt.join (Str.ofString ", ") (namesF r0 r1 r2 p0 p1 p2 3)).length ∧ (Txt.join (Str.ofString ", ") (namesF r0 r1 r2 p0 p1 p2 3)).length < 1000) ∧ prettyF (Builtin.bitXor (flagsF r0 r1 r2) (flagsF p0 p1 p2)) = Txt.join (Str.ofString ", ") (namesF r0 r1 r2 p0 p1 p2 3))) := by
  have hh : ∀ r : Int, 0 ≤ r ∧ r < 4 → ∃ n : Fin 4, r = (n.val : Int) := fun r h => ⟨⟨r.toNat, by (first | lia | omega)⟩, by show r = (r.toNat : Int); (first | lia | omega)⟩
  obtain ⟨a0, rfl⟩ := hh r0 g0
  obtain ⟨a1, rfl⟩ := hh r1 g1
  obtain ⟨a2, rfl⟩ := hh r2 g2
  obtain ⟨b0, rfl⟩ := hh p0 q0
  obtain ⟨b1, rfl⟩ := hh p1 q1
  obtain ⟨b2, rfl⟩ := hh p2 q2
  have hx := xr_d a0 a1 a2 b0 b1 b2
  rw [← fl_d, ← fl_d] at hx
  generalize Builtin.bitXor (flagsF (a0.val : Int) a1.val a2.val) (flagsF (b0.val : Int) b1.val b2.val) = f at hx ⊢
  unfold xrB at hx
  simp only [Bool.and_eq_true, decide_eq_true_eq, beq_iff_eq] at hx
  obtain ⟨⟨⟨⟨⟨⟨⟨⟨hx0, hx1⟩, e0⟩, e1⟩, e2⟩, e3⟩, e4⟩, e5⟩, ez⟩ := hx
  have hS := flS_b f
  rw [e0, e1, e2, e3, e4, e5, ← names_b] at hS
  have hj := jn_d (alB a0.val b0.val) (beB a0.val b0.val) (alB a1.val b1.val) (beB a1.val b1.val) (alB a2.val b2.val) (beB a2.val b2.val)
  rw [← names_b, ← ez] at hj
  unfold prettyF
  rw [hS]
  generalize namesF a0.val a1.val a2.val b0.val b1.val b2.val 3 = l at hj ⊢
  unfold jnB at hj
  simp only [Bool.and_eq_true, decide_eq_true_eq] at hj
  obtain ⟨⟨j1, j2⟩, j3⟩ := hj
  refine ⟨⟨hx0, hx1⟩, j1, j2, ?_⟩
  by_cases hz : f = 0
  · rw [if_pos hz] at j3 ⊢
    refine .inl ⟨?_, rfl⟩
    generalize Txt.join (Str.ofString ", ") l = J at j3
    simp only [decide_eq_true_eq] at j3
    obtain ⟨⟨J⟩⟩ := J
    cases J with
    | nil => rfl
    | cons _ _ => exact absurd j3 (by simp [Str.length])
  · rw [if_neg hz] at j3 ⊢
    simp only [Bool.and_eq_true, decide_eq_true_eq] at j3
    exact .inr ⟨j3, rfl⟩

end
section --LwF

theorem turn_in {w : World} {body : List Stmt} {PreT PostT : Addr → Heap → List (Addr × Obj) → List (Str × Value) → Prop} (S : SegS w body PreT PostT)
    {p : Program} {loose : List Str} {mean : ExcName → Option Value} {mg mb : Str → Option Value} {dp un : Nat} {gd : Option (List Code)} {outer : List Env} {A₀ : Around} {base h₀ : Heap} {L fa : Addr} {ccd : Value} {s : Shared} {h : Heap} {tk : Nat} {led : List (Addr × Obj)} {pl : List (Str × Value)} {u : Str → Option Value}
    {x : Str} {px : Pos} {v : Value} {I : Addr} {o : Obj} {J : List (Addr × Obj) → List (Str × Value) → Prop} {Q : Flow → Shared → Prop}
    (B : Below A₀ base outer h₀) (X : (hd.heap_1 w.params).In h₀) (T : Top p loose mean mg mb h₀) (hdp : dp + 100 < recursionLimit) (hun : un + 1000 < cLine) (h83 : @LT.lt Nat instLTNat 83 L)
    (F : Fr h₀ L h (kstB u pl)) (N : News h₀ L h ((I, o) :: led)) (hx : (envOfC (Str.ofString "law") (in179 w.params).1.2 L fa ccd).kindOf x = some .local)
    (hpre : PreT L h₀ ((I, o) :: led) ((x, v) :: pl)) (hpost : ∀ led pl, PostT L h₀ led pl → ∃ r, led = (I, o) :: r ∧ LCg.Off1 I r ∧ J r pl)
    (hQ : ∀ v s', (v = .bool true ∧ GrownAll [(87, 83), (80, 76)] s'.heap ∧ ∃ h tk m, s' = { s with heap := h, toks := tk } ∧ Fr h₀ L h m) → Q (.ret v) s') :
    wpAny (model PySem.Challenge.rw_us0023_01.row.prog w) ((arnd dp un gd outer).deeper (envOfC (Str.ofString "law") (in179 w.params).1.2 L fa ccd)) (assign (.Name x px) (envOfC (Str.ofString "law") (in179 w.params).1.2 L fa ccd) v)
      (fun _ s₂ => wpAny (model PySem.Challenge.rw_us0023_01.row.prog w) ((arnd dp un gd outer).deeper (envOfC (Str.ofString "law") (in179 w.params).1.2 L fa ccd)) (execs body (envOfC (Str.ofString "law") (in179 w.params).1.2 L fa ccd)) (TE h₀ L s (I, o) J Q) (fun _ _ => False) s₂)
      (fun _ _ => False) { s with heap := h, toks := tk } := by
  refine wpAny_assign_Name (storeX_L (s := { s with heap := h, toks := tk }) F N (fun h' F' N' => ?_) rfl hx)
  refine wpAny_mono (S p loose mean mg mb dp un gd outer A₀ base h₀ L fa ccd s h' (tk + 1) ((I, o) :: led) ((x, v) :: pl) u B X T hdp hun h83 F' N' hpre) (fun f s' q => ?_) fun _ _ e => e
  cases f with
  | next =>
    obtain ⟨h2, tk2, m2, all, led2, pl2, e, F2, N2, hp2, hP, sub⟩ := q
    exact te_mid ⟨h2, tk2, m2, all, led2, pl2, e, F2, N2, hp2, hpost _ _ hP, sub⟩
  | ret v => exact hQ v s' q
  | brk => exact q.elim
  | cont => exact q.elim

end
section --Cf
open PySem PySem.W PyProof.Rows PySem.Calls PyProof.Rows.LCg PySem.Spec
theorem max_rg {M : Int} (h : 0 ≤ M ∧ M ≤ 6) : Builtin.Range.small 0 (M + 1) 1 = true ∧ Builtin.Range.rangeSize 0 (M + 1) 1 = (((M + 1).toNat : Nat) : Int) := by
  rcases (show M = 0 ∨ M = 1 ∨ M = 2 ∨ M = 3 ∨ M = 4 ∨ M = 5 ∨ M = 6 by omega) with rfl | rfl | rfl | rfl | rfl | rfl | rfl <;> decide

end
section --Two
open PySem PySem.W PyProof.Rows PySem.Calls PyProof.Rows.LCg PySem.Spec
noncomputable abbrev lc2 (elt i1 i2 : Expr) (x y : Str) (px py : Pos) (scope : Scope) (pos : Pos) : Expr := .ListComp elt [⟨.Name x px, i1, [], 0⟩, ⟨.Name y py, i2, [], 0⟩] scope pos
section
variable {elt i1 i2 : Expr} {x y : Str} {px py : Pos} {scope : Scope} {pos : Pos}
theorem compTurn_two0 (it acc : Value) (env : Env) :
    compTurn (lc2 elt i1 i2 x y px py scope pos) 0 it acc env = (standAt i1.pos >>= fun _ => pyNext it >>= fun r => match r with
      | none => pure (.done .next)
      | some v => letOwnedTupleGo (.Name x px) it v >>= fun _ => assign (.Name x px) env v >>= fun _ =>
        eval i2 env >>= fun u => standAt i2.pos >>= fun _ => foldedSetIterable i2 env u >>= fun u => holding [u] (pyIter u) >>= fun it' =>
          runOwn (.compStart (lc2 elt i1 i2 x y px py scope pos) 1 it' acc env) env >>= fun _ => again (.compLoop (lc2 elt i1 i2 x y px py scope pos) 0 it acc env)) := by rfl
theorem compTurn_two1 (it acc : Value) (env : Env) :
    compTurn (lc2 elt i1 i2 x y px py scope pos) 1 it acc env = (standAt i2.pos >>= fun _ => pyNext it >>= fun r => match r with
      | none => pure (.done .next)
      | some v => letOwnedTupleGo (.Name y py) it v >>= fun _ => assign (.Name y py) env v >>= fun _ =>
        (eval elt env >>= fun u => call (.builtin "list.append") [acc, u] >>= fun _ => pure ()) >>= fun _ =>
          again (.compLoop (lc2 elt i1 i2 x y px py scope pos) 1 it acc env)) := by rfl
section
variable {prog : Program} {w : World} {A : Around} {E : Value → Shared → Prop} {s : Shared} {R : Result → Shared → Prop} {env : Env} {it acc : Value}
theorem two_start1
    (h0 : codeAny (model prog w) A (.compLoop (lc2 elt i1 i2 x y px py scope pos) 1 it acc env) R s)
    (h : wpAny (model prog w) A (pyIter it) (fun it' s' => codeAny (model prog w) A (.compLoop (lc2 elt i1 i2 x y px py scope pos) 1 it' acc env) R s')
      (notedBy (model prog w) A env fun x s' => R (.error x) s') s) :
    codeAny (model prog w) A (.compStart (lc2 elt i1 i2 x y px py scope pos) 1 it acc env) R s := by
  refine codeAny_of_tree ?_
  show wpAny _ _ ((compStart (lc2 elt i1 i2 x y px py scope pos) 1 it acc env).onRaise (fun x => do noteFrame x env; standAt theWindowsPlace)) _ _ s
  refine wpAny_notedAt ?_
  unfold compStart
  show wpAny _ _ (ask >>= _) _ _ s
  refine wpAny_bind (wpAny_askSetting (wpAny_ite ?_))
  split
  · first
      | exact wpAny_bind (wpAny_pure (wpAny_pure (And.intro rfl h0)))
      | exact wpAny_pure (And.intro rfl h0)
  · first
      | exact wpAny_bind (wpAny_rule (wpAny_bind (wpAny_standAt (wpAny_bind (wpAny_mono h (fun it' s' h' => wpAny_pure (And.intro rfl h')) fun _ _ x => x)))))
      | (refine wpAny_bind (wpAny_rule ?_); show wpAny _ _ (standAt i2.pos >>= _) _ _ s; exact wpAny_bind (wpAny_standAt (wpAny_bind (wpAny_mono h (fun it' s' h' => wpAny_pure (And.intro rfl h')) fun _ _ x => x))))
theorem two_loop1 (I : Nat → Shared → Prop)
    (turn : ∀ n s, I n s → wpAny (model prog w) A (pyNext it) (fun r s₁ => match r with
      | none => R (.ok .next) s₁
      | some v => wpAny (model prog w) A (assign (.Name y py) env v) (fun _ s₂ => wpAny (model prog w) A (eval elt env) (fun x s₃ =>
          wpAny (model prog w) A (call (.builtin "list.append") [acc, x]) (fun _ s₄ => ∃ m, m < n ∧ I m s₄) (notedBy (model prog w) A env fun e s' => R (.error e) s') s₃)
          (notedBy (model prog w) A env fun e s' => R (.error e) s') s₂) (notedBy (model prog w) A env fun e s' => R (.error e) s') s₁) (notedBy (model prog w) A env fun e s' => R (.error e) s') s)
    (n : Nat) (h : I n s) (ht : ∀ v, letOwnedTupleGo (.Name y py) it v = pure () := by intro _; rfl) :
    codeAny (model prog w) A (.compLoop (lc2 elt i1 i2 x y px py scope pos) 1 it acc env) R s := by
  refine codeAny_loop rfl I (fun n s hI => ?_) n h
  show wpAny _ _ ((compTurn (lc2 elt i1 i2 x y px py scope pos) 1 it acc env).onRaise (fun x => do noteFrame x env; theTreesLotGoes x)) _ _ s
  refine wpAny_noted ?_
  rw [compTurn_two1]
  refine wpAny_bind (wpAny_standAt (wpAny_bind (wpAny_mono (turn n s hI) (fun r s₁ h₁ => ?_) fun _ _ h' => h')))
  cases r with
  | none => exact wpAny_pure h₁
  | some v =>
    refine wpAny_bind (wpAny_of_eq (ht v) ?_)
    exact wpAny_bind (wpAny_mono h₁ (fun _ s₂ h₂ => wpAny_bind (wpAny_bind (wpAny_mono h₂ (fun x s₃ h₃ => wpAny_bind (wpAny_mono h₃
      (fun _ s₄ h₄ => wpAny_pure (wpAny_pure ⟨rfl, h₄⟩)) fun _ _ h' => h')) fun _ _ h' => h'))) fun _ _ h' => h')
theorem two_loop0 (I : Nat → Shared → Prop)
    (turn : ∀ n s, I n s → wpAny (model prog w) A (pyNext it) (fun r s₁ => match r with
      | none => R (.ok .next) s₁
      | some v => wpAny (model prog w) A (assign (.Name x px) env v) (fun _ s₂ => wpAny (model prog w) A (eval i2 env) (fun u s₃ =>
          wpAny (model prog w) A (pyIter u) (fun it' s₄ => codeAny (model prog w) A (.compStart (lc2 elt i1 i2 x y px py scope pos) 1 it' acc env) (fun r s₅ => r = .ok .next ∧ ∃ m, m < n ∧ I m s₅) s₄)
            (notedBy (model prog w) A env fun e s' => R (.error e) s') s₃)
          (notedBy (model prog w) A env fun e s' => R (.error e) s') s₂) (notedBy (model prog w) A env fun e s' => R (.error e) s') s₁) (notedBy (model prog w) A env fun e s' => R (.error e) s') s)
    (n : Nat) (h : I n s) (hs : ∀ u, foldedSetIterable i2 env u = pure u) (ht : ∀ v, letOwnedTupleGo (.Name x px) it v = pure () := by intro _; rfl) :
    codeAny (model prog w) A (.compLoop (lc2 elt i1 i2 x y px py scope pos) 0 it acc env) R s := by
  refine codeAny_loop rfl I (fun n s hI => ?_) n h
  show wpAny _ _ ((compTurn (lc2 elt i1 i2 x y px py scope pos) 0 it acc env).onRaise (fun x => do noteFrame x env; theTreesLotGoes x)) _ _ s
  refine wpAny_noted ?_
  rw [compTurn_two0]
  refine wpAny_bind (wpAny_standAt (wpAny_bind (wpAny_mono (turn n s hI) (fun r s₁ h₁ => ?_) fun _ _ h' => h')))
  cases r with
  | none => exact wpAny_pure h₁
  | some v =>
    refine wpAny_bind (wpAny_of_eq (ht v) ?_)
    refine wpAny_bind (wpAny_mono h₁ (fun _ s₂ h₂ => wpAny_bind (wpAny_mono h₂ (fun u s₃ h₃ => wpAny_bind (wpAny_standAt (wpAny_bind (wpAny_of_eq (hs u) (wpAny_bind (wpAny_holding
      (wpAny_mono h₃ (fun it' s₄ h₄ => wpAny_bind (wpAny_runOwn (codeAny_mono h₄ fun r s₅ h₅ => ?_))) fun _ _ h' => h'))))))) fun _ _ h' => h')) fun _ _ h' => h')
    obtain ⟨rfl, hI⟩ := h₅
    exact wpAny_pure ⟨rfl, hI⟩
end
section
variable {prog : Program} {w : World} {A : Around} {E : Value → Shared → Prop} {s : Shared} {h₀ : Heap} {L : Addr} {m : Str → Option Value} {env : Env}
inductive TwoI (prog : Program) (h₀ : Heap) (L : Addr) (m : Str → Option Value) (I C D J U : Addr) (oI : Obj) (ys zs : List Value) (news : List (Addr × Obj)) (s₂ : Shared) : Nat → Shared → Prop
  | mk : ∀ h' tk' j oC' m', j ≤ zs.length → h'.IsListIter J U j → h'.IsList U zs.toArray → Fr h₀ L h' m → NsObj oC' m' → News h₀ L h' ((I, oI) :: (C, oC') :: (D, lst (ys ++ zs.take j)) :: news) → TwoI prog h₀ L m I C D J U oI ys zs news s₂ (zs.length + 1 - j) { s₂ with heap := h', toks := tk' }
inductive TwoO (prog : Program) (h₀ : Heap) (L : Addr) (m : Str → Option Value) (I ax C D : Addr) (its : Array Value) (f : Nat → List Int) (news : List (Addr × Obj)) (s₂ : Shared) : Nat → Shared → Prop
  | mk : ∀ h' tk i ys m', i ≤ its.size → (h'.IsListIter I ax i ∧ h'.IsList ax its) → Fr h₀ L h' m → h'.Ns C m' → News h₀ L h' ((D, lst ys) :: news) → IntsAre ys ((List.range i).flatMap f) → TwoO prog h₀ L m I ax C D its f news s₂ (its.size + 1 - i) { s₂ with heap := h', toks := tk }
theorem two_inner {ye : Str} {pe : Pos} {cl : List (Str × Addr)} {s₂ : Shared} {h : Heap} {tk : Nat} {I C D J U : Addr} {oI oC : Obj} {ys zs : List Value} {news : List (Addr × Obj)} {m₀ : Str → Option Value}
    (hh : A.handled = none) (hkind : scope.kind = .function) (hy : scope.names.lookup y = some .local) (hyd : (y == ("__debug__" : Str)) = false)
    (hJ : h.IsListIter J U 0) (hU : h.IsList U zs.toArray) (F : Fr h₀ L h m) (hC : NsObj oC m₀) (N : News h₀ L h ((I, oI) :: (C, oC) :: (D, lst ys) :: news)) (off : Off3 I C D news) (ne : (@Ne Nat I C) ∧ (@Ne Nat I D) ∧ (@Ne Nat C D))
    (hJ₀ : h₀.get? J = none) (hLJ : L ≠ J) (hUJ : U ≠ J) (hUC : U ≠ C) (hUD : U ≠ D) (hIJ : I ≠ J) (hCJ : C ≠ J) (hDJ : D ≠ J) (offJ : ∀ p ∈ news, p.1 ≠ J) (hsz : ys.length + zs.length ≤ sizeLine) :
    codeAny (model prog w) A (.compStart (lc2 (.Name y pe) i1 i2 x y px py scope pos) 1 (.ref J) (.ref D) (compEnvC scope cl C env))
      (fun r s' => r = .ok .next ∧ ∃ h' tk' oC' m', s' = { s₂ with heap := h', toks := tk' } ∧ Fr h₀ L h' m ∧ NsObj oC' m' ∧ News h₀ L h' ((I, oI) :: (C, oC') :: (D, lst (ys ++ zs)) :: news)) { s₂ with heap := h, toks := tk } := by
  obtain ⟨nIC, nID, nCD⟩ := ne
  have W := Walks.list (prog := prog) (w := w) hh J U hUJ zs.toArray
  have off3 := off.mem
  have hC₀ := (N (C, oC) (.tail _ (.head _))).2.2
  have hCL := (N (C, oC) (.tail _ (.head _))).2.1
  have hD₀ := (N (D, lst ys) (.tail _ (.tail _ (.head _)))).2.2
  have hDL := (N (D, lst ys) (.tail _ (.tail _ (.head _)))).2.1
  have hI₀ := (N (I, oI) (.head _)).2
  have loop : codeAny (model prog w) A (.compLoop (lc2 (.Name y pe) i1 i2 x y px py scope pos) 1 (.ref J) (.ref D) (compEnvC scope cl C env))
      (fun r s' => r = .ok .next ∧ ∃ h' tk' oC' m', s' = { s₂ with heap := h', toks := tk' } ∧ Fr h₀ L h' m ∧ NsObj oC' m' ∧ News h₀ L h' ((I, oI) :: (C, oC') :: (D, lst (ys ++ zs)) :: news)) { s₂ with heap := h, toks := tk } := by
    refine two_loop1 (TwoI prog h₀ L m I C D J U oI ys zs news s₂) ?_ (zs.length + 1) (.mk h tk 0 oC m₀ (Nat.zero_le _) hJ hU F hC (by simpa using N))
    rintro k s' ⟨h', tk', j, oC', m', hj, hJ', hU', F', hC', N'⟩
    by_cases hlt : j < zs.length
    · refine W.item j _ _ _ (by simpa using hlt) ⟨hJ', hU'⟩ fun v h₂ tk₂ hv st₂ hk₂ => ?_
      have e : zs[j]? = some v := by simpa using hv
      have zC := (N' (C, oC') (.tail _ (.head _))).1
      have zC₂ : h₂.get? C = some oC' := hk₂ _ _ (by simpa using hCJ) zC
      refine wpAny_assign_Name (wpAny_storeName_local (lookup_relabel_local hy) (hC'.ns zC₂) (fun h₃ hn₃ hs₃ => ?_) (by simp [compEnvC, relabel, hkind]))
      have F₂ : Fr h₀ L h₂ m := fr_but F' hk₂ hLJ hJ₀
      have F₃ : Fr h₀ L h₃ m := F₂.change hs₃ hCL hC₀
      have hJ₃ : h₃.IsListIter J U (j + 1) := st₂.1.at fun o e => hs₃.extBut J o (Ne.symm hCJ) e
      have hU₃ : h₃.IsList U zs.toArray := st₂.2.at fun o e => hs₃.extBut U o hUC e
      have zI₃ : h₃.get? I = some oI := hs₃.extBut I _ nIC (hk₂ _ _ (by simpa using hIJ) (N' (I, oI) (.head _)).1)
      have zD₃ : h₃.get? D = some (lst (ys ++ zs.take j)) := hs₃.extBut D _ (Ne.symm nCD) (hk₂ _ _ (by simpa using hDJ) (N' (D, _) (.tail _ (.tail _ (.head _)))).1)
      have zN₃ : ∀ p ∈ news, h₃.get? p.1 = some p.2 := fun p hp => hs₃.extBut _ _ (off3 p hp).2.1 (hk₂ _ _ (by simpa using offJ p hp) (N' p (.tail _ (.tail _ (.tail _ hp)))).1)
      obtain ⟨oC₃, zC₃, hoC₃⟩ := ns_obj hn₃
      refine wpAny_Name (wpAny_loadName_local (by simp [compEnvC, relabel, hkind]) (lookup_relabel_local hy) hn₃ (v := v) (by simp) ?_) hyd
      have hz : (ys ++ zs.take j).toArray.size ≤ sizeLine := by
        rw [List.size_toArray, List.length_append, List.length_take]; (first | lia | omega)
      refine append_at (hsz := hz) zD₃ fun h₅ hs₅ hD₅ => ?_
      · refine ⟨zs.length + 1 - (j + 1), by (first | lia | omega), .mk h₅ _ (j + 1) oC₃ _ hlt (hJ₃.at fun o e => hs₅.extBut J o (Ne.symm hDJ) e) (hU₃.at fun o e => hs₅.extBut U o hUD e) (F₃.change hs₅ hDL hD₀) hoC₃ fun p hp => ?_⟩
        rcases List.mem_cons.mp hp with rfl | hp
        · exact ⟨hs₅.extBut _ _ nID zI₃, hI₀⟩
        · rcases List.mem_cons.mp hp with rfl | hp
          · exact ⟨hs₅.extBut _ _ nCD zC₃, hCL, hC₀⟩
          · rcases List.mem_cons.mp hp with rfl | hp
            · refine ⟨?_, hDL, hD₀⟩
              show h₅.get? D = some (lst (ys ++ zs.take (j + 1)))
              rw [List.take_add_one, e, ← List.append_assoc]
              exact hD₅.trans (congrArg some (lst_snoc (ys ++ zs.take j) v))
            · exact ⟨hs₅.extBut _ _ (off3 p hp).2.2 (zN₃ p hp), (N' p (.tail _ (.tail _ (.tail _ hp)))).2⟩
    · obtain rfl : j = zs.length := Nat.le_antisymm hj (Nat.not_lt.mp hlt)
      refine W.done _ _ _ (by rw [List.size_toArray]; exact ⟨hJ', hU'⟩) fun h₂ tk₂ hk₂ => ?_
      refine ⟨rfl, h₂, tk₂, oC', m', rfl, fr_but F' hk₂ hLJ hJ₀, hC', ?_⟩
      rw [List.take_length] at N'
      exact news_but N' hk₂ fun p hp => by
        rcases List.mem_cons.mp hp with rfl | hp
        · exact hIJ
        · rcases List.mem_cons.mp hp with rfl | hp
          · exact hCJ
          · rcases List.mem_cons.mp hp with rfl | hp
            · exact hDJ
            · exact offJ p hp
  exact two_start1 loop (W.self 0 _ _ _ ⟨hJ, hU⟩ loop)
noncomputable def Turn2 (prog : Program) (w : World) (A : Around) (h₀ : Heap) (L : Addr) (m : Str → Option Value) (env : Env) (i2 : Expr) (x : Str) (scope : Scope) (cl : List (Str × Addr)) (s : Shared) (P : Nat → Value → Prop) (f : Nat → List Int) (n : Nat) (news : List (Addr × Obj)) : Prop :=
  ∀ i v I oI C oC D oD m₂ h tk (E' : Value → Shared → Prop), i < n → P i v → NsObj oC m₂ → m₂ x = some v → Fr h₀ L h m → News h₀ L h ((I, oI) :: (C, oC) :: (D, oD) :: news) → Off3 I C D news → ((@Ne Nat I C) ∧ (@Ne Nat I D) ∧ (@Ne Nat C D)) →
    wpAny (model prog w) A (eval i2 (compEnvC scope cl C env)) (fun u s' => ∃ U zs h' tk', u = .ref U ∧ s' = { s with heap := h', toks := tk' } ∧ Fr h₀ L h' m ∧ News h₀ L h' ((I, oI) :: (C, oC) :: (D, oD) :: news) ∧ h'.IsList U zs.toArray ∧ (@Ne Nat U C) ∧ (@Ne Nat U D) ∧ IntsAre zs (f i)) E' { s with heap := h, toks := tk }
noncomputable def SrcL2 (prog : Program) (w : World) (A : Around) (h₀ : Heap) (L : Addr) (m : Str → Option Value) (env : Env) (i2 : Expr) (x : Str) (scope : Scope) (cl : List (Str × Addr)) (Fin : Shared → List Value → List (Addr × Obj) → Prop) (xv : Value) (s₁ : Shared) : Prop :=
  ∃ ax its f news, xv = .ref ax ∧ A.handled = none ∧ Fr h₀ L s₁.heap m ∧ News h₀ L s₁.heap news ∧ SrcAt h₀ ax its news ∧ ((List.range its.size).flatMap f).length ≤ sizeLine ∧
    ∀ s₂ : Shared, (∃ h, s₂ = { s₁ with heap := h }) → Turn2 prog w A h₀ L m env i2 x scope cl s₂ (fun i v => its[i]? = some v) f its.size news ∧ ∀ ys, IntsAre ys ((List.range its.size).flatMap f) → Fin s₂ ys news
theorem flat_le (f : Nat → List Int) {i n : Nat} (h : i < n) : ((List.range i).flatMap f).length + (f i).length ≤ ((List.range n).flatMap f).length := by
  induction n with
  | zero => exact absurd h (Nat.not_lt_zero _)
  | succ k ih =>
    rw [List.range_succ, List.flatMap_append, List.length_append]
    rcases Nat.lt_or_ge i k with hlt | hge
    · have := ih hlt; (first | lia | omega)
    · have : i = k := Nat.le_antisymm (Nat.le_of_lt_succ h) hge
      subst this; simp
theorem two_block {ye : Str} {pe : Pos} {cl : List (Str × Addr)} {s₂ : Shared} {I ax : Addr} {its : Array Value} {f : Nat → List Int} {news : List (Addr × Obj)} {RR : Value → Addr → Result → Shared → Prop}
    (hh : A.handled = none) (hne : ax ≠ I) (hxI : ax < s₂.heap.objs.size) (hIlt : I < s₂.heap.objs.size) (hS : SrcAt h₀ ax its news) (hsz : ((List.range its.size).flatMap f).length ≤ sizeLine)
    (hcell : ∀ y ∈ scope.names, y.2 ≠ .cell) (hkind : scope.kind = .function) (hx : scope.names.lookup x = some .local) (hy : scope.names.lookup y = some .local) (hyd : (y == ("__debug__" : Str)) = false)
    (hst : s₂.heap.IsListIter I ax 0 ∧ s₂.heap.IsList ax its)
    (F : Fr h₀ L s₂.heap m) (N : News h₀ L s₂.heap news) (hIL : L ≠ I) (hI₀ : h₀.get? I = none) (off : ∀ p ∈ news, p.1 ≠ I)
    (hs : ∀ C u, foldedSetIterable i2 (compEnvC scope cl C env) u = pure u)
    (T : Turn2 prog w A h₀ L m env i2 x scope cl s₂ (fun i v => its[i]? = some v) f its.size news)
    (hRR : ∀ D C h tk m' ys, Fr h₀ L h m → News h₀ L h ((D, lst ys) :: news) → Off1 D news → h.Ns C m' → h₀.get? C = none → h₀.get? D = none → C ≠ L → D ≠ L → C ≠ D → (∀ p ∈ news, p.1 ≠ C) → IntsAre ys ((List.range its.size).flatMap f) → RR (.ref D) C (.ok .next) { s₂ with heap := h, toks := tk }) :
    wpAny (model prog w) A (newList []) (fun acc s₃ => wpAny (model prog w) A (newFunctionEnv scope env.globals cl [] env.qual none .none (some env)) (fun cenv s₄ =>
      codeAny (model prog w) A (.compStart (lc2 (.Name y pe) i1 i2 x y px py scope pos) 0 (.ref I) acc { cenv with scope := relabel scope env }) (RR acc cenv.locals) s₄) E s₃) E s₂ := by
  refine wpAny_newObj_type (wpAny_newFunctionEnv hcell (by intro y hy; simp at hy) (fun h₁ hns₁ hsb₁ => ?_) hkind)
  dsimp only at hns₁ hsb₁ ⊢
  generalize hH2 : s₂.heap.push { cls := .type "list", dict := none, data := .seq ([] : List Value).toArray } = H2 at hns₁ hsb₁ ⊢
  have hC : H2.objs.size = s₂.heap.objs.size + 1 := by rw [← hH2, Heap.size_push]
  have hDC : s₂.heap.objs.size ≠ H2.objs.size := by rw [hC]; exact Nat.ne_of_lt (Nat.lt_succ_self _)
  have below : ∀ b, b < s₂.heap.objs.size → b ≠ H2.objs.size ∧ b ≠ s₂.heap.objs.size := fun b hb => ⟨by rw [hC]; exact Nat.ne_of_lt (Nat.lt_succ_of_lt hb), Nat.ne_of_lt hb⟩
  have W := Walks.list (prog := prog) (w := w) hh I ax hne its
  have old : ∀ b o, s₂.heap.get? b = some o → h₁.get? b = some o := fun b o e => hsb₁.extBut b o (below b (Heap.lt_size e)).1 (Heap.get?_push_of_some _ (hH2 ▸ Heap.get?_push_of_some _ e))
  have hacc : h₁.get? s₂.heap.objs.size = some (lst []) := hsb₁.extBut _ _ hDC (Heap.get?_push_of_some _ (hH2 ▸ Heap.get?_push_size _ rfl))
  have hst₁ : h₁.IsListIter I ax 0 ∧ h₁.IsList ax its := W.frame 0 _ _ hst fun b _ o e => old b o e
  have fresh₀ : ∀ a, s₂.heap.objs.size ≤ a → h₀.get? a = none := fun a ha => by
    cases e : h₀.get? a with
    | none => rfl
    | some o' => have := Heap.lt_size (F.keep a o' e); exact absurd this (Nat.not_lt.mpr ha)
  have hD₀ : h₀.get? s₂.heap.objs.size = none := fresh₀ _ (Nat.le_refl _)
  have hC₀ : h₀.get? H2.objs.size = none := fresh₀ _ (by rw [hC]; exact Nat.le_succ _)
  have hLlt : L < s₂.heap.objs.size := F.ns.lt
  have hDL : s₂.heap.objs.size ≠ L := Ne.symm (below L hLlt).2
  have hCL : H2.objs.size ≠ L := Ne.symm (below L hLlt).1
  have hCI : I ≠ H2.objs.size := (below I hIlt).1
  have hDI : I ≠ s₂.heap.objs.size := (below I hIlt).2
  have offm : ∀ p ∈ news, p.1 ≠ I ∧ p.1 ≠ H2.objs.size ∧ p.1 ≠ s₂.heap.objs.size := fun p hp => ⟨off p hp, (below _ (Heap.lt_size (N p hp).1)).1, (below _ (Heap.lt_size (N p hp).1)).2⟩
  have off₀ : Off3 I H2.objs.size s₂.heap.objs.size news := Off3.of offm
  have loop : ∀ s₃ : Shared, s₃ = { s₂ with heap := h₁, toks := s₂.toks + ([] : List (Str × Value)).length } →
      codeAny (model prog w) A (.compLoop (lc2 (.Name y pe) i1 i2 x y px py scope pos) 0 (.ref I) (.ref s₂.heap.objs.size) (compEnvC scope cl H2.objs.size env))
        (RR (.ref s₂.heap.objs.size) H2.objs.size) s₃ := by
    rintro s₃ rfl
    refine two_loop0 (TwoO prog h₀ L m I ax H2.objs.size s₂.heap.objs.size its f news s₂) ?_ (its.size + 1)
      (.mk h₁ _ 0 [] _ (Nat.zero_le _) hst₁ (F.keeps old) hns₁ (fun p hp => ?_) (by simpa using IntsAre.nil)) (hs _)
    · rintro k s' ⟨h', tk, i, ys, m', hi, hst', F', hn', N', hys⟩
      by_cases hlt : i < its.size
      · refine W.item i _ _ _ hlt hst' fun v h₂ tk₂ hPv hst₂ hk₂ => ?_
        refine wpAny_assign_Name (wpAny_storeName_local (lookup_relabel_local hx) (hn'.at' fun o e => hk₂ _ o (by simpa using Ne.symm hCI) e) (fun h₃ hn₃ hs₃ => ?_) (by simp [compEnvC, relabel, hkind]))
        have hst₃ : h₃.IsListIter I ax (i + 1) ∧ h₃.IsList ax its := ⟨hst₂.1.at fun o e => hs₃.extBut _ o hCI e, hst₂.2.at fun o e => hs₃.extBut _ o (below ax hxI).1 e⟩
        obtain ⟨oI, heI, _⟩ := hst₃.1
        obtain ⟨oC, heC, hoC⟩ := ns_obj hn₃
        have F₃ : Fr h₀ L h₃ m := (fr_but F' hk₂ hIL hI₀).change hs₃ hCL hC₀
        have N₂ : News h₀ L h₂ ((s₂.heap.objs.size, lst ys) :: news) := news_but N' hk₂ fun p hp => by
          rcases List.mem_cons.mp hp with rfl | hp
          · exact Ne.symm hDI
          · exact (offm p hp).1
        have N₃ : News h₀ L h₃ ((I, oI) :: (H2.objs.size, oC) :: (s₂.heap.objs.size, lst ys) :: news) := fun p hp => by
          rcases List.mem_cons.mp hp with rfl | hp
          · exact ⟨heI, Ne.symm hIL, hI₀⟩
          · rcases List.mem_cons.mp hp with rfl | hp
            · exact ⟨heC, hCL, hC₀⟩
            · have z := N₂ p hp
              refine ⟨hs₃.extBut _ _ ?_ z.1, z.2⟩
              rcases List.mem_cons.mp hp with rfl | hp
              · exact hDC
              · exact (offm p hp).2.1
        refine wpAny_mono (T i v I oI H2.objs.size oC s₂.heap.objs.size _ _ h₃ _ _ hlt hPv hoC (by simp) F₃ N₃ off₀ ⟨hCI, hDI, Ne.symm hDC⟩) (fun u s₄ h₄ => ?_) fun _ _ e => e
        obtain ⟨U, zs, h₄, tk₄, rfl, rfl, F₄, N₄, hU, hUC, hUD, hzs⟩ := h₄
        refine wpAny_pyIter_list hU ?_
        have up : ∀ b o, h₄.get? b = some o → (h₄.push { cls := .type "list_iterator", data := .fields #[.ref U, .int 0 0] }).get? b = some o := fun b o e => Heap.get?_push_of_some _ e
        have hUlt : U < h₄.objs.size := by obtain ⟨_, e, _⟩ := hU; exact Heap.lt_size e
        have lt4 : ∀ p ∈ (I, oI) :: (H2.objs.size, oC) :: (s₂.heap.objs.size, lst ys) :: news, p.1 ≠ h₄.objs.size := fun p hp => Nat.ne_of_lt (Heap.lt_size (N₄ p hp).1)
        have hl := flat_le f hlt
        refine codeAny_mono (two_inner (ye := ye) (s₂ := s₂) (J := h₄.objs.size) (U := U) hh hkind hy hyd ⟨_, Heap.get?_push_size _ rfl, rfl, rfl⟩ (hU.push _) (F₄.keeps up) hoC (N₄.grown up) off₀ ⟨hCI, hDI, Ne.symm hDC⟩ (next_is_new F₄) (Nat.ne_of_lt F₄.ns.lt)
          (Nat.ne_of_lt hUlt) hUC hUD (lt4 _ (.head _)) (lt4 _ (.tail _ (.head _))) (lt4 _ (.tail _ (.tail _ (.head _)))) (fun p hp => lt4 p (.tail _ (.tail _ (.tail _ hp)))) (by rw [hys.length, hzs.length]; (first | lia | omega))) fun r s₅ h₅ => ?_
        obtain ⟨rfl, h₅, tk₅, oC₅, m₅, rfl, F₅, hoC₅, N₅⟩ := h₅
        have zI := (N₅ (I, oI) List.mem_cons_self).1
        have zC := (N₅ (H2.objs.size, oC₅) (List.mem_cons_of_mem _ List.mem_cons_self)).1
        have N₅' : News h₀ L h₅ ((s₂.heap.objs.size, lst (ys ++ zs)) :: news) := fun p hp => N₅ p (List.mem_cons_of_mem _ (List.mem_cons_of_mem _ hp))
        refine ⟨rfl, its.size + 1 - (i + 1), by (first | lia | omega), .mk h₅ tk₅ (i + 1) (ys ++ zs) m₅ hlt
          (list_st (i + 1) h₃ h₅ oI news hst₃ heI zI F₅.keep (fun p hp => N₅' p (List.mem_cons_of_mem _ hp)) hS) F₅ (hoC₅.ns zC) N₅' ?_⟩
        rw [List.range_succ, List.flatMap_append]
        exact hys.append (by simpa using hzs)
      · obtain rfl : i = its.size := Nat.le_antisymm hi (Nat.not_lt.mp hlt)
        refine W.done _ _ _ hst' fun h₂ tk₂ hk₂ => ?_
        exact hRR _ _ h₂ tk₂ _ ys (fr_but F' hk₂ hIL hI₀) (news_but N' hk₂ fun p hp => by
          rcases List.mem_cons.mp hp with rfl | hp
          · exact Ne.symm hDI
          · exact (offm p hp).1) off₀.one (hn'.at' fun o e => hk₂ _ o (by simpa using Ne.symm hCI) e) hC₀ hD₀ hCL hDL (Ne.symm hDC) (fun p hp => (offm p hp).2.1) hys
    · rcases List.mem_cons.mp hp with rfl | hp
      · exact ⟨hacc, hDL, hD₀⟩
      · exact ⟨old _ _ (N p hp).1, (N p hp).2⟩
  exact codeAny_compStart_list (loop _ rfl) (W.self 0 _ _ _ hst₁ (loop _ rfl))
theorem ListComp_2 {pe : Pos} {cl : List (Str × Addr)} {Q : Value → Shared → Prop} (F₀ : Fr h₀ L s.heap m)
    (hclos : closureFor scope env = pure cl) (hcell : ∀ y ∈ scope.names, y.2 ≠ .cell) (hkind : scope.kind = .function)
    (hnames : ∀ y ∈ scope.names, y.2 = .local → scope.names.lookup y.1 = some .local) (hx : scope.names.lookup x = some .local) (hy : scope.names.lookup y = some .local) (hyd : (y == ("__debug__" : Str)) = false)
    (h : wpAny (model prog w) A (eval i1 env) (SrcL2 prog w A h₀ L m env i2 x scope cl (fun s₂ => FinE h₀ L m s₂ Q)) E s)
    (hs : ∀ x, foldedSetIterable i1 env x = pure x := by intro _; rfl) (hs2 : ∀ C u, foldedSetIterable i2 (compEnvC scope cl C env) u = pure u := by intro _ _; rfl) :
    wpAny (model prog w) A (eval (.ListComp (.Name y pe) [⟨.Name x px, i1, [], 0⟩, ⟨.Name y py, i2, [], 0⟩] scope pos) env) Q E s := by
  rw [eval_ListComp]
  refine wpAny_comprehension_free (use := none) rfl hs hclos hkind hnames (wpAny_mono h (fun xv s₁ h₁ => ?_) fun _ _ e => e)
  obtain ⟨ax, its, f, news, rfl, hh, F, N, S, hsz, R⟩ := h₁
  have hl := S.list F.keep N
  have hlt : ax < s₁.heap.objs.size := by obtain ⟨_, e, _⟩ := hl; exact Heap.lt_size e
  refine wpAny_pyIter_list hl ?_
  have up : ∀ b o, s₁.heap.get? b = some o → (s₁.heap.push { cls := .type "list_iterator", data := .fields #[.ref ax, .int 0 0] }).get? b = some o := fun b o e => Heap.get?_push_of_some _ e
  refine two_block (ye := y) hh (Nat.ne_of_lt hlt) ?_ ?_ S hsz hcell hkind hx hy hyd ⟨⟨_, Heap.get?_push_size _ rfl, rfl, rfl⟩, hl.push _⟩
    (F.keeps up) (N.grown up) (Nat.ne_of_lt F.ns.lt) (next_is_new F) (fun p hp => Nat.ne_of_lt (Heap.lt_size (N p hp).1)) hs2 (R _ ⟨_, rfl⟩).1 ?_
  · show ax < (s₁.heap.push _).objs.size
    rw [Heap.size_push]; exact Nat.lt_succ_of_lt hlt
  · show s₁.heap.objs.size < (s₁.heap.push _).objs.size
    rw [Heap.size_push]; exact Nat.lt_succ_self _
  · intro D C h tk m' ys F' N' o1 hn hC₀ hD₀ hCL hDL hCD offC fin
    refine ⟨m', hn, fun h'' hs'' => (R { s₁ with heap := s₁.heap } ⟨_, rfl⟩).2 ys fin D h'' tk (F'.change hs'' hCL hC₀) (fun p hp => ?_) o1⟩
    refine ⟨hs''.extBut _ _ ?_ (N' p hp).1, (N' p hp).2⟩
    rcases List.mem_cons.mp hp with rfl | hp
    · exact Ne.symm hCD
    · exact offC p hp
end
end

end
section
theorem reg_hooks : True := by
  (k_with "@my row back" => ((intro r9Q h9Q tk9Q F9Q N9Q g9Q; obtain ⟨l9Q, ta9Q, tb9Q, tc9Q, k9Q, e9Q, g8Q, g7Q⟩ := g9Q; subst e9Q; (have N8Q := news_add (by k_asm) (by k_asm) N9Q g8Q g7Q); clear N9Q; obtain ⟨N9Q, o9Q⟩ := N8Q; clear g8Q g7Q; (try dsimp only); (try k_fold))))
  (k_with "@my list back" => ((intro r9Q h9Q tk9Q F9Q N9Q g9Q; obtain ⟨l9Q, vs9Q, k9Q, e9Q, g8Q, g7Q, i9Q⟩ := g9Q; subst e9Q; (have N8Q := news_add (by k_asm) (by k_asm) N9Q g8Q g7Q); clear N9Q; obtain ⟨N9Q, o9Q⟩ := N8Q; clear g8Q g7Q; (try dsimp only); (try k_fold))))
  (k_with "@my flat back" => ((intro r9Q h9Q tk9Q F9Q N9Q g9Q; obtain ⟨t9Q, e9Q⟩ := g9Q; subst e9Q; (try dsimp only); (try k_fold))))
  (k_with "@my pair back" => ((intro r9Q h9Q tk9Q F9Q N9Q g9Q; obtain ⟨l9Q, t9Q, t9'Q, k9Q, e9Q, g8Q, g7Q⟩ := g9Q; subst e9Q; (have N8Q := news_add (by k_asm) (by k_asm) N9Q g8Q g7Q); clear N9Q; obtain ⟨N9Q, o9Q⟩ := N8Q; clear g8Q g7Q; (try dsimp only); (try k_fold))))
  (k_with "@subscriptTail Name Constant ref int" => (k_dflt (first | refine b3_0 (by decide) (by k_asm) (by assumption) ?_ | refine b3_1 (by decide) (by k_asm) (by assumption) ?_ | refine b3_2 (by decide) (by k_asm) (by assumption) ?_ | refine n3_0 (by decide) (by k_asm) (by k_mem) ?_ | refine n3_1 (by decide) (by k_asm) (by k_mem) ?_ | refine n3_2 (by decide) (by k_asm) (by k_mem) ?_)))
  (k_with "@subscriptTail Name Name ref int" => (k_dflt (first | refine b3_0 (by decide) (by k_asm) (by assumption) ?_ | refine b3_1 (by decide) (by k_asm) (by assumption) ?_ | refine b3_2 (by decide) (by k_asm) (by assumption) ?_ | refine n3_0 (by decide) (by k_asm) (by k_mem) ?_ | refine n3_1 (by decide) (by k_asm) (by k_mem) ?_ | refine n3_2 (by decide) (by k_asm) (by k_mem) ?_)))
  (k_with "@my apart" => ((repeat' (first | exact True.intro | refine And.intro ?_ ?_ | k_ne))))
  (k_with "@my off lt" => ((repeat' (first | exact True.intro | refine And.intro ?_ ?_ | (refine neN ?_; (try dsimp only); walk_at "my ne")))))
  exact True.intro
section --Sg1

inductive PreA (m : Pm) (L : Addr) (h₀ : Heap) : List (Addr × Obj) → List (Str × Value) → Prop
  | mk : ∀ lf ls lp ti tw a0 a1 a2 b0 b1 b2 c0 c1 c2 k1 k2 k3 o1 o2 o3 v1 v2, (o1.data = .cell v1) → (o2.data = .cell v2) → (o3.data = .cell (some (Value.ref lp))) → (Apart ([(lp, W.listOf #[Value.int m.p0 c0, Value.int m.p1 c1, Value.int m.p2 c2] k3), (ls, W.listOf #[Value.int m.g0 b0, Value.int m.g1 b1, Value.int m.g2 b2] k2), (lf, W.listOf #[Value.int m.f0 a0, Value.int m.f1 a1, Value.int m.f2 a2] k1), (L + 1 + 1 + 1, o1), (L + 1 + 1, o2), (L + 1, o3), (83, tabObj #[]), (76, tabObj #[])])) → PreA m L h₀ ([(lp, W.listOf #[Value.int m.p0 c0, Value.int m.p1 c1, Value.int m.p2 c2] k3), (ls, W.listOf #[Value.int m.g0 b0, Value.int m.g1 b1, Value.int m.g2 b2] k2), (lf, W.listOf #[Value.int m.f0 a0, Value.int m.f1 a1, Value.int m.f2 a2] k1), (L + 1 + 1 + 1, o1), (L + 1 + 1, o2), (L + 1, o3), (83, tabObj #[]), (76, tabObj #[])]) ([(Str.ofString "first", Value.ref lf), (Str.ofString "second", Value.ref ls), (Str.ofString "width", Value.int m.wd tw), (Str.ofString "alphabet", Value.int m.al ti)])
theorem f4 (x : Int) : 0 ≤ x.fmod 4 ∧ x.fmod 4 < 4 := ⟨fmod_lo x (by decide), fmod_hi x (by decide)⟩
theorem fm {x n : Int} (h : 0 ≤ n) : x.fmod n = x % n := Int.fmod_eq_emod_of_nonneg _ h
theorem fst_dec : ∀ a b c : Fin 4, (0 ≤ (if (a.val : Int).fmod 2 ≠ 1 ∧ (b.val : Int).fmod 2 ≠ 1 ∧ (c.val : Int).fmod 2 ≠ 1 then (a.val : Int) + 1 else a.val) ∧ (if (a.val : Int).fmod 2 ≠ 1 ∧ (b.val : Int).fmod 2 ≠ 1 ∧ (c.val : Int).fmod 2 ≠ 1 then (a.val : Int) + 1 else a.val) < 4) ∧
    ((if (a.val : Int).fmod 2 ≠ 1 ∧ (b.val : Int).fmod 2 ≠ 1 ∧ (c.val : Int).fmod 2 ≠ 1 then (a.val : Int) + 1 else a.val) % 2 = 1 ∨ (b.val : Int) % 2 = 1 ∨ (c.val : Int) % 2 = 1) := by decide +kernel
theorem to_fin {r : Int} (h : 0 ≤ r ∧ r < 4) : ∃ k : Fin 4, (k.val : Int) = r := ⟨⟨r.toNat, by omega⟩, Int.toNat_of_nonneg h.1⟩
theorem fst1_ok (n : Int) : (0 ≤ fst1 n ∧ fst1 n < 4) ∧ (fst1 n % 2 = 1 ∨ (n.fdiv 4).fmod 4 % 2 = 1 ∨ (n.fdiv 16).fmod 4 % 2 = 1) := by
  obtain ⟨a, ha⟩ := to_fin (f4 n)
  obtain ⟨b, hb⟩ := to_fin (f4 (n.fdiv 4))
  obtain ⟨c, hc⟩ := to_fin (f4 (n.fdiv 16))
  unfold fst1
  rw [← ha, ← hb, ← hc]
  exact fst_dec a b c
theorem pm_ok {d0 d1 d2 : Int} (b2 : 0 ≤ d2 ∧ d2 < 1000000) :
    Pm.Ok ⟨fst1 d0, (d0.fdiv 4).fmod 4, (d0.fdiv 16).fmod 4, d1.fmod 4, (d1.fdiv 4).fmod 4, (d1.fdiv 16).fmod 4, d2.fmod 4, (d2.fdiv 4).fmod 4, (d2.fdiv 16).fmod 4, 7 + (d2.fdiv 64).fmod 6, d2.fdiv 384⟩ := by
  refine ⟨(fst1_ok d0).1, f4 _, f4 _, f4 _, f4 _, f4 _, f4 _, f4 _, f4 _, (fst1_ok d0).2, ?_, ?_⟩
  · have h1 := fmod_lo (d2.fdiv 64) (n := 6) (by decide)
    have h2 := fmod_hi (d2.fdiv 64) (n := 6) (by decide)
    show 7 ≤ 7 + (d2.fdiv 64).fmod 6 ∧ 7 + (d2.fdiv 64).fmod 6 ≤ 12
    omega
  · show 0 ≤ d2.fdiv 384 ∧ d2.fdiv 384 < 2605
    rw [Int.fdiv_eq_ediv_of_nonneg _ (by decide)]
    omega
theorem seg1 (w : World) : Seg w 1 5 Pre1 (fun L h₀ led pl => ∃ m, Pm.Ok m ∧ PreA m L h₀ led pl) := by
  w_top off; intro p loose mean mg mb dp un gd outer A₀ base h₀ L' fa ccd s h tk led pl u B X T hdp hun h83 F N hpre; revert X; k_fill; intro X; dsimp only [in179, List.drop, List.take]
  obtain ⟨l, d0, d1, d2, t0, t1, t2, k, o1, o2, o3, v1, v2, v3, rfl, rfl, e1, e2, e3, hlt, b0, b1, b2⟩ := hpre
  (try dsimp only); (try k_fold); refine wp_gen ?_; intro Qz hQz
  (k_with "@call ref" => (fail_if_success (k_extra "Sg1 off"));  (first
    | ((with_reducible show wpAny _ _ (call (Value.ref 143) _) _ _ _); (refine' Spec.use (first_spec w _ _ ?r1 ?r2) ?k1 ?k2 ?k3 ?k4 ?k5 ?kK ?kd ?ku trivial ?_); walk_at "my prem"; (case r1 => omega); (case r2 => omega); walk_at "my row back")
    | ((with_reducible show wpAny _ _ (call (Value.ref 138) _) _ _ _); (refine' Spec.use (row_spec w _ _ ?r1 ?r2) ?k1 ?k2 ?k3 ?k4 ?k5 ?kK ?kd ?ku trivial ?_); walk_at "my prem"; (case r1 => omega); (case r2 => omega); walk_at "my row back")))
  k_steps
  (try subst hQz); (try subst hQz); exact mid_next (by assumption) (by assumption) (by repeat' first | exact trivial | refine ⟨by k_mem, ?_⟩) (by repeat' first | exact trivial | refine ⟨rfl, ?_⟩) (⟨⟨_, _, _, _, _, _, _, _, _, _, _⟩, pm_ok (d0 := d0) (d1 := d1) b2, _, _, _, _, _, _, _, _, _, _, _, _, _, _, _, _, _, _, _, _, _, _, by assumption, by assumption, by assumption, (by walk_at "my apart")⟩)
theorem off_Sg1 : True := by
  (k_with "Sg1 off" => skip)
  exact True.intro

end
section --Sg2

inductive PreB (m : Pm) (C D : List Int) (L : Addr) (h₀ : Heap) : List (Addr × Obj) → List (Str × Value) → Prop
  | mk : ∀ lp lc ld vc vd kc kd ti tw c0 c1 c2 k3 o1 o2 o3 v1 v2, (IntsAre vc C) → (IntsAre vd D) → (o1.data = .cell v1) → (o2.data = .cell v2) → (o3.data = .cell (some (Value.ref lp))) → (Apart ([(ld, W.listOf (List.toArray vd) kd), (lc, W.listOf (List.toArray vc) kc), (lp, W.listOf #[Value.int m.p0 c0, Value.int m.p1 c1, Value.int m.p2 c2] k3), (L + 1 + 1 + 1, o1), (L + 1 + 1, o2), (L + 1, o3), (83, tabObj #[]), (76, tabObj #[])])) → PreB m C D L h₀ ([(ld, W.listOf (List.toArray vd) kd), (lc, W.listOf (List.toArray vc) kc), (lp, W.listOf #[Value.int m.p0 c0, Value.int m.p1 c1, Value.int m.p2 c2] k3), (L + 1 + 1 + 1, o1), (L + 1 + 1, o2), (L + 1, o3), (83, tabObj #[]), (76, tabObj #[])]) ([(Str.ofString "code", Value.ref lc), (Str.ofString "dual", Value.ref ld), (Str.ofString "width", Value.int m.wd tw), (Str.ofString "alphabet", Value.int m.al ti)])
theorem seg2 (w : World) (m : Pm) (hm : m.Ok) : Seg w 6 2 (PreA m) (PreB m (codeF m.f0 m.f1 m.f2 m.g0 m.g1 m.g2) (dualF m.f0 m.f1 m.f2 m.g0 m.g1 m.g2)) := by
  w_top off; intro p loose mean mg mb dp un gd outer A₀ base h₀ L' fa ccd s h tk led pl u B X T hdp hun h83 F N hpre; revert X; k_fill; intro X; dsimp only [in179, List.drop, List.take]
  obtain ⟨lf, ls, lp, ti, tw, a0, a1, a2, b0, b1, b2, c0, c1, c2, k1, k2, k3, o1, o2, o3, v1, v2, e1, e2, e3, hap⟩ := hpre
  have hap0 := hap; (repeat (obtain ⟨zz, hap⟩ := hap; dsimp only at zz)); (try clear hap)
  (try dsimp only); (try k_fold); refine wp_gen ?_; intro Qz hQz
  (k_with "@call ref" => (fail_if_success (k_extra "Sg2 off"));  (first
    | ((with_reducible show wpAny _ _ (call (Value.ref 148) _) _ _ _); (refine' Spec.use (code_spec w _ _ _ _ _ _ _ _ _ _ _ _ _ _ _ _ hm.f0 hm.f1 hm.f2 hm.g0 hm.g1 hm.g2) ?k1 ?k2 ?k3 ?k4 ?k5 ?kK ?kd ?ku ⟨News.get (by k_asm) (by k_mem), News.get (by k_asm) (by k_mem)⟩ ?_); walk_at "my prem"; walk_at "my list back")
    | ((with_reducible show wpAny _ _ (call (Value.ref 155) _) _ _ _); (refine' Spec.use (dual_spec w _ _ _ _ _ _ _ _ _ _ _ _ _ _ _ _ hm.f0 hm.f1 hm.f2 hm.g0 hm.g1 hm.g2) ?k1 ?k2 ?k3 ?k4 ?k5 ?kK ?kd ?ku ⟨News.get (by k_asm) (by k_mem), News.get (by k_asm) (by k_mem)⟩ ?_); walk_at "my prem"; walk_at "my list back")))
  k_steps
  (try subst hQz); (try subst hQz); exact mid_next2 (by assumption) (by assumption) (by repeat' first | exact trivial | refine ⟨rfl, ?_⟩) (by repeat' first | exact trivial | refine ⟨by k_mem, ?_⟩) (⟨_, _, _, _, _, _, _, _, _, _, _, _, _, _, _, _, _, _, by with_reducible assumption, by with_reducible assumption, by with_reducible assumption, by with_reducible assumption, by with_reducible assumption, (by walk_at "my apart")⟩)
theorem off_Sg2 : True := by
  (k_with "Sg2 off" => skip)
  exact True.intro

end
section --Sg3

theorem reg_Sg3_1 : True := by
  (k_with "@subscriptTail Name Slice ref ref" => ((fail_if_success (k_extra "Sg3 off")); ((k_here; (with_reducible show wpAny _ _ (subscriptTail _ (PySem.Expr.Slice none (some _) (some _) _) (Value.ref _) (Value.ref _)) _ _ _); k_dflt (refine' rv1_ints ?Fx0 ?Nx0 ?lx0 ?ux0 ?kx0 ?ix0 ?_ ?sx0 ?tx0 ?zx0; (case Fx0 => k_asm); (case Nx0 => k_asm); (case lx0 => kmk_list); (case ux0 => exact IsPart.int _ _); (case kx0 => exact IsPart.int _ _); (case ix0 => l_ints); (case sx0 => with_unfolding_all rfl); (case tx0 => kmk_pure); (case zx0 => kmk_size)); intro D'Q ws'Q h'Q F'Q N'Q l1Q hI'Q; (try k_lt l1Q); (try k_sweep)))))
  (k_with "@subscriptTail Name Slice ref ref" => ((fail_if_success (k_extra "Sg3 off")); ((k_here; (with_reducible show wpAny _ _ (subscriptTail _ (PySem.Expr.Slice none (some _) (some _) _) (Value.ref _) (Value.ref _)) _ _ _); k_dflt (refine' rv1_ints ?Fx1 ?Nx1 ?lx1 ?ux1 ?kx1 ?ix1 ?_ ?sx1 ?tx1 ?zx1; (case Fx1 => k_asm); (case Nx1 => k_asm); (case lx1 => kmk_list); (case ux1 => exact IsPart.int _ _); (case kx1 => exact IsPart.int _ _); (case ix1 => l_ints); (case sx1 => with_unfolding_all rfl); (case tx1 => kmk_pure); (case zx1 => kmk_size)); intro D'Q ws'Q h'Q F'Q N'Q l1Q hI'Q; (try k_lt l1Q); (try k_sweep)))))
  (k_with "@subscriptTail Name Slice ref ref" => ((fail_if_success (k_extra "Sg3 off")); ((k_here; (with_reducible show wpAny _ _ (subscriptTail _ (PySem.Expr.Slice none (some _) (some _) _) (Value.ref _) (Value.ref _)) _ _ _); k_dflt (refine' rv1_ints ?Fx2 ?Nx2 ?lx2 ?ux2 ?kx2 ?ix2 ?_ ?sx2 ?tx2 ?zx2; (case Fx2 => k_asm); (case Nx2 => k_asm); (case lx2 => kmk_list); (case ux2 => exact IsPart.int _ _); (case kx2 => exact IsPart.int _ _); (case ix2 => l_ints); (case sx2 => with_unfolding_all rfl); (case tx2 => kmk_pure); (case zx2 => kmk_size)); intro D'Q ws'Q h'Q F'Q N'Q l1Q hI'Q; (try k_lt l1Q); (try k_sweep)))))
  (k_with "@subscriptTail Name Slice ref ref" => ((fail_if_success (k_extra "Sg3 off")); ((k_here; (with_reducible show wpAny _ _ (subscriptTail _ (PySem.Expr.Slice none (some _) (some _) _) (Value.ref _) (Value.ref _)) _ _ _); k_dflt (refine' rv1_ints ?Fx3 ?Nx3 ?lx3 ?ux3 ?kx3 ?ix3 ?_ ?sx3 ?tx3 ?zx3; (case Fx3 => k_asm); (case Nx3 => k_asm); (case lx3 => kmk_list); (case ux3 => exact IsPart.int _ _); (case kx3 => exact IsPart.int _ _); (case ix3 => l_ints); (case sx3 => with_unfolding_all rfl); (case tx3 => kmk_pure); (case zx3 => kmk_size)); intro D'Q ws'Q h'Q F'Q N'Q l1Q hI'Q; (try k_lt l1Q); (try k_sweep)))))
  (k_with "@subscriptTail Name Slice ref ref" => ((fail_if_success (k_extra "Sg3 off")); ((k_here; (with_reducible show wpAny _ _ (subscriptTail _ (PySem.Expr.Slice none (some _) (some _) _) (Value.ref _) (Value.ref _)) _ _ _); k_dflt (refine' rv1_ints ?Fx4 ?Nx4 ?lx4 ?ux4 ?kx4 ?ix4 ?_ ?sx4 ?tx4 ?zx4; (case Fx4 => k_asm); (case Nx4 => k_asm); (case lx4 => kmk_list); (case ux4 => exact IsPart.int _ _); (case kx4 => exact IsPart.int _ _); (case ix4 => l_ints); (case sx4 => with_unfolding_all rfl); (case tx4 => kmk_pure); (case zx4 => kmk_size)); intro D'Q ws'Q h'Q F'Q N'Q l1Q hI'Q; (try k_lt l1Q); (try k_sweep)))))
  exact True.intro
structure CodeOk (C : List Int) : Prop where
  len : 1 ≤ C.length ∧ C.length ≤ 16
  rng : ∀ x ∈ C, 0 ≤ x ∧ x < 64
  zero : C.getD 0 0 = 0
  top : 0 < C.getD (C.length - 1) 0
inductive PreCi (m : Pm) (C D : List Int) (xW : Int) (L : Addr) (h₀ : Heap) : List (Addr × Obj) → List (Str × Value) → Prop
  | mk : ∀ lp lc ld vc vd kc kd ti tw th c0 c1 c2 k3 o1 o2 o3 v1 v2, (IntsAre vc C) → (IntsAre vd D) → (o1.data = .cell v1) → (o2.data = .cell v2) → (o3.data = .cell (some (Value.ref lp))) → (Apart ([(ld, W.listOf (List.toArray vd) kd), (lc, W.listOf (List.toArray vc) kc), (lp, W.listOf #[Value.int m.p0 c0, Value.int m.p1 c1, Value.int m.p2 c2] k3), (L + 1 + 1 + 1, o1), (L + 1 + 1, o2), (L + 1, o3), (83, tabObj #[]), (76, tabObj #[])])) → PreCi m C D xW L h₀ ([(ld, W.listOf (List.toArray vd) kd), (lc, W.listOf (List.toArray vc) kc), (lp, W.listOf #[Value.int m.p0 c0, Value.int m.p1 c1, Value.int m.p2 c2] k3), (L + 1 + 1 + 1, o1), (L + 1 + 1, o2), (L + 1, o3), (83, tabObj #[]), (76, tabObj #[])]) ([(Str.ofString "code", Value.ref lc), (Str.ofString "dual", Value.ref ld), (Str.ofString "width", Value.int m.wd tw), (Str.ofString "alphabet", Value.int m.al ti), (Str.ofString "whole", Value.int xW th)])
noncomputable def PreC (m : Pm) (C D : List Int) : Addr → Heap → List (Addr × Obj) → List (Str × Value) → Prop := PreCi m C D (d2 6 C)
theorem oct_ok {C : List Int} (hC : CodeOk C) : (∀ x ∈ octF C, 0 ≤ x ∧ x < 256) ∧ (octF C).length = C.length ∧ (∀ i, i + 1 < (octF C).length → 64 ≤ (octF C).getD i 0 ∧ (octF C).getD i 0 < 128) ∧ (octF C).getD ((octF C).length - 1) 0 = 0 ∧ vF (octF C) = d2 6 C := by
  obtain ⟨⟨l1, l2⟩, hr, hz, -⟩ := hC
  rcases C with _ | ⟨c, T⟩
  · simp at l1
  have hc : c = 0 := by simpa using hz
  subst hc
  have hT : ∀ x ∈ T, 0 ≤ x ∧ x < 64 := fun x hx => hr x (.tail _ hx)
  unfold octF
  rw [List.drop_succ_cons, List.drop_zero]
  have hm : ∀ x ∈ List.map (fun k' => 64 + k') T.reverse, 64 ≤ x ∧ x < 128 := fun x hx => by
    obtain ⟨y, hy, rfl⟩ := List.mem_map.mp hx
    have := hT y (List.mem_reverse.mp hy)
    omega
  have hl : (List.map (fun k' => 64 + k') T.reverse ++ [(0 : Int)]).length = T.length + 1 := by simp
  refine ⟨fun x hx => ?_, hl, fun i hi => ?_, ?_, ?_⟩
  · rcases List.mem_append.mp hx with hx | hx
    · have := hm x hx; omega
    · rw [List.mem_singleton.mp hx]; decide
  · rw [hl] at hi
    have hi2 : i < (List.map (fun k' => (64 : Int) + k') T.reverse).length := by simp; omega
    rw [List.getD_eq_getElem?_getD, List.getElem?_append_left hi2, List.getElem?_eq_getElem hi2]
    exact hm _ (List.getElem_mem hi2)
  · rw [hl, List.getD_eq_getElem?_getD, List.getElem?_append_right (by simp)]
    simp
  · unfold vF
    rw [List.foldl_append, foldl_d2 T hT]
    show d2 6 T * 64 + 0 % 64 = 0 + 2 ^ 6 * d2 6 T
    omega
theorem seg3 (w : World) (m : Pm) (C D : List Int) (hm : m.Ok) (hC : CodeOk C) : Seg w 8 2 (PreB m C D) (PreC m C D) := by
  w_top off; intro p loose mean mg mb dp un gd outer A₀ base h₀ L' fa ccd s h tk led pl u B X T hdp hun h83 F N hpre; revert X; k_fill; intro X; dsimp only [in179, List.drop, List.take]
  obtain ⟨lp, lc, ld, vc, vd, kc, kd, ti, tw, c0, c1, c2, k3, o1, o2, o3, v1, v2, hIc, hId, e1, e2, e3, hap⟩ := hpre
  have hl16 : C.length ≤ 16 := hC.len.2
  have hrng := hC.rng
  have hap0 := hap; (repeat (obtain ⟨zz, hap⟩ := hap; dsimp only at zz)); (try clear hap)
  (try dsimp only); (try k_fold); refine wp_gen ?_; intro Qz hQz
  generalize hsD : W.listOf (List.toArray vd) kd = oDl at N; generalize hsP : W.listOf #[Value.int m.p0 c0, Value.int m.p1 c1, Value.int m.p2 c2] k3 = oPl at N
  obtain ⟨oc1, oc2, oc3, oc4, oc5⟩ := oct_ok hC
  have oc6 := bInts_arr oc1
  have oc7 : (octF C).length ≤ 30 := Nat.le_trans (Nat.le_of_eq oc2) (by omega)
  have oc8 : 0 < (octF C).length := Nat.lt_of_lt_of_eq hC.len.1 oc2.symm
  (k_with "@call type:bytes" => (fail_if_success (k_extra "Sg3 off"));  (refine' KBa.make_K ?F ?N rfl ?l (ns := octF C) ?i oc1 ?n ?_; (case F => k_asm); (case N => k_asm); (case l => kmk_list); (case i => with_reducible assumption); (case n => exact Nat.le_trans oc7 (by decide)); intro h' t' k' F' N' kbaIn))
  (k_with "@call builtin:iter" => (fail_if_success (k_extra "Sg3 off"));  (refine by_iter (by k_asm) (by k_asm) ?_; intro I' h' oI' F' N' l1 hio'; (have off9 := off1_lt l1); clear l1))
  (k_with "@call ref" => (fail_if_success (k_extra "Sg3 off"));  ((with_reducible show wpAny _ _ (call (Value.ref 117) _) _ _ _); (refine' Spec.use1d (varint_spec w _ _ _ _ (octF C) oc6 hio' oc7 oc8 oc3 (by rw [oc4]; decide)) ?k1 ?k2 ?k3 ?k4 ?k5 ?kK ?kd ?ku off9 trivial ?_); walk_at "my prem"; walk_at "my flat back"))
  k_steps
  skip
  (try subst hQz); unfold PreC; rw [← oc5]
  (try subst hQz); (try subst hQz); exact mid_next2 (by assumption) (by assumption) (by repeat' first | exact trivial | refine ⟨rfl, ?_⟩) (by repeat' first | exact trivial | refine ⟨by first | k_mem | ((first | rw [hsD] | rw [hsP]); k_mem), ?_⟩) (⟨_, _, _, _, _, _, _, _, _, _, _, _, _, _, _, _, _, _, _, by with_reducible assumption, by with_reducible assumption, by with_reducible assumption, by with_reducible assumption, by with_reducible assumption, hap0⟩)
theorem off_Sg3 : True := by
  (k_with "Sg3 off" => skip)
  exact True.intro

end
section --Sg4

inductive PreD (m : Pm) (C D : List Int) (L : Addr) (h₀ : Heap) : List (Addr × Obj) → List (Str × Value) → Prop
  | mk : ∀ lp lc ld vc vd kc kd ti tw th c0 c1 c2 k3 o1 o2 o3 v1 v2 cI oI cD oD wI xI wD xD, (IntsAre vc C) → (IntsAre vd D) → (o1.data = .cell v1) → (o2.data = .cell v2) → (o3.data = .cell (some (Value.ref lp))) → (oI.data = .fields wI) → (wI[1]? = some (.str q81 xI)) → (oD.data = .fields wD) → (wD[1]? = some (.str q88 xD)) → (Apart ([(cI, oI), (cD, oD), (ld, W.listOf (List.toArray vd) kd), (lc, W.listOf (List.toArray vc) kc), (lp, W.listOf #[Value.int m.p0 c0, Value.int m.p1 c1, Value.int m.p2 c2] k3), (L + 1 + 1 + 1, o1), (L + 1 + 1, o2), (L + 1, o3), (83, tabObj #[rawInt 54, rawInt 4, Value.ref cD]), (76, tabObj #[rawInt 39, rawInt 4, Value.ref cI])])) → PreD m C D L h₀ ([(cI, oI), (cD, oD), (ld, W.listOf (List.toArray vd) kd), (lc, W.listOf (List.toArray vc) kc), (lp, W.listOf #[Value.int m.p0 c0, Value.int m.p1 c1, Value.int m.p2 c2] k3), (L + 1 + 1 + 1, o1), (L + 1 + 1, o2), (L + 1, o3), (83, tabObj #[rawInt 54, rawInt 4, Value.ref cD]), (76, tabObj #[rawInt 39, rawInt 4, Value.ref cI])]) ([(Str.ofString "code", Value.ref lc), (Str.ofString "dual", Value.ref ld), (Str.ofString "width", Value.int m.wd tw), (Str.ofString "alphabet", Value.int m.al ti), (Str.ofString "whole", Value.int (d2 6 C) th)])
theorem seg4 (w : World) (m : Pm) (C D : List Int) (hm : m.Ok) (hC : CodeOk C) : Seg w 10 1 (PreC m C D) (PreD m C D) := by
  have hb : ∀ x ∈ C, 0 ≤ x ∧ x < 2 ^ 6 := hC.rng
  have hl16 : C.length ≤ 16 := hC.len.2
  have hl1 : 0 < C.length := hC.len.1
  obtain ⟨hmo, hpos⟩ := mOf_d2 (n := 6) (by decide) hb hl1 hC.top
  have hlt : d2 6 C < 2 ^ 180 := (pow_small' (d2_bnd 6 C hb).2 (by omega))
  w_top off; intro p loose mean mg mb dp un gd outer A₀ base h₀ L' fa ccd s h tk led pl u B X T hdp hun h83 F N hpre; revert X; k_fill; intro X; dsimp only [in179, List.drop, List.take]
  obtain ⟨lp, lc, ld, vc, vd, kc, kd, ti, tw, th, c0, c1, c2, k3, o1, o2, o3, v1, v2, hIc, hId, e1, e2, e3, hap⟩ := hpre
  have hap0 := hap; (repeat (obtain ⟨zz, hap⟩ := hap; dsimp only at zz)); (try clear hap)
  (try dsimp only); (try k_fold); refine wp_gen ?_; intro Qz hQz
  generalize hsD : W.listOf (List.toArray vd) kd = oDl at N; generalize hsP : W.listOf #[Value.int m.p0 c0, Value.int m.p1 c1, Value.int m.p2 c2] k3 = oPl at N
  (k_with "@call ref" => (fail_if_success (k_extra "Sg4 off"));  (first
    | ((with_reducible show wpAny _ _ (call (Value.ref 88) _) _ _ _); (refine' Spec.use1 (P := 83) (dig_first w lc vc C kc 6 _ hIc (by omega) (by omega) hl1 hb) ?k1 ?k2 ?k3 ?k4 ?k5 ?kK ?kd ?ku ?U ?ask ?_); walk_at "my prem"; (case U => k_updF); (case ask => exact hide_get (by k_asm) (by k_mem) (by k_ne)); intro r9 h9 tk9 F9 M9 g9; obtain ⟨⟨t9, e9⟩, cD, ⟨oD, wD, xD, x1, x2, x3, x4⟩, y1, y2⟩ := g9; subst e9; (have M8 := M9 _ x1); clear M9; (have N9 := (M8.2 cD oD y1 y2 x2).1); (have o9 := (M8.2 cD oD y1 y2 x2).2); clear M8 x1 x2 y1; (try dsimp only at N9); (try dsimp only at o9); (try dsimp only); (try k_fold))
    | ((with_reducible show wpAny _ _ (call (Value.ref 81) _) _ _ _); (refine' Spec.use1 (P := 76) (int_first w _ 6 _ _ hpos hlt (by decide)) ?k1 ?k2 ?k3 ?k4 ?k5 ?kK ?kd ?ku ?U trivial ?_); walk_at "my prem"; (case U => k_updF); intro r9 h9 tk9 F9 M9 g9; obtain ⟨⟨l9, vs9, k9, e9, z1, z2, i9⟩, cI, ⟨oI, wI, xI, x1, x2, x3', x4'⟩, y1, y2'⟩ := g9; subst e9; (have M8 := M9 _ x1); clear M9; (have N9 := (M8.2 cI oI y1 y2' x2).1); (have o9' := (M8.2 cI oI y1 y2' x2).2); clear M8 x1 x2 y1; (try dsimp only at N9); (try dsimp only at o9'); rw [hmo, digs_d2 6 C hb] at i9; (try dsimp only); (try k_fold))))
  (k_with "@compareOp NotEq ref ref" => (fail_if_success (k_extra "Sg4 off"));  (refine ne_same ⟨_, z2, rfl, k9, rfl⟩ i9 (News.isList (by k_asm) (by k_mem)) hIc (by ktr_units) ?_))
  k_steps
  · exact absurd rfl (by assumption : d2 6 C ≠ d2 6 C)
  · (try subst hQz); (try subst hQz); exact mid_next2 (by assumption) (by assumption) (by repeat' first | exact trivial | refine ⟨rfl, ?_⟩) (by repeat' first | exact trivial | refine ⟨by first | k_mem | ((first | rw [hsD] | rw [hsP]); k_mem), ?_⟩) (⟨_, _, _, _, _, _, _, _, _, _, _, _, _, _, _, _, _, _, _, _, _, _, _, _, _, _, _, hIc, hId, by with_reducible assumption, by with_reducible assumption, by with_reducible assumption, x3', x4', x3, x4, ⟨o9', ⟨o9, hap0⟩⟩⟩)
theorem off_Sg4 : True := by
  (k_with "Sg4 off" => skip)
  exact True.intro

end
section --Sg5

inductive PreEi (m : Pm) (C D : List Int) (xG : List Int) (L : Addr) (h₀ : Heap) : List (Addr × Obj) → List (Str × Value) → Prop
  | mk : ∀ lf vf kf lp lc ld vc vd kc kd ti tw c0 c1 c2 k3 o1 o2 o3 v1 v2 cI oI cD oD wI xI wD xD, (IntsAre vf xG) → (IntsAre vc C) → (IntsAre vd D) → (o1.data = .cell v1) → (o2.data = .cell v2) → (o3.data = .cell (some (Value.ref lp))) → (oI.data = .fields wI) → (wI[1]? = some (.str q81 xI)) → (oD.data = .fields wD) → (wD[1]? = some (.str q88 xD)) → (Apart ([(lf, W.listOf (List.toArray vf) kf), (cI, oI), (cD, oD), (ld, W.listOf (List.toArray vd) kd), (lc, W.listOf (List.toArray vc) kc), (lp, W.listOf #[Value.int m.p0 c0, Value.int m.p1 c1, Value.int m.p2 c2] k3), (L + 1 + 1 + 1, o1), (L + 1 + 1, o2), (L + 1, o3), (83, tabObj #[rawInt 54, rawInt 4, Value.ref cD]), (76, tabObj #[rawInt 39, rawInt 4, Value.ref cI])])) → PreEi m C D xG L h₀ ([(lf, W.listOf (List.toArray vf) kf), (cI, oI), (cD, oD), (ld, W.listOf (List.toArray vd) kd), (lc, W.listOf (List.toArray vc) kc), (lp, W.listOf #[Value.int m.p0 c0, Value.int m.p1 c1, Value.int m.p2 c2] k3), (L + 1 + 1 + 1, o1), (L + 1 + 1, o2), (L + 1, o3), (83, tabObj #[rawInt 54, rawInt 4, Value.ref cD]), (76, tabObj #[rawInt 39, rawInt 4, Value.ref cI])]) ([(Str.ofString "figures", Value.ref lf), (Str.ofString "code", Value.ref lc), (Str.ofString "dual", Value.ref ld), (Str.ofString "width", Value.int m.wd tw), (Str.ofString "alphabet", Value.int m.al ti)])
noncomputable def PreE (m : Pm) (C D : List Int) : Addr → Heap → List (Addr × Obj) → List (Str × Value) → Prop := PreEi m C D (digs 2 (3 * C.length) (d2 6 C))
theorem digs_zero (n : Nat) : ∀ k, digs n k 0 = List.replicate k 0
  | 0 => rfl
  | k + 1 => by rw [digs, Int.zero_emod, Int.zero_ediv, digs_zero n k, List.replicate_succ]
theorem digs_pad {n M k : Nat} {v : Int} (h0 : 0 ≤ v) (h : v < 2 ^ (M * n)) : digs n M v ++ List.replicate k 0 = digs n (M + k) v := by
  rw [digs_add, Int.emod_eq_of_lt h0 h, Int.ediv_eq_zero_of_lt h0 h, digs_zero]
theorem flat_rep (k : Nat) : (List.replicate k [(0 : Int)]).flatten = List.replicate k 0 := by
  induction k with
  | zero => rfl
  | succ k ih => rw [List.replicate_succ, List.flatten_cons, ih, List.replicate_succ]; rfl
theorem fig_eq {C : List Int} (hb : ∀ x ∈ C, 0 ≤ x ∧ x < 2 ^ 6) (hpos : 0 < d2 6 C) (m1 : 1 ≤ mOf (d2 6 C) 2) (m4 : d2 6 C < 2 ^ ((mOf (d2 6 C) 2).toNat * 2)) :
    digs 2 (mOf (d2 6 C) 2).toNat (d2 6 C) ++ (List.replicate (3 * (C.length : Int) - ((digs 2 (mOf (d2 6 C) 2).toNat (d2 6 C)).length : Int)).toNat [(0 : Int)]).flatten = digs 2 (3 * C.length) (d2 6 C) := by
  have hbits : Builtin.Int.intBits (d2 6 C) ≤ 6 * C.length := intBits_le_iff.mpr (nat_lt_pow (by
    rw [show ((d2 6 C).natAbs : Int) = d2 6 C by omega]; exact (d2_bnd 6 C hb).2))
  have e : mOf (d2 6 C) 2 = (((Builtin.Int.intBits (d2 6 C) : Nat) : Int) + (2 : Nat) - 1) / ((2 : Nat) : Int) := Int.fdiv_eq_ediv_of_nonneg _ (by decide)
  have hle : (mOf (d2 6 C) 2).toNat ≤ 3 * C.length := by
    rw [e]; omega
  rw [digs_len, flat_rep, digs_pad (Int.le_of_lt hpos) m4]
  congr 1
  omega
theorem seg5 (w : World) (m : Pm) (C D : List Int) (hm : m.Ok) (hC : CodeOk C) : Seg w 11 2 (PreD m C D) (PreE m C D) := by
  have hb : ∀ x ∈ C, 0 ≤ x ∧ x < 2 ^ 6 := hC.rng
  have hl16 : C.length ≤ 16 := hC.len.2
  have hl1 : 0 < C.length := hC.len.1
  obtain ⟨hmo, hpos⟩ := mOf_d2 (n := 6) (by decide) hb hl1 hC.top
  have hlt : d2 6 C < 2 ^ 180 := (pow_small' (d2_bnd 6 C hb).2 (by omega))
  obtain ⟨m1, m2, m3, m4⟩ := m_ok (n := 2) hpos hlt (by decide)
  have hlen := digs_len 2 (mOf (d2 6 C) 2).toNat (d2 6 C)
  w_top off; intro p loose mean mg mb dp un gd outer A₀ base h₀ L' fa ccd s h tk led pl u B X T hdp hun h83 F N hpre; revert X; k_fill; intro X; dsimp only [in179, List.drop, List.take]
  obtain ⟨lp, lc, ld, vc, vd, kc, kd, ti, tw, th, c0, c1, c2, k3, o1, o2, o3, v1, v2, cI, oI, cD, oD, wI, xI, wD, xD, hIc, hId, e1, e2, e3, x3', x4', x3, x4, hap⟩ := hpre
  have hap0 := hap; (repeat (obtain ⟨zz, hap⟩ := hap; dsimp only at zz)); (try clear hap)
  (try dsimp only); (try k_fold); refine wp_gen ?_; intro Qz hQz
  generalize hsD : W.listOf (List.toArray vd) kd = oDl at N; generalize hsP : W.listOf #[Value.int m.p0 c0, Value.int m.p1 c1, Value.int m.p2 c2] k3 = oPl at N; generalize hs8 : tabObj #[rawInt 54, rawInt 4, Value.ref cD] = o83 at N
  (k_with "@call ref" => (fail_if_success (k_extra "Sg5 off"));  ((with_reducible show wpAny _ _ (call (Value.ref 81) _) _ _ _); (refine' Spec.use (int_hit w _ 2 cI _ _ hpos hlt (by decide)) ?k1 ?k2 ?k3 ?k4 ?k5 ?kK ?kd ?ku ⟨oI, wI, xI, News.get (by k_asm) (by k_mem), News.get (by k_asm) (by k_mem), x3', x4'⟩ ?_); walk_at "my prem"; walk_at "my list back"))
  k_steps
  (rename IntsAre _ (_ ++ _) => hws)
  rw [fig_eq hb hpos m1 m4] at hws
  (try subst hQz); (try subst hQz); exact mid_next2 (by assumption) (by assumption) (by repeat' first | exact trivial | refine ⟨rfl, ?_⟩) (by repeat' first | exact trivial | refine ⟨by first | k_mem | ((first | rw [hsD] | rw [hsP] | rw [hs8]); k_mem), ?_⟩) (⟨_, _, _, _, _, _, _, _, _, _, _, _, _, _, _, _, _, _, _, _, _, _, _, _, _, _, _, _, _, hws, hIc, hId, by with_reducible assumption, by with_reducible assumption, by with_reducible assumption, x3', x4', x3, x4, ⟨(by walk_at "my off lt"), hap0⟩⟩)
theorem off_Sg5 : True := by
  (k_with "Sg5 off" => skip)
  exact True.intro

end
section --Sg7

inductive PreFi (m : Pm) (C D : List Int) (xG : List Int) (L : Addr) (h₀ : Heap) : List (Addr × Obj) → List (Str × Value) → Prop
  | mk : ∀ lf vf kf lp lc ld vc vd kc kd ti tw tb to tt c0 c1 c2 k3 o1 o2 o3 v1 v2 cI oI cD oD wI xI wD xD, (IntsAre vf xG) → (IntsAre vc C) → (IntsAre vd D) → (o1.data = .cell v1) → (o2.data = .cell v2) → (o3.data = .cell (some (Value.ref lp))) → (oI.data = .fields wI) → (wI[1]? = some (.str q81 xI)) → (oD.data = .fields wD) → (wD[1]? = some (.str q88 xD)) → (Apart ([(lf, W.listOf (List.toArray vf) kf), (cI, oI), (cD, oD), (ld, W.listOf (List.toArray vd) kd), (lc, W.listOf (List.toArray vc) kc), (lp, W.listOf #[Value.int m.p0 c0, Value.int m.p1 c1, Value.int m.p2 c2] k3), (L + 1 + 1 + 1, o1), (L + 1 + 1, o2), (L + 1, o3), (83, tabObj #[rawInt 54, rawInt 4, Value.ref cD]), (76, tabObj #[rawInt 39, rawInt 4, Value.ref cI])])) → PreFi m C D xG L h₀ ([(lf, W.listOf (List.toArray vf) kf), (cI, oI), (cD, oD), (ld, W.listOf (List.toArray vd) kd), (lc, W.listOf (List.toArray vc) kc), (lp, W.listOf #[Value.int m.p0 c0, Value.int m.p1 c1, Value.int m.p2 c2] k3), (L + 1 + 1 + 1, o1), (L + 1 + 1, o2), (L + 1, o3), (83, tabObj #[rawInt 54, rawInt 4, Value.ref cD]), (76, tabObj #[rawInt 39, rawInt 4, Value.ref cI])]) ([(Str.ofString "figures", Value.ref lf), (Str.ofString "code", Value.ref lc), (Str.ofString "dual", Value.ref ld), (Str.ofString "width", Value.int m.wd tw), (Str.ofString "alphabet", Value.int m.al ti), (Str.ofString "bare", Value.str (typedF m.al 0 0 0) tb), (Str.ofString "one", Value.int (2 ^ m.wd.toNat) to), (Str.ofString "total", Value.int 0 tt)])
noncomputable def PreF (m : Pm) (C D : List Int) : Addr → Heap → List (Addr × Obj) → List (Str × Value) → Prop := PreFi m C D (digs 2 (3 * C.length) (d2 6 C))
theorem seg7 (w : World) (m : Pm) (C D : List Int) (hm : m.Ok) (hC : CodeOk C) : Seg w 14 3 (PreE m C D) (PreF m C D) := by
  have hw1 := hm.wd.1
  have hw2 := hm.wd.2
  unfold PreE PreF
  generalize hG : digs 2 (3 * C.length) (d2 6 C) = G at *
  w_top off; intro p loose mean mg mb dp un gd outer A₀ base h₀ L' fa ccd s h tk led pl u B X T hdp hun h83 F N hpre; revert X; k_fill; intro X; dsimp only [in179, List.drop, List.take]
  obtain ⟨lf, vf, kf, lp, lc, ld, vc, vd, kc, kd, ti, tw, c0, c1, c2, k3, o1, o2, o3, v1, v2, cI, oI, cD, oD, wI, xI, wD, xD, hIf, hIc, hId, e1, e2, e3, x3', x4', x3, x4, hap⟩ := hpre
  have hap0 := hap; (repeat (obtain ⟨zz, hap⟩ := hap; dsimp only at zz)); (try clear hap)
  (try dsimp only); (try k_fold); refine wp_gen ?_; intro Qz hQz
  generalize hsF : W.listOf (List.toArray vf) kf = oFl at N; generalize hsD : W.listOf (List.toArray vd) kd = oDl at N; generalize hsC : W.listOf (List.toArray vc) kc = oCl at N; generalize hsP : W.listOf #[Value.int m.p0 c0, Value.int m.p1 c1, Value.int m.p2 c2] k3 = oPl at N; generalize hs8 : tabObj #[rawInt 54, rawInt 4, Value.ref cD] = o83 at N; generalize hs7 : tabObj #[rawInt 39, rawInt 4, Value.ref cI] = o76 at N
  (k_with "@call ref" => (fail_if_success (k_extra "Sg7 off"));  ((with_reducible show wpAny _ _ (call (Value.ref 162) _) _ _ _); (refine' Spec.use (typed_spec w _ 0 0 0 m.al _ _ _ _ _ (by decide) (by decide) (by decide) hm.al) ?k1 ?k2 ?k3 ?k4 ?k5 ?kK ?kd ?ku (News.get (by k_asm) (by k_mem)) ?_); walk_at "my prem"; walk_at "my flat back"))
  k_steps
  skip
  (try subst hQz); (try subst hQz); exact mid_next2 (by assumption) (by assumption) (by repeat' first | exact trivial | refine ⟨rfl, ?_⟩) (by repeat' first | exact trivial | refine ⟨by first | k_mem | ((first | rw [hsF] | rw [hsD] | rw [hsC] | rw [hsP] | rw [hs8] | rw [hs7]); k_mem), ?_⟩) (⟨_, _, _, _, _, _, _, _, _, _, _, _, _, _, _, _, _, _, _, _, _, _, _, _, _, _, _, _, _, _, _, _, hIf, hIc, hId, by with_reducible assumption, by with_reducible assumption, by with_reducible assumption, x3', x4', x3, x4, hap0⟩)
theorem off_Sg7 : True := by
  (k_with "Sg7 off" => skip)
  exact True.intro

end
section --Rw

theorem ints_get3 {ws : List Value} {a b c : Int} (h : IntsAre ws [a, b, c]) : ∃ t0 t1 t2, ws = [.int a t0, .int b t1, .int c t2] := ints_three h
theorem take3 {G : List Int} {k : Nat} (h : 3 * k + 3 ≤ G.length) : (G.drop (3 * k)).take 3 = [G.getD (3 * k) 0, G.getD (3 * k + 1) 0, G.getD (3 * k + 2) 0] := by
  have h0 : 3 * k < G.length := by (first | lia | omega)
  have h1 : 3 * k + 1 < G.length := by (first | lia | omega)
  have h2 : 3 * k + 2 < G.length := by (first | lia | omega)
  rw [List.drop_eq_getElem_cons h0, List.drop_eq_getElem_cons h1, List.drop_eq_getElem_cons h2]
  show [G[3 * k], G[3 * k + 1], G[3 * k + 2]] = _
  rw [List.getD_eq_getElem?_getD, List.getD_eq_getElem?_getD, List.getD_eq_getElem?_getD, List.getElem?_eq_getElem h0, List.getElem?_eq_getElem h1, List.getElem?_eq_getElem h2]
  rfl
section
variable {prog : Program} {w : World} {A : Around} {E : Value → Shared → Prop} {s : Shared} {h₀ : Heap} {L l : Addr} {m : Str → Option Value} {news : List (Addr × Obj)} {value slice : PySem.Expr} {vs : List Value} {ns : List Int} {k : Nat} {t u : Tok} {ops : List Value} {Q : Value → Shared → Prop}
theorem row_slice (F : Fr h₀ L s.heap m) (N : News h₀ L s.heap news) (hl : s.heap.IsList l vs.toArray) (hi : IntsAre vs ns) {r0 r1 r2 : Int} (hk : 3 * k + 3 ≤ ns.length) (hz : ns.length ≤ 48) (q0 : ns.getD (3 * k) 0 = r0) (q1 : ns.getD (3 * k + 1) 0 = r1) (q2 : ns.getD (3 * k + 2) 0 = r2)
    (h : ∀ D h' t0 t1 t2, Fr h₀ L h' m → News h₀ L h' ((D, W.listOf #[.int r0 t0, .int r1 t1, .int r2 t2] 0) :: news) → (∀ p ∈ news, p.1 < D) → Q (.ref D) { s with heap := h' })
    (hs : subscripted slice false (.ref l) (.ref s.heap.objs.size) = operate [.ref s.heap.objs.size, .ref l] (getItem (.ref l) (.ref s.heap.objs.size)) := by with_unfolding_all rfl) (ht : ∀ r, letTemporaryGo value (.ref l) r = pure () := by intro _; with_unfolding_all rfl) :
    wpAny (model prog w) A (subscriptTail value slice (.ref l) (.ref s.heap.objs.size)) Q E { s with heap := s.heap.push { cls := .type "slice", data := .fields #[.int (3 * (0 + (k : Int))) t, .int (3 * (0 + (k : Int)) + 3) u, .none] } } := by
  subst q0 q1 q2
  have e : IntsAre (slicePick vs.toArray (some (3 * (0 + (k : Int)))) (some (3 * (0 + (k : Int)) + 3)) none).toList ((ns.drop (3 * k)).take 3) := by
    have := kmk_run hi (x := 3 * (0 + (k : Int))) (y := 3 * (0 + (k : Int)) + 3) (by (first | lia | omega)) (by (first | lia | omega))
    rw [show (3 * (0 + (k : Int))).toNat = 3 * k by (first | lia | omega), show min (3 * (0 + (k : Int)) + 3).toNat ns.length - 3 * k = 3 by (first | lia | omega)] at this
    exact this
  rw [take3 hk] at e
  refine kmk_slice F N hl (IsPart.int _ _) (IsPart.int _ _) (fun D h' F' N' l1 => ?_) hs ht (by rw [List.size_toArray, hi.length, sizeLine_eq]; (first | lia | omega))
  obtain ⟨t0, t1, t2, e⟩ := ints_three e
  have e2 : slicePick vs.toArray (some (3 * (0 + (k : Int)))) (some (3 * (0 + (k : Int)) + 3)) none = #[.int (ns.getD (3 * k) 0) t0, .int (ns.getD (3 * k + 1) 0) t1, .int (ns.getD (3 * k + 2) 0) t2] := Array.toList_inj.mp e
  rw [e2] at N'
  exact h D h' t0 t1 t2 F' N' l1
end
noncomputable def lee (r : Int) : Int := if 4 - r < r then 4 - r else r

end
section --Pa1

noncomputable def eR (u : Int) : Int := if u.fmod 4 = 0 then 1 else if u.fmod 4 = 2 then -1 else 0
noncomputable def leN (r : Int) : Nat := (lee (r.fmod 4)).toNat
noncomputable def cK (k n : Nat) : Int := if n = k then 1 else 0
theorem pw (X : Int) {n : Nat} (h : n ≤ 2) : X ^ n = cK 0 n + cK 1 n * X + cK 2 n * (X * X) := by
  match n, h with
  | 0, _ => simp [cK]
  | 1, _ => simp [cK, Int.pow_succ]
  | 2, _ => simp [cK, Int.pow_succ]
theorem qw (X : Int) {l : Nat} (h : l ≤ 2) : (1 - X) ^ l * (1 + X) ^ (2 - l) = 1 + (2 - 2 * (l : Int)) * X + (1 - 2 * cK 1 l) * (X * X) := by
  match l, h with
  | 0, _ => show (1 - X) ^ 0 * (1 + X) ^ 2 = 1 + (2 - 2 * ((0 : Nat) : Int)) * X + (1 - 2 * 0) * (X * X); grind
  | 1, _ => show (1 - X) ^ 1 * (1 + X) ^ 1 = 1 + (2 - 2 * ((1 : Nat) : Int)) * X + (1 - 2 * 1) * (X * X); grind
  | 2, _ => show (1 - X) ^ 2 * (1 + X) ^ 0 = 1 + (2 - 2 * ((2 : Nat) : Int)) * X + (1 - 2 * 0) * (X * X); grind
theorem le2 : ∀ p : Fin 4, leN (0 - (p.val : Int)) ≤ 2 ∧ leN (1 - (p.val : Int)) ≤ 2 ∧ leN (2 - (p.val : Int)) ≤ 2 ∧ leN (3 - (p.val : Int)) ≤ 2 ∧ leN (p.val : Int) ≤ 2 := by decide +kernel
noncomputable def cS (k : Nat) (r p u : Fin 4) : Int := eR ((u.val : Int) + r.val * 0) * cK k (leN (0 - p.val)) + eR ((u.val : Int) + r.val * 1) * cK k (leN (1 - p.val)) + eR ((u.val : Int) + r.val * 2) * cK k (leN (2 - p.val)) + eR ((u.val : Int) + r.val * 3) * cK k (leN (3 - p.val))
theorem cS_e : ∀ r p u : Fin 4, cS 0 r p u = eR ((u.val : Int) + r.val * p.val) ∧ cS 1 r p u = eR ((u.val : Int) + r.val * p.val) * (2 - 2 * ((leN r.val : Nat) : Int)) ∧ cS 2 r p u = eR ((u.val : Int) + r.val * p.val) * (1 - 2 * cK 1 (leN r.val)) := by decide +kernel
theorem place_f (X : Int) : ∀ r p u : Fin 4,
    eR ((u.val : Int) + r.val * 0) * X ^ leN (0 - p.val) + eR ((u.val : Int) + r.val * 1) * X ^ leN (1 - p.val) + eR ((u.val : Int) + r.val * 2) * X ^ leN (2 - p.val) + eR ((u.val : Int) + r.val * 3) * X ^ leN (3 - p.val)
      = eR ((u.val : Int) + r.val * p.val) * ((1 - X) ^ (leN r.val) * (1 + X) ^ (2 - leN r.val)) := by
  intro r p u
  obtain ⟨c0, c1, c2⟩ := cS_e r p u
  obtain ⟨l0, l1, l2, l3, -⟩ := le2 p
  have key : ∀ E a b : Int, E * (1 + a * X + b * (X * X)) = E + E * a * X + E * b * (X * X) := fun E a b => by grind
  rw [pw X l0, pw X l1, pw X l2, pw X l3, qw X (le2 r).2.2.2.2, key, ← c1, ← c2, ← c0]
  unfold cS
  generalize eR ((u.val : Int) + r.val * 0) = e0
  generalize eR ((u.val : Int) + r.val * 1) = e1
  generalize eR ((u.val : Int) + r.val * 2) = e2
  generalize eR ((u.val : Int) + r.val * 3) = e3
  grind

end
section --Pa2

theorem eR_add (u a : Int) : eR (u.fmod 4 + a) = eR (u + a) := by
  unfold eR
  have : (u.fmod 4 + a).fmod 4 = (u + a).fmod 4 := by
    rw [Int.fmod_eq_emod_of_nonneg _ (by decide), Int.fmod_eq_emod_of_nonneg _ (by decide), Int.fmod_eq_emod_of_nonneg _ (by decide)]
    (first | lia | omega)
  rw [this]
noncomputable def s4 (f : Int → Int) : Int := f 0 + f 1 + f 2 + f 3
noncomputable def phi (X r : Int) : Int := (1 - X) ^ (leN r) * (1 + X) ^ (2 - leN r)
theorem place (X r p u : Int) (hr : 0 ≤ r ∧ r < 4) (hp : 0 ≤ p ∧ p < 4) : s4 (fun z => eR (u + r * z) * X ^ leN (z - p)) = eR (u + r * p) * phi X r := by
  have hu : 0 ≤ u.fmod 4 ∧ u.fmod 4 < 4 := by
    rw [Int.fmod_eq_emod_of_nonneg _ (by decide)]; (first | lia | omega)
  have h4 : ∀ x : Int, 0 ≤ x ∧ x < 4 → ∃ n : Fin 4, x = (n.val : Int) := fun r h => ⟨⟨r.toNat, by (first | lia | omega)⟩, by show r = (r.toNat : Int); (first | lia | omega)⟩
  obtain ⟨a, ea⟩ := h4 _ hr
  obtain ⟨b, eb⟩ := h4 _ hp
  obtain ⟨c, ec⟩ := h4 _ hu
  have h := place_f X a b c
  rw [← ea, ← eb, ← ec] at h
  simp only [eR_add] at h
  exact h
theorem s4_mul (f : Int → Int) (c : Int) : s4 (fun z => f z * c) = s4 f * c := by
  unfold s4; grind
theorem s4_congr {f g : Int → Int} (h : ∀ z, f z = g z) : s4 f = s4 g := by
  have : f = g := funext h
  rw [this]
theorem tri (X r0 r1 r2 p0 p1 p2 : Int) (h0 : 0 ≤ r0 ∧ r0 < 4) (h1 : 0 ≤ r1 ∧ r1 < 4) (h2 : 0 ≤ r2 ∧ r2 < 4) (q0 : 0 ≤ p0 ∧ p0 < 4) (q1 : 0 ≤ p1 ∧ p1 < 4) (q2 : 0 ≤ p2 ∧ p2 < 4) :
    s4 (fun z2 => s4 fun z1 => s4 fun z0 => eR (r2 * z2 + r1 * z1 + r0 * z0) * X ^ leN (z0 - p0) * X ^ leN (z1 - p1) * X ^ leN (z2 - p2)) = eR (r2 * p2 + r1 * p1 + r0 * p0) * phi X r0 * phi X r1 * phi X r2 := by
  have e0 : ∀ z2 z1, (s4 fun z0 => eR (r2 * z2 + r1 * z1 + r0 * z0) * X ^ leN (z0 - p0) * X ^ leN (z1 - p1) * X ^ leN (z2 - p2)) = eR (r2 * z2 + r0 * p0 + r1 * z1) * X ^ leN (z1 - p1) * (phi X r0 * X ^ leN (z2 - p2)) := fun z2 z1 => by
    rw [s4_mul (fun z0 => eR (r2 * z2 + r1 * z1 + r0 * z0) * X ^ leN (z0 - p0) * X ^ leN (z1 - p1)), s4_mul (fun z0 => eR (r2 * z2 + r1 * z1 + r0 * z0) * X ^ leN (z0 - p0)), place X r0 p0 _ h0 q0, show r2 * z2 + r1 * z1 + r0 * p0 = r2 * z2 + r0 * p0 + r1 * z1 by (first | lia | omega)]
    grind
  have e1 : ∀ z2, (s4 fun z1 => s4 fun z0 => eR (r2 * z2 + r1 * z1 + r0 * z0) * X ^ leN (z0 - p0) * X ^ leN (z1 - p1) * X ^ leN (z2 - p2)) = eR (r0 * p0 + r1 * p1 + r2 * z2) * X ^ leN (z2 - p2) * (phi X r0 * phi X r1) := fun z2 => by
    rw [s4_congr (e0 z2), s4_mul (fun z1 => eR (r2 * z2 + r0 * p0 + r1 * z1) * X ^ leN (z1 - p1)), place X r1 p1 _ h1 q1, show r2 * z2 + r0 * p0 + r1 * p1 = r0 * p0 + r1 * p1 + r2 * z2 by (first | lia | omega)]
    grind
  rw [s4_congr e1, s4_mul (fun z2 => eR (r0 * p0 + r1 * p1 + r2 * z2) * X ^ leN (z2 - p2)), place X r2 p2 _ h2 q2, show r0 * p0 + r1 * p1 + r2 * p2 = r2 * p2 + r1 * p1 + r0 * p0 by (first | lia | omega)]
  grind

end
section --Sk1

inductive PreGi (m : Pm) (C D G : List Int) (T : Int) (xX : Int) (L : Addr) (h₀ : Heap) : List (Addr × Obj) → List (Str × Value) → Prop
  | mk : ∀ lf vf kf lp lc ld vc vd kc kd ti tw tb to tt c0 c1 c2 k3 o1 o2 o3 v1 v2 cI oI cD oD wI xI wD xD, (IntsAre vf G) → (IntsAre vc C) → (IntsAre vd D) → (o1.data = .cell v1) → (o2.data = .cell v2) → (o3.data = .cell (some (Value.ref lp))) → (oI.data = .fields wI) → (wI[1]? = some (.str q81 xI)) → (oD.data = .fields wD) → (wD[1]? = some (.str q88 xD)) → (Apart ([(lf, W.listOf (List.toArray vf) kf), (cI, oI), (cD, oD), (ld, W.listOf (List.toArray vd) kd), (lc, W.listOf (List.toArray vc) kc), (lp, W.listOf #[Value.int m.p0 c0, Value.int m.p1 c1, Value.int m.p2 c2] k3), (L + 1 + 1 + 1, o1), (L + 1 + 1, o2), (L + 1, o3), (83, tabObj #[rawInt 54, rawInt 4, Value.ref cD]), (76, tabObj #[rawInt 39, rawInt 4, Value.ref cI])])) → PreGi m C D G T xX L h₀ ([(lf, W.listOf (List.toArray vf) kf), (cI, oI), (cD, oD), (ld, W.listOf (List.toArray vd) kd), (lc, W.listOf (List.toArray vc) kc), (lp, W.listOf #[Value.int m.p0 c0, Value.int m.p1 c1, Value.int m.p2 c2] k3), (L + 1 + 1 + 1, o1), (L + 1 + 1, o2), (L + 1, o3), (83, tabObj #[rawInt 54, rawInt 4, Value.ref cD]), (76, tabObj #[rawInt 39, rawInt 4, Value.ref cI])]) ([(Str.ofString "figures", Value.ref lf), (Str.ofString "code", Value.ref lc), (Str.ofString "dual", Value.ref ld), (Str.ofString "width", Value.int m.wd tw), (Str.ofString "alphabet", Value.int m.al ti), (Str.ofString "bare", Value.str (typedF m.al 0 0 0) tb), (Str.ofString "one", Value.int xX to), (Str.ofString "total", Value.int T tt)])
noncomputable def PreG (m : Pm) (C D G : List Int) (T : Int) : Addr → Heap → List (Addr × Obj) → List (Str × Value) → Prop := PreGi m C D G T (2 ^ m.wd.toNat)
inductive PreT0 (m : Pm) (C D G : List Int) (T : Int) (I : Addr) (oIt : Obj) (k : Nat) (L : Addr) (h₀ : Heap) : List (Addr × Obj) → List (Str × Value) → Prop
  | mk : ∀ lf vf kf lp lc ld vc vd kc kd ti tw tb to tt c0 c1 c2 k3 o1 o2 o3 v1 v2 cI oI cD oD wI xI wD xD tk, (IntsAre vf G) → (IntsAre vc C) → (IntsAre vd D) → (o1.data = .cell v1) → (o2.data = .cell v2) → (o3.data = .cell (some (Value.ref lp))) → (oI.data = .fields wI) → (wI[1]? = some (.str q81 xI)) → (oD.data = .fields wD) → (wD[1]? = some (.str q88 xD)) → (Apart ([(I, oIt), (lf, W.listOf (List.toArray vf) kf), (cI, oI), (cD, oD), (ld, W.listOf (List.toArray vd) kd), (lc, W.listOf (List.toArray vc) kc), (lp, W.listOf #[Value.int m.p0 c0, Value.int m.p1 c1, Value.int m.p2 c2] k3), (L + 1 + 1 + 1, o1), (L + 1 + 1, o2), (L + 1, o3), (83, tabObj #[rawInt 54, rawInt 4, Value.ref cD]), (76, tabObj #[rawInt 39, rawInt 4, Value.ref cI])])) → PreT0 m C D G T I oIt k L h₀ ([(I, oIt), (lf, W.listOf (List.toArray vf) kf), (cI, oI), (cD, oD), (ld, W.listOf (List.toArray vd) kd), (lc, W.listOf (List.toArray vc) kc), (lp, W.listOf #[Value.int m.p0 c0, Value.int m.p1 c1, Value.int m.p2 c2] k3), (L + 1 + 1 + 1, o1), (L + 1 + 1, o2), (L + 1, o3), (83, tabObj #[rawInt 54, rawInt 4, Value.ref cD]), (76, tabObj #[rawInt 39, rawInt 4, Value.ref cI])]) ([(Str.ofString "k", Value.int (0 + (k : Int)) tk), (Str.ofString "figures", Value.ref lf), (Str.ofString "code", Value.ref lc), (Str.ofString "dual", Value.ref ld), (Str.ofString "width", Value.int m.wd tw), (Str.ofString "alphabet", Value.int m.al ti), (Str.ofString "bare", Value.str (typedF m.al 0 0 0) tb), (Str.ofString "one", Value.int (2 ^ m.wd.toNat) to), (Str.ofString "total", Value.int T tt)])
inductive PreT1i (m : Pm) (C D G : List Int) (T : Int) (I : Addr) (oIt : Obj) (k : Nat) (r0 r1 r2 : Int) (xB : Str) (xY : Str) (xP : Int) (L : Addr) (h₀ : Heap) : List (Addr × Obj) → List (Str × Value) → Prop
  | mk : ∀ lf vf kf lp lc ld vc vd kc kd ti tw tb to tt c0 c1 c2 k3 o1 o2 o3 v1 cI oI cD oD wI xI wD xD tk lr a0 a1 a2 kr tp ty, (IntsAre vf G) → (IntsAre vc C) → (IntsAre vd D) → (o1.data = .cell v1) → (o2.data = .cell (some (Value.ref lr))) → (o3.data = .cell (some (Value.ref lp))) → (oI.data = .fields wI) → (wI[1]? = some (.str q81 xI)) → (oD.data = .fields wD) → (wD[1]? = some (.str q88 xD)) → (Apart ([(lr, W.listOf #[Value.int r0 a0, Value.int r1 a1, Value.int r2 a2] kr), (I, oIt), (lf, W.listOf (List.toArray vf) kf), (cI, oI), (cD, oD), (ld, W.listOf (List.toArray vd) kd), (lc, W.listOf (List.toArray vc) kc), (lp, W.listOf #[Value.int m.p0 c0, Value.int m.p1 c1, Value.int m.p2 c2] k3), (L + 1 + 1 + 1, o1), (L + 1 + 1, o2), (L + 1, o3), (83, tabObj #[rawInt 54, rawInt 4, Value.ref cD]), (76, tabObj #[rawInt 39, rawInt 4, Value.ref cI])])) → PreT1i m C D G T I oIt k r0 r1 r2 xB xY xP L h₀ ([(lr, W.listOf #[Value.int r0 a0, Value.int r1 a1, Value.int r2 a2] kr), (I, oIt), (lf, W.listOf (List.toArray vf) kf), (cI, oI), (cD, oD), (ld, W.listOf (List.toArray vd) kd), (lc, W.listOf (List.toArray vc) kc), (lp, W.listOf #[Value.int m.p0 c0, Value.int m.p1 c1, Value.int m.p2 c2] k3), (L + 1 + 1 + 1, o1), (L + 1 + 1, o2), (L + 1, o3), (83, tabObj #[rawInt 54, rawInt 4, Value.ref cD]), (76, tabObj #[rawInt 39, rawInt 4, Value.ref cI])]) ([(Str.ofString "k", Value.int (0 + (k : Int)) tk), (Str.ofString "price", Value.int xP tp), (Str.ofString "typed", Value.str xY ty), (Str.ofString "figures", Value.ref lf), (Str.ofString "code", Value.ref lc), (Str.ofString "dual", Value.ref ld), (Str.ofString "width", Value.int m.wd tw), (Str.ofString "alphabet", Value.int m.al ti), (Str.ofString "bare", Value.str xB tb), (Str.ofString "one", Value.int (2 ^ m.wd.toNat) to), (Str.ofString "total", Value.int T tt)])
noncomputable def PreT1 (m : Pm) (C D G : List Int) (T : Int) (I : Addr) (oIt : Obj) (k : Nat) (r0 r1 r2 : Int) : Addr → Heap → List (Addr × Obj) → List (Str × Value) → Prop := PreT1i m C D G T I oIt k r0 r1 r2 (typedF m.al 0 0 0) (typedF m.al r0 r1 r2) (lee r0 + (lee r1 + (lee r2 + 0)))
theorem fig4 {G : List Int} {i : Nat} (hr : ∀ x ∈ G, 0 ≤ x ∧ x < 4) (h : i < G.length) : 0 ≤ G.getD i 0 ∧ G.getD i 0 < 4 := by
  rw [List.getD_eq_getElem?_getD, List.getElem?_eq_getElem h]
  exact hr _ (List.getElem_mem h)
theorem reg_Sk1_1 : True := by
  (k_with "@subscriptTail Name Slice ref ref" => ((fail_if_success (k_extra "Sk1 off")); ((k_here; k_dflt (refine' row_slice (s := ⟨_, _, _, _, _⟩) ?Fx0 ?Nx0 ?lx0 ?ix0 ?hkx0 ?hzx0 ?q0x0 ?q1x0 ?q2x0 ?_; (case Fx0 => k_asm); (case Nx0 => k_asm); (case lx0 => kmk_list); (case ix0 => with_reducible assumption); (case hkx0 => with_reducible assumption); (case hzx0 => with_reducible assumption); (case q0x0 => with_reducible assumption); (case q1x0 => with_reducible assumption); (case q2x0 => with_reducible assumption)); intro D'Q h'Q t0'Q t1'Q t2'Q F'Q N'Q l1Q; (try k_lt l1Q); (try k_sweep)))))
  (k_with "@subscriptTail Name Slice ref ref" => ((fail_if_success (k_extra "Sk1 off")); ((k_here; k_dflt (refine' row_slice (s := ⟨_, _, _, _, _⟩) ?Fx1 ?Nx1 ?lx1 ?ix1 ?hkx1 ?hzx1 ?q0x1 ?q1x1 ?q2x1 ?_; (case Fx1 => k_asm); (case Nx1 => k_asm); (case lx1 => kmk_list); (case ix1 => with_reducible assumption); (case hkx1 => with_reducible assumption); (case hzx1 => with_reducible assumption); (case q0x1 => with_reducible assumption); (case q1x1 => with_reducible assumption); (case q2x1 => with_reducible assumption)); intro D'Q h'Q t0'Q t1'Q t2'Q F'Q N'Q l1Q; (try k_lt l1Q); (try k_sweep)))))
  (k_with "@subscriptTail Name Slice ref ref" => ((fail_if_success (k_extra "Sk1 off")); ((k_here; k_dflt (refine' row_slice (s := ⟨_, _, _, _, _⟩) ?Fx2 ?Nx2 ?lx2 ?ix2 ?hkx2 ?hzx2 ?q0x2 ?q1x2 ?q2x2 ?_; (case Fx2 => k_asm); (case Nx2 => k_asm); (case lx2 => kmk_list); (case ix2 => with_reducible assumption); (case hkx2 => with_reducible assumption); (case hzx2 => with_reducible assumption); (case q0x2 => with_reducible assumption); (case q1x2 => with_reducible assumption); (case q2x2 => with_reducible assumption)); intro D'Q h'Q t0'Q t1'Q t2'Q F'Q N'Q l1Q; (try k_lt l1Q); (try k_sweep)))))
  (k_with "@subscriptTail Name Slice ref ref" => ((fail_if_success (k_extra "Sk1 off")); ((k_here; k_dflt (refine' row_slice (s := ⟨_, _, _, _, _⟩) ?Fx3 ?Nx3 ?lx3 ?ix3 ?hkx3 ?hzx3 ?q0x3 ?q1x3 ?q2x3 ?_; (case Fx3 => k_asm); (case Nx3 => k_asm); (case lx3 => kmk_list); (case ix3 => with_reducible assumption); (case hkx3 => with_reducible assumption); (case hzx3 => with_reducible assumption); (case q0x3 => with_reducible assumption); (case q1x3 => with_reducible assumption); (case q2x3 => with_reducible assumption)); intro D'Q h'Q t0'Q t1'Q t2'Q F'Q N'Q l1Q; (try k_lt l1Q); (try k_sweep)))))
  (k_with "@subscriptTail Name Slice ref ref" => ((fail_if_success (k_extra "Sk1 off")); ((k_here; k_dflt (refine' row_slice (s := ⟨_, _, _, _, _⟩) ?Fx4 ?Nx4 ?lx4 ?ix4 ?hkx4 ?hzx4 ?q0x4 ?q1x4 ?q2x4 ?_; (case Fx4 => k_asm); (case Nx4 => k_asm); (case lx4 => kmk_list); (case ix4 => with_reducible assumption); (case hkx4 => with_reducible assumption); (case hzx4 => with_reducible assumption); (case q0x4 => with_reducible assumption); (case q1x4 => with_reducible assumption); (case q2x4 => with_reducible assumption)); intro D'Q h'Q t0'Q t1'Q t2'Q F'Q N'Q l1Q; (try k_lt l1Q); (try k_sweep)))))
  exact True.intro
theorem sk1 (w : World) (m : Pm) (C D G : List Int) (T : Int) (I : Addr) (oIt : Obj) (k : Nat) (hm : m.Ok) (hk : 3 * k + 3 ≤ G.length) (hG : G.length ≤ 48) (hr : ∀ x ∈ G, 0 ≤ x ∧ x < 4) :
    SegS w ((inK w.params).1.take 3) (PreT0 m C D G T I oIt k) (PreT1 m C D G T I oIt k (G.getD (3 * k) 0) (G.getD (3 * k + 1) 0) (G.getD (3 * k + 2) 0)) := by
  have g0 : 0 ≤ G.getD (3 * k) 0 ∧ G.getD (3 * k) 0 < 4 := fig4 hr (by omega)
  have g1 : 0 ≤ G.getD (3 * k + 1) 0 ∧ G.getD (3 * k + 1) 0 < 4 := fig4 hr (by omega)
  have g2 : 0 ≤ G.getD (3 * k + 2) 0 ∧ G.getD (3 * k + 2) 0 < 4 := fig4 hr (by omega)
  w_top off; intro p loose mean mg mb dp un gd outer A₀ base h₀ L' fa ccd s h tk led pl u B X T hdp hun h83 F N hpre; revert X; k_fill; intro X; dsimp only [in179, List.drop, List.take]
  dsimp only [inK, List.take]
  obtain ⟨lf, vf, kf, lp, lc, ld, vc, vd, kc, kd, ti, tw, tb, to, tt, c0, c1, c2, k3, o1, o2, o3, v1, v2, cI, oI, cD, oD, wI, xI, wD, xD, tk, hIf, hIc, hId, e1, e2, e3, x3', x4', x3, x4, hap⟩ := hpre
  have hap0 := hap; (repeat (obtain ⟨zz, hap⟩ := hap; dsimp only at zz)); (try clear hap)
  (try dsimp only); (try k_fold); refine wp_gen ?_; intro Qz hQz
  generalize hsD : W.listOf (List.toArray vd) kd = oDl at N; generalize hsC : W.listOf (List.toArray vc) kc = oCl at N; generalize hsP : W.listOf #[Value.int m.p0 c0, Value.int m.p1 c1, Value.int m.p2 c2] k3 = oPl at N; generalize hs8 : tabObj #[rawInt 54, rawInt 4, Value.ref cD] = o83 at N; generalize hs7 : tabObj #[rawInt 39, rawInt 4, Value.ref cI] = o76 at N
  generalize hR0 : G.getD (3 * k) 0 = r0 at *
  generalize hR1 : G.getD (3 * k + 1) 0 = r1 at *
  generalize hR2 : G.getD (3 * k + 2) 0 = r2 at *
  (k_with "@call ref" => (fail_if_success (k_extra "Sk1 off"));  ((with_reducible show wpAny _ _ (call (Value.ref 162) _) _ _ _); (refine' Spec.use (typed_spec w _ r0 r1 r2 m.al _ _ _ _ _ g0 g1 g2 hm.al) ?k1 ?k2 ?k3 ?k4 ?k5 ?kK ?kd ?ku (News.get (by k_asm) (by k_mem)) ?_); walk_at "my prem"; walk_at "my flat back"))
  k_steps
  skip
  (try subst hQz); (try subst hQz); exact mid_next2 (by assumption) (by assumption) (by repeat' first | exact trivial | refine ⟨rfl, ?_⟩) (by repeat' first | exact trivial | refine ⟨by first | k_mem | ((first | rw [hsD] | rw [hsC] | rw [hsP] | rw [hs8] | rw [hs7]); k_mem), ?_⟩) (⟨_, _, _, _, _, _, _, _, _, _, _, _, _, _, _, _, _, _, _, _, _, _, _, _, _, _, _, _, _, _, _, _, _, _, _, _, _, _, _, hIf, hIc, hId, e1, by with_reducible assumption, e3, x3', x4', x3, x4, ⟨(by walk_at "my off lt"), (by exact hap0)⟩⟩)
theorem off_Sk1 : True := by
  (k_with "Sk1 off" => skip)
  exact True.intro

end
section --Sk2

theorem reg_Sk2_1 : True := by
  (k_with "@eval ListComp" => ((fail_if_success (k_extra "Sk2 off")); ((k_here; k_dflt (refine ListComp_S (F₀ := by k_asm) (by rfl) (by decide) (by rfl) (by decide) (by rfl) ?_)))))
  exact True.intro
theorem mem_all {l : List Nat} {p : Nat → Bool} (h : l.all p = true) {c : Nat} (hc : c ∈ l) : p c = true := List.all_eq_true.mp h c hc
theorem one_kay {al r : Int} (hr : 0 ≤ r ∧ r < 4) : One ⟨#[(kayF al r).toNat]⟩ ⟨#[107]⟩ := by
  have h0 := fmod_lo al (n := 13) (by decide)
  have h1 := fmod_hi al (n := 13) (by decide)
  refine one_of (mem_all one_k ?_)
  rw [List.mem_append, List.mem_map]
  rcases of4 hr with rfl | rfl | rfl | rfl
  · exact .inl (by first | decide | (show _ ∈ [_, _, _]; simp [kayF, theF, omeF]))
  · exact .inl (by first | decide | (show _ ∈ [_, _, _]; simp [kayF, theF, omeF]))
  · refine .inr ⟨(al.fmod 13).toNat, List.mem_range.mpr (nat_lt h0 h1), ?_⟩
    exact (nat_lin 119818 52 h0).symm
  · exact .inl (by first | decide | (show _ ∈ [_, _, _]; simp [kayF, theF, omeF]))
theorem one_the {al r : Int} (hr : 0 ≤ r ∧ r < 4) : One ⟨#[(theF al r).toNat]⟩ ⟨#[952]⟩ := by
  have h0 := fmod_lo al (n := 5) (by decide)
  have h1 := fmod_hi al (n := 5) (by decide)
  refine one_of (mem_all one_t ?_)
  rw [List.mem_append, List.mem_map]
  rcases of4 hr with rfl | rfl | rfl | rfl
  · exact .inl (by first | decide | (show _ ∈ [_, _, _]; simp [kayF, theF, omeF]))
  · exact .inl (by first | decide | (show _ ∈ [_, _, _]; simp [kayF, theF, omeF]))
  · refine .inr ⟨(al.fmod 5).toNat, List.mem_range.mpr (nat_lt h0 h1), ?_⟩
    exact (nat_lin 120495 58 h0).symm
  · exact .inl (by first | decide | (show _ ∈ [_, _, _]; simp [kayF, theF, omeF]))
theorem one_ome {al r : Int} (hr : 0 ≤ r ∧ r < 4) : One ⟨#[(omeF al r).toNat]⟩ ⟨#[969]⟩ := by
  have h0 := fmod_lo al (n := 5) (by decide)
  have h1 := fmod_hi al (n := 5) (by decide)
  refine one_of (mem_all one_o ?_)
  rw [List.mem_append, List.mem_map]
  rcases of4 hr with rfl | rfl | rfl | rfl
  · exact .inl (by first | decide | (show _ ∈ [_, _, _]; simp [kayF, theF, omeF]))
  · exact .inl (by first | decide | (show _ ∈ [_, _, _]; simp [kayF, theF, omeF]))
  · refine .inr ⟨(al.fmod 5).toNat, List.mem_range.mpr (nat_lt h0 h1), ?_⟩
    exact (nat_lin 120512 58 h0).symm
  · exact .inl (by first | decide | (show _ ∈ [_, _, _]; simp [kayF, theF, omeF]))
theorem sk2 (w : World) (m : Pm) (C D G : List Int) (T : Int) (I : Addr) (oIt : Obj) (k : Nat) (r0 r1 r2 : Int) (hm : m.Ok) (g0 : 0 ≤ r0 ∧ r0 < 4) (g1 : 0 ≤ r1 ∧ r1 < 4) (g2 : 0 ≤ r2 ∧ r2 < 4) :
    SegS w (((inK w.params).1.drop 3).take 1) (PreT1 m C D G T I oIt k r0 r1 r2) (PreT1 m C D G T I oIt k r0 r1 r2) := by
  have z0 := one_kay (al := m.al) g0
  have z1 := one_the (al := m.al) g1
  have z2 := one_ome (al := m.al) g2
  have tb0 : typedF m.al 0 0 0 = ⟨#[107, 952, 969]⟩ := rfl
  have ty0 : typedF m.al r0 r1 r2 = ⟨#[(kayF m.al r0).toNat, (theF m.al r1).toNat, (omeF m.al r2).toNat]⟩ := rfl
  unfold PreT1
  rw [ty0, tb0]
  generalize (kayF m.al r0).toNat = ck at *
  generalize (theF m.al r1).toNat = ct at *
  generalize (omeF m.al r2).toNat = co at *
  w_top off; intro p loose mean mg mb dp un gd outer A₀ base h₀ L' fa ccd s h tk led pl u B X T hdp hun h83 F N hpre; revert X; k_fill; intro X; dsimp only [in179, List.drop, List.take]
  dsimp only [inK, List.take, List.drop]
  obtain ⟨lf, vf, kf, lp, lc, ld, vc, vd, kc, kd, ti, tw, tb, to, tt, c0, c1, c2, k3, o1, o2, o3, v1, cI, oI, cD, oD, wI, xI, wD, xD, tk, lr, a0, a1, a2, kr, tp, ty, hIf, hIc, hId, e1, e2, e3, x3', x4', x3, x4, hap⟩ := hpre
  have hap0 := hap; (repeat (obtain ⟨zz, hap⟩ := hap; dsimp only at zz)); (try clear hap)
  (try dsimp only); (try k_fold); refine wp_gen ?_; intro Qz hQz
  generalize hsF : W.listOf (List.toArray vf) kf = oFl at N; generalize hsD : W.listOf (List.toArray vd) kd = oDl at N; generalize hsC : W.listOf (List.toArray vc) kc = oCl at N; generalize hsP : W.listOf #[Value.int m.p0 c0, Value.int m.p1 c1, Value.int m.p2 c2] k3 = oPl at N; generalize hs8 : tabObj #[rawInt 54, rawInt 4, Value.ref cD] = o83 at N; generalize hs7 : tabObj #[rawInt 39, rawInt 4, Value.ref cI] = o76 at N
  (k_with "@SrcS" => (fail_if_success (k_extra "Sk2 off"));  (refine SrcS.intro (by rfl) (by k_asm) (by k_asm) ?_; intro g'))
  (k_with "@call ref" => (fail_if_success (k_extra "Sk2 off"));  ((with_reducible show wpAny _ _ (call (Value.ref 60) _) _ _ _); first
    | (refine' Spec.use (map_spec w _ _ _ z0) ?k1 ?k2 ?k3 ?k4 ?k5 ?kK ?kd ?ku trivial ?_; walk_at "my prem"; walk_at "my flat back")
    | (refine' Spec.use (map_spec w _ _ _ z1) ?k1 ?k2 ?k3 ?k4 ?k5 ?kK ?kd ?ku trivial ?_; walk_at "my prem"; walk_at "my flat back")
    | (refine' Spec.use (map_spec w _ _ _ z2) ?k1 ?k2 ?k3 ?k4 ?k5 ?kK ?kd ?ku trivial ?_; walk_at "my prem"; walk_at "my flat back")))
  (k_with "@call builtin:str.join" => (fail_if_success (k_extra "Sk2 off"));  (refine join_list (News.isList (by k_asm) (by k_mem)) (ys := [⟨#[107]⟩, ⟨#[952]⟩, ⟨#[969]⟩]) (by repeat constructor) (by decide) ?_; intro t9 k9))
  k_steps
  (try subst hQz); (try subst hQz); exact mid_next2 (by assumption) (by assumption) (by repeat' first | exact trivial | refine ⟨rfl, ?_⟩) (by repeat' first | exact trivial | refine ⟨by first | k_mem | ((first | rw [hsF] | rw [hsD] | rw [hsC] | rw [hsP] | rw [hs8] | rw [hs7]); k_mem), ?_⟩) (⟨_, _, _, _, _, _, _, _, _, _, _, _, _, _, _, _, _, _, _, _, _, _, _, _, _, _, _, _, _, _, _, _, _, _, _, _, _, _, _, hIf, hIc, hId, e1, e2, e3, x3', x4', x3, x4, (by exact hap0)⟩)
theorem off_Sk2 : True := by
  (k_with "Sk2 off" => skip)
  exact True.intro

end
section --Sk3

inductive PreT2i (m : Pm) (C D G : List Int) (T : Int) (I : Addr) (oIt : Obj) (k : Nat) (r0 r1 r2 : Int) (xB : Str) (xY : Str) (xP : Int) (L : Addr) (h₀ : Heap) : List (Addr × Obj) → List (Str × Value) → Prop
  | mk : ∀ lf vf kf lp lc ld vc vd kc kd ti tw tb to tt c0 c1 c2 k3 o1 o2 o3 v1 cI oI cD oD wI xI wD xD tk lr a0 a1 a2 kr tm, (IntsAre vf G) → (IntsAre vc C) → (IntsAre vd D) → (o1.data = .cell v1) → (o2.data = .cell (some (Value.ref lr))) → (o3.data = .cell (some (Value.ref lp))) → (oI.data = .fields wI) → (wI[1]? = some (.str q81 xI)) → (oD.data = .fields wD) → (wD[1]? = some (.str q88 xD)) → (Apart ([(lr, W.listOf #[Value.int r0 a0, Value.int r1 a1, Value.int r2 a2] kr), (I, oIt), (lf, W.listOf (List.toArray vf) kf), (cI, oI), (cD, oD), (ld, W.listOf (List.toArray vd) kd), (lc, W.listOf (List.toArray vc) kc), (lp, W.listOf #[Value.int m.p0 c0, Value.int m.p1 c1, Value.int m.p2 c2] k3), (L + 1 + 1 + 1, o1), (L + 1 + 1, o2), (L + 1, o3), (83, tabObj #[rawInt 54, rawInt 4, Value.ref cD]), (76, tabObj #[rawInt 39, rawInt 4, Value.ref cI])])) → PreT2i m C D G T I oIt k r0 r1 r2 xB xY xP L h₀ ([(lr, W.listOf #[Value.int r0 a0, Value.int r1 a1, Value.int r2 a2] kr), (I, oIt), (lf, W.listOf (List.toArray vf) kf), (cI, oI), (cD, oD), (ld, W.listOf (List.toArray vd) kd), (lc, W.listOf (List.toArray vc) kc), (lp, W.listOf #[Value.int m.p0 c0, Value.int m.p1 c1, Value.int m.p2 c2] k3), (L + 1 + 1 + 1, o1), (L + 1 + 1, o2), (L + 1, o3), (83, tabObj #[rawInt 54, rawInt 4, Value.ref cD]), (76, tabObj #[rawInt 39, rawInt 4, Value.ref cI])]) ([(Str.ofString "k", Value.int (0 + (k : Int)) tk), (Str.ofString "moved", Value.int xP tm), (Str.ofString "figures", Value.ref lf), (Str.ofString "code", Value.ref lc), (Str.ofString "dual", Value.ref ld), (Str.ofString "width", Value.int m.wd tw), (Str.ofString "alphabet", Value.int m.al ti), (Str.ofString "bare", Value.str xB tb), (Str.ofString "one", Value.int (2 ^ m.wd.toNat) to), (Str.ofString "total", Value.int T tt)])
noncomputable def PreT2 (m : Pm) (C D G : List Int) (T : Int) (I : Addr) (oIt : Obj) (k : Nat) (r0 r1 r2 : Int) : Addr → Heap → List (Addr × Obj) → List (Str × Value) → Prop := PreT2i m C D G T I oIt k r0 r1 r2 (typedF m.al 0 0 0) (typedF m.al r0 r1 r2) (lee r0 + (lee r1 + (lee r2 + 0)))
theorem sk3 (w : World) (m : Pm) (C D G : List Int) (T : Int) (I : Addr) (oIt : Obj) (k : Nat) (r0 r1 r2 : Int) (hm : m.Ok) (g0 : 0 ≤ r0 ∧ r0 < 4) (g1 : 0 ≤ r1 ∧ r1 < 4) (g2 : 0 ≤ r2 ∧ r2 < 4) :
    SegS w (((inK w.params).1.drop 4).take 2) (PreT1 m C D G T I oIt k r0 r1 r2) (PreT2 m C D G T I oIt k r0 r1 r2) := by
  have tb0 : typedF m.al 0 0 0 = ⟨#[107, 952, 969]⟩ := rfl
  have ty0 : typedF m.al r0 r1 r2 = ⟨#[(kayF m.al r0).toNat, (theF m.al r1).toNat, (omeF m.al r2).toNat]⟩ := rfl
  have hll := fun mc => lev_law m.al r0 r1 r2 mc g0 g1 g2
  have hpr : priceF r0 r1 r2 = lee r0 + (lee r1 + (lee r2 + 0)) := rfl
  rw [hpr] at hll
  have hP : 0 ≤ lee r0 + (lee r1 + (lee r2 + 0)) ∧ lee r0 + (lee r1 + (lee r2 + 0)) ≤ 6 := by
    unfold lee; omega
  have hk3 := fmod_lo (0 + (k : Int)) (n := 3) (by decide)
  have hk3' := fmod_hi (0 + (k : Int)) (n := 3) (by decide)
  unfold PreT1 PreT2
  rw [ty0, tb0]
  generalize lee r0 + (lee r1 + (lee r2 + 0)) = P at *
  generalize (kayF m.al r0).toNat = ck at *
  generalize (theF m.al r1).toNat = ct at *
  generalize (omeF m.al r2).toNat = co at *
  w_top off; intro p loose mean mg mb dp un gd outer A₀ base h₀ L' fa ccd s h tk led pl u B X T hdp hun h83 F N hpre; revert X; k_fill; intro X; dsimp only [in179, List.drop, List.take]
  dsimp only [inK, List.take, List.drop]
  obtain ⟨lf, vf, kf, lp, lc, ld, vc, vd, kc, kd, ti, tw, tb, to, tt, c0, c1, c2, k3, o1, o2, o3, v1, cI, oI, cD, oD, wI, xI, wD, xD, tk, lr, a0, a1, a2, kr, tp, ty, hIf, hIc, hId, e1, e2, e3, x3', x4', x3, x4, hap⟩ := hpre
  have hap0 := hap; (repeat (obtain ⟨zz, hap⟩ := hap; dsimp only at zz)); (try clear hap)
  (try dsimp only); (try k_fold); refine wp_gen ?_; intro Qz hQz
  generalize hsF : W.listOf (List.toArray vf) kf = oFl at N; generalize hsD : W.listOf (List.toArray vd) kd = oDl at N; generalize hsC : W.listOf (List.toArray vc) kc = oCl at N; generalize hsP : W.listOf #[Value.int m.p0 c0, Value.int m.p1 c1, Value.int m.p2 c2] k3 = oPl at N; generalize hs8 : tabObj #[rawInt 54, rawInt 4, Value.ref cD] = o83 at N; generalize hs7 : tabObj #[rawInt 39, rawInt 4, Value.ref cI] = o76 at N
  (k_with "@call ref" => (fail_if_success (k_extra "Sk3 off"));  ((with_reducible show wpAny _ _ (call (Value.ref 131) _) _ _ _); refine' Spec.use (lev_spec w _ _ _ _ _ _ _ _ _ _ ?mc) ?k1 ?k2 ?k3 ?k4 ?k5 ?kK ?kd ?ku trivial ?_; walk_at "my prem"; (case mc => omega); intro r9 h9 tk9 F9 N9 g9; rw [hll _ (by omega)] at g9; obtain ⟨t9, e9⟩ := g9; subst e9; (try dsimp only); (try k_fold)))
  k_steps
  · exact absurd rfl (by assumption : P ≠ P)
  · (try subst hQz); (try subst hQz); exact mid_next2 (by assumption) (by assumption) (by repeat' first | exact trivial | refine ⟨rfl, ?_⟩) (by repeat' first | exact trivial | refine ⟨by first | k_mem | ((first | rw [hsF] | rw [hsD] | rw [hsC] | rw [hsP] | rw [hs8] | rw [hs7]); k_mem), ?_⟩) (⟨_, _, _, _, _, _, _, _, _, _, _, _, _, _, _, _, _, _, _, _, _, _, _, _, _, _, _, _, _, _, _, _, _, _, _, _, _, _, hIf, hIc, hId, e1, e2, e3, x3', x4', x3, x4, (by exact hap0)⟩)
theorem off_Sk3 : True := by
  (k_with "Sk3 off" => skip)
  exact True.intro

end
section --Sk4

inductive PreT3i (m : Pm) (C D G : List Int) (T : Int) (I : Addr) (oIt : Obj) (k : Nat) (r0 r1 r2 : Int) (xP : Int) (xU : Int) (xX : Int) (L : Addr) (h₀ : Heap) : List (Addr × Obj) → List (Str × Value) → Prop
  | mk : ∀ lf vf kf lp lc ld vc vd kc kd ti tw tb to tt c0 c1 c2 k3 o1 o2 o3 v1 cI oI cD oD wI xI wD xD tk lr a0 a1 a2 kr tm tu, (IntsAre vf G) → (IntsAre vc C) → (IntsAre vd D) → (o1.data = .cell v1) → (o2.data = .cell (some (Value.ref lr))) → (o3.data = .cell (some (Value.ref lp))) → (oI.data = .fields wI) → (wI[1]? = some (.str q81 xI)) → (oD.data = .fields wD) → (wD[1]? = some (.str q88 xD)) → (Apart ([(lr, W.listOf #[Value.int r0 a0, Value.int r1 a1, Value.int r2 a2] kr), (I, oIt), (lf, W.listOf (List.toArray vf) kf), (cI, oI), (cD, oD), (ld, W.listOf (List.toArray vd) kd), (lc, W.listOf (List.toArray vc) kc), (lp, W.listOf #[Value.int m.p0 c0, Value.int m.p1 c1, Value.int m.p2 c2] k3), (L + 1 + 1 + 1, o1), (L + 1 + 1, o2), (L + 1, o3), (83, tabObj #[rawInt 54, rawInt 4, Value.ref cD]), (76, tabObj #[rawInt 39, rawInt 4, Value.ref cI])])) → PreT3i m C D G T I oIt k r0 r1 r2 xP xU xX L h₀ ([(lr, W.listOf #[Value.int r0 a0, Value.int r1 a1, Value.int r2 a2] kr), (I, oIt), (lf, W.listOf (List.toArray vf) kf), (cI, oI), (cD, oD), (ld, W.listOf (List.toArray vd) kd), (lc, W.listOf (List.toArray vc) kc), (lp, W.listOf #[Value.int m.p0 c0, Value.int m.p1 c1, Value.int m.p2 c2] k3), (L + 1 + 1 + 1, o1), (L + 1 + 1, o2), (L + 1, o3), (83, tabObj #[rawInt 54, rawInt 4, Value.ref cD]), (76, tabObj #[rawInt 39, rawInt 4, Value.ref cI])]) ([(Str.ofString "k", Value.int (0 + (k : Int)) tk), (Str.ofString "turn", Value.int xU tu), (Str.ofString "moved", Value.int xP tm), (Str.ofString "figures", Value.ref lf), (Str.ofString "code", Value.ref lc), (Str.ofString "dual", Value.ref ld), (Str.ofString "width", Value.int m.wd tw), (Str.ofString "alphabet", Value.int m.al ti), (Str.ofString "bare", Value.str (typedF m.al 0 0 0) tb), (Str.ofString "one", Value.int xX to), (Str.ofString "total", Value.int T tt)])
noncomputable def PreT3 (m : Pm) (C D G : List Int) (T : Int) (I : Addr) (oIt : Obj) (k : Nat) (r0 r1 r2 : Int) : Addr → Heap → List (Addr × Obj) → List (Str × Value) → Prop := PreT3i m C D G T I oIt k r0 r1 r2 (lee r0 + (lee r1 + (lee r2 + 0))) ((r0 * m.p0 + (r1 * m.p1 + (r2 * m.p2 + 0))).fmod 4) (2 ^ m.wd.toNat)
theorem reg_Sk4_1 : True := by
  (k_with "@CompSrc" => ((fail_if_success (k_extra "Sk4 off")); ((k_here; k_dflt (refine LCg.CompSrc.range (by rfl) (by k_asm) (by k_asm) (by assumption) (by first | decide | rfl) (by first | rfl | decide) (by first | size_fits | exact Nat.le_of_ble_eq_true rfl) ?_; intro g'Q; lcg_lit)))))
  exact True.intro
theorem sk4 (w : World) (m : Pm) (C D G : List Int) (T : Int) (I : Addr) (oIt : Obj) (k : Nat) (r0 r1 r2 : Int) (hm : m.Ok) (g0 : 0 ≤ r0 ∧ r0 < 4) (g1 : 0 ≤ r1 ∧ r1 < 4) (g2 : 0 ≤ r2 ∧ r2 < 4) :
    SegS w (((inK w.params).1.drop 6).take 1) (PreT2 m C D G T I oIt k r0 r1 r2) (PreT3 m C D G T I oIt k r0 r1 r2) := by
  have q0 := hm.p0
  have q1 := hm.p1
  have q2 := hm.p2
  unfold PreT2 PreT3
  generalize lee r0 + (lee r1 + (lee r2 + 0)) = P at *
  w_top off; intro p loose mean mg mb dp un gd outer A₀ base h₀ L' fa ccd s h tk led pl u B X T hdp hun h83 F N hpre; revert X; k_fill; intro X; dsimp only [in179, List.drop, List.take]
  dsimp only [inK, List.take, List.drop]
  obtain ⟨lf, vf, kf, lp, lc, ld, vc, vd, kc, kd, ti, tw, tb, to, tt, c0, c1, c2, k3, o1, o2, o3, v1, cI, oI, cD, oD, wI, xI, wD, xD, tk, lr, a0, a1, a2, kr, tm, hIf, hIc, hId, e1, e2, e3, x3', x4', x3, x4, hap⟩ := hpre
  have hap0 := hap; (repeat (obtain ⟨zz, hap⟩ := hap; dsimp only at zz)); (try clear hap)
  (try dsimp only); (try k_fold); refine wp_gen ?_; intro Qz hQz
  generalize hsF : W.listOf (List.toArray vf) kf = oFl at N; generalize hsD : W.listOf (List.toArray vd) kd = oDl at N; generalize hsC : W.listOf (List.toArray vc) kc = oCl at N; generalize hs8 : tabObj #[rawInt 54, rawInt 4, Value.ref cD] = o83 at N; generalize hs7 : tabObj #[rawInt 39, rawInt 4, Value.ref cI] = o76 at N
  k_steps
  (try subst hQz); (try subst hQz); exact mid_next2 (by assumption) (by assumption) (by repeat' first | exact trivial | refine ⟨rfl, ?_⟩) (by repeat' first | exact trivial | refine ⟨by first | k_mem | ((first | rw [hsF] | rw [hsD] | rw [hsC] | rw [hs8] | rw [hs7]); k_mem), ?_⟩) (⟨_, _, _, _, _, _, _, _, _, _, _, _, _, _, _, _, _, _, _, _, _, _, _, _, _, _, _, _, _, _, _, _, _, _, _, _, _, _, _, hIf, hIc, hId, e1, e2, e3, x3', x4', x3, x4, (by exact hap0)⟩)
theorem off_Sk4 : True := by
  (k_with "Sk4 off" => skip)
  exact True.intro

end
section --Sk5

noncomputable def termG (X U P : Int) : Int := if U.fmod 2 = 0 then (1 - U) * (1 - X) ^ P.toNat * (1 + X) ^ (6 - P).toNat else 0
noncomputable def termF (wd p0 p1 p2 r0 r1 r2 : Int) : Int := termG (2 ^ wd.toNat) ((r0 * p0 + (r1 * p1 + (r2 * p2 + 0))).fmod 4) (lee r0 + (lee r1 + (lee r2 + 0)))
theorem two_pow_b {wd : Int} (h1 : 7 ≤ wd) (h2 : wd ≤ 12) : 128 ≤ (2 : Int) ^ wd.toNat ∧ (2 : Int) ^ wd.toNat ≤ 4096 := by
  rcases (show wd = 7 ∨ wd = 8 ∨ wd = 9 ∨ wd = 10 ∨ wd = 11 ∨ wd = 12 by omega) with rfl | rfl | rfl | rfl | rfl | rfl <;> decide
theorem mul_okX {X U P : Int} (hX : 128 ≤ X ∧ X ≤ 4096) (hU : 0 ≤ U ∧ U < 4) (hP : 0 ≤ P ∧ P ≤ 6) : IntMulOk (1 - U) ((1 - X) ^ P.toNat) ∧ IntMulOk ((1 - U) * (1 - X) ^ P.toNat) ((1 + X) ^ (6 - P).toNat) := by
  have b1 : Builtin.Int.intBits (1 - U) ≤ 2 := intBits_le_iff.mpr (by omega)
  have b2 : Builtin.Int.intBits (1 - X) ≤ 13 := intBits_le_iff.mpr (by omega)
  have b3 : Builtin.Int.intBits (1 + X) ≤ 13 := intBits_le_iff.mpr (by omega)
  have c2 := intBits_pow_le b2 P.toNat
  have c3 := intBits_pow_le b3 (6 - P).toNat
  have c4 := intBits_mul_le b1 c2
  exact ⟨IntMulOk.of_le b1 c2 (by omega), IntMulOk.of_le c4 c3 (by omega)⟩
theorem reg_Sk5_1 : True := by
  (k_with "@binaryOp Pow int int" => ((fail_if_success (k_extra "Sk5 off")); (k_dflt (with_reducible refine pow_int_small ?ax0 ?bx0 ?cx0 ?_; (case ax0 => omega); (case bx0 => omega); (case cx0 => assumption)))))
  (k_with "@binaryOp Pow int int" => ((fail_if_success (k_extra "Sk5 off")); (k_dflt (with_reducible refine pow_int_small ?ax1 ?bx1 ?cx1 ?_; (case ax1 => omega); (case bx1 => omega); (case cx1 => assumption)))))
  (k_with "@binaryOp Pow int int" => ((fail_if_success (k_extra "Sk5 off")); (k_dflt (with_reducible refine pow_int_small ?ax2 ?bx2 ?cx2 ?_; (case ax2 => omega); (case bx2 => omega); (case cx2 => assumption)))))
  (k_with "@binaryOp Pow int int" => ((fail_if_success (k_extra "Sk5 off")); (k_dflt (with_reducible refine pow_int_small ?ax3 ?bx3 ?cx3 ?_; (case ax3 => omega); (case bx3 => omega); (case cx3 => assumption)))))
  (k_with "@binaryOp Mult int int" => ((fail_if_success (k_extra "Sk5 off")); (k_dflt (refine mul_int ?_ (by with_reducible assumption)))))
  exact True.intro
theorem sk5 (w : World) (m : Pm) (C D G : List Int) (T : Int) (I : Addr) (oIt : Obj) (k : Nat) (r0 r1 r2 : Int) (hm : m.Ok) (g0 : 0 ≤ r0 ∧ r0 < 4) (g1 : 0 ≤ r1 ∧ r1 < 4) (g2 : 0 ≤ r2 ∧ r2 < 4) :
    SegS w (((inK w.params).1.drop 7).take 1) (PreT3 m C D G T I oIt k r0 r1 r2) (fun L h₀ led pl => ∃ r, led = (I, oIt) :: r ∧ LCg.Off1 I r ∧ PreG m C D G (T + termF m.wd m.p0 m.p1 m.p2 r0 r1 r2) L h₀ r pl) := by
  have hP : 0 ≤ lee r0 + (lee r1 + (lee r2 + 0)) ∧ lee r0 + (lee r1 + (lee r2 + 0)) ≤ 6 := by
    unfold lee; omega
  have hw1 := hm.wd.1
  have hw2 := hm.wd.2
  have hX := two_pow_b hw1 hw2
  unfold PreT3 termF
  generalize lee r0 + (lee r1 + (lee r2 + 0)) = P at *
  generalize hU : (r0 * m.p0 + (r1 * m.p1 + (r2 * m.p2 + 0))).fmod 4 = U at *
  have hU1 : 0 ≤ U := hU ▸ fmod_lo _ (by decide)
  have hU2 : U < 4 := hU ▸ fmod_hi _ (by decide)
  generalize hXe : (2 : Int) ^ m.wd.toNat = Xx at *
  obtain ⟨hM1, hM2⟩ := mul_okX hX ⟨hU1, hU2⟩ hP
  have hA : (1 - Xx).natAbs < 2 ^ 64 := by omega
  have hB : (1 + Xx).natAbs < 2 ^ 64 := by omega
  unfold PreG
  rw [hXe]
  w_top off; intro p loose mean mg mb dp un gd outer A₀ base h₀ L' fa ccd s h tk led pl u B X T hdp hun h83 F N hpre; revert X; k_fill; intro X; dsimp only [in179, List.drop, List.take]
  dsimp only [inK, List.take, List.drop]
  obtain ⟨lf, vf, kf, lp, lc, ld, vc, vd, kc, kd, ti, tw, tb, to, tt, c0, c1, c2, k3, o1, o2, o3, v1, cI, oI, cD, oD, wI, xI, wD, xD, tk, lr, a0, a1, a2, kr, tm, tu, hIf, hIc, hId, e1, e2, e3, x3', x4', x3, x4, hap⟩ := hpre
  have hap0 := hap; (repeat (obtain ⟨zz, hap⟩ := hap; dsimp only at zz)); (try clear hap)
  (try dsimp only); (try k_fold); refine wp_gen ?_; intro Qz hQz
  generalize hsF : W.listOf (List.toArray vf) kf = oFl at N; generalize hsD : W.listOf (List.toArray vd) kd = oDl at N; generalize hsC : W.listOf (List.toArray vc) kc = oCl at N; generalize hsP : W.listOf #[Value.int m.p0 c0, Value.int m.p1 c1, Value.int m.p2 c2] k3 = oPl at N; generalize hs8 : tabObj #[rawInt 54, rawInt 4, Value.ref cD] = o83 at N; generalize hs7 : tabObj #[rawInt 39, rawInt 4, Value.ref cI] = o76 at N
  k_steps
  · (try subst hQz)
    rw [show termG Xx U P = (1 - U) * (1 - Xx) ^ P.toNat * (1 + Xx) ^ (6 - P).toNat from if_pos (by assumption)]
    (try subst hQz); (try subst hQz); exact mid_next2 (by assumption) (by assumption) (by repeat' first | exact trivial | refine ⟨rfl, ?_⟩) (by repeat' first | exact trivial | refine ⟨by first | k_mem | ((first | rw [hsF] | rw [hsD] | rw [hsC] | rw [hsP] | rw [hs8] | rw [hs7]); k_mem), ?_⟩) ⟨_, rfl, (by exact hap0.2.1), _, _, _, _, _, _, _, _, _, _, _, _, _, _, _, _, _, _, _, _, _, _, _, _, _, _, _, _, _, _, _, _, hIf, hIc, hId, e1, e2, e3, x3', x4', x3, x4, (by exact hap0.2.2)⟩
  · (try subst hQz)
    rw [show termG Xx U P = 0 from if_neg (by assumption), Int.add_zero]
    (try subst hQz); (try subst hQz); exact mid_next2 (by assumption) (by assumption) (by repeat' first | exact trivial | refine ⟨rfl, ?_⟩) (by repeat' first | exact trivial | refine ⟨by first | k_mem | ((first | rw [hsF] | rw [hsD] | rw [hsC] | rw [hsP] | rw [hs8] | rw [hs7]); k_mem), ?_⟩) ⟨_, rfl, (by exact hap0.2.1), _, _, _, _, _, _, _, _, _, _, _, _, _, _, _, _, _, _, _, _, _, _, _, _, _, _, _, _, _, _, _, _, hIf, hIc, hId, e1, e2, e3, x3', x4', x3, x4, (by exact hap0.2.2)⟩
theorem off_Sk5 : True := by
  (k_with "Sk5 off" => skip)
  exact True.intro

end
section --Pa3

theorem leN_lee {r : Int} (h : 0 ≤ r ∧ r < 4) : ((leN r : Nat) : Int) = lee r ∧ leN r ≤ 2 := by
  have e : r.fmod 4 = r := by rw [Int.fmod_eq_emod_of_nonneg _ (by decide)]; (first | lia | omega)
  unfold leN lee
  rw [e]
  split <;> (first | lia | omega)
theorem term_law (wd p0 p1 p2 r0 r1 r2 : Int) (h0 : 0 ≤ r0 ∧ r0 < 4) (h1 : 0 ≤ r1 ∧ r1 < 4) (h2 : 0 ≤ r2 ∧ r2 < 4) :
    termF wd p0 p1 p2 r0 r1 r2 = eR (r2 * p2 + r1 * p1 + r0 * p0) * phi (2 ^ wd.toNat) r0 * phi (2 ^ wd.toNat) r1 * phi (2 ^ wd.toNat) r2 := by
  unfold termF termG phi
  obtain ⟨a0, b0⟩ := leN_lee h0
  obtain ⟨a1, b1⟩ := leN_lee h1
  obtain ⟨a2, b2⟩ := leN_lee h2
  rw [← a0, ← a1, ← a2, show r0 * p0 + (r1 * p1 + (r2 * p2 + 0)) = r2 * p2 + r1 * p1 + r0 * p0 by (first | lia | omega)]
  rw [show ((leN r0 : Int) + (leN r1 + (leN r2 + 0))).toNat = leN r0 + leN r1 + leN r2 by (first | lia | omega), show (6 - ((leN r0 : Int) + (leN r1 + (leN r2 + 0)))).toNat = (2 - leN r0) + (2 - leN r1) + (2 - leN r2) by (first | lia | omega)]
  generalize r2 * p2 + r1 * p1 + r0 * p0 = V
  generalize (2 : Int) ^ wd.toNat = X
  have hV : 0 ≤ V.fmod 4 ∧ V.fmod 4 < 4 := by rw [Int.fmod_eq_emod_of_nonneg _ (by decide)]; (first | lia | omega)
  rw [Int.pow_add, Int.pow_add, Int.pow_add, Int.pow_add]
  generalize (1 - X) ^ leN r0 = x0
  generalize (1 - X) ^ leN r1 = x1
  generalize (1 - X) ^ leN r2 = x2
  generalize (1 + X) ^ (2 - leN r0) = y0
  generalize (1 + X) ^ (2 - leN r1) = y1
  generalize (1 + X) ^ (2 - leN r2) = y2
  unfold eR
  generalize V.fmod 4 = W at *
  rcases (show W = 0 ∨ W = 1 ∨ W = 2 ∨ W = 3 by (first | lia | omega)) with rfl | rfl | rfl | rfl
  · rw [if_pos (by decide), if_pos (by decide)]; grind
  · rw [if_neg (by decide), if_neg (by decide), if_neg (by decide)]; grind
  · rw [if_pos (by decide), if_neg (by decide), if_pos (by decide)]; grind
  · rw [if_neg (by decide), if_neg (by decide), if_neg (by decide)]; grind

end
section --Pl3

theorem fin4 (r : Int) (h : 0 ≤ r ∧ r < 4) : ∃ n : Fin 4, r = (n.val : Int) := ⟨⟨r.toNat, by (first | lia | omega)⟩, by show r = (r.toNat : Int); (first | lia | omega)⟩
noncomputable def duN (f0 f1 f2 : Int) : Nat → Nat
  | 0 => 0
  | i + 1 => if (Int.fmod (Int.fmod (0 + (i : Int)) 4 * f0 + Int.fmod (Int.fdiv (0 + (i : Int)) 4) 4 * f1 + Int.fdiv (0 + (i : Int)) 16 * f2) 4 == 0) then duN f0 f1 f2 i + 1 else duN f0 f1 f2 i
theorem du_le (f0 f1 f2 g0 g1 g2 : Int) : ∀ i, (duF f0 f1 f2 g0 g1 g2 i).length ≤ duN f0 f1 f2 i
  | 0 => Nat.le_refl _
  | i + 1 => by
    have := du_le f0 f1 f2 g0 g1 g2 i
    show List.length (if duTest f0 f1 f2 g0 g1 g2 (0 + (i : Int)) then _ else _) ≤ (if _ then _ else _)
    by_cases h : duTest f0 f1 f2 g0 g1 g2 (0 + (i : Int)) = true
    · rw [if_pos h]
      unfold duTest at h
      simp only [Bool.and_eq_true] at h
      rw [if_pos h.1, List.length_append]
      exact Nat.succ_le_succ this
    · rw [if_neg h]
      split
      · exact Nat.le_succ_of_le this
      · exact this
theorem du_r (f0 f1 f2 g0 g1 g2 : Int) : ∀ i, ∀ x ∈ duF f0 f1 f2 g0 g1 g2 i, 0 ≤ x ∧ x < (i : Int)
  | 0, x, hx => by cases hx
  | i + 1, x, hx => by
    have ih := du_r f0 f1 f2 g0 g1 g2 i
    have hx' : x ∈ (if duTest f0 f1 f2 g0 g1 g2 (0 + (i : Int)) then duF f0 f1 f2 g0 g1 g2 i ++ [0 + (i : Int)] else duF f0 f1 f2 g0 g1 g2 i) := hx
    split at hx'
    · rcases List.mem_append.mp hx' with h | h
      · have := ih x h; (first | lia | omega)
      · have := List.mem_singleton.mp h; (first | lia | omega)
    · have := ih x hx'; (first | lia | omega)
theorem du_1 (f0 f1 f2 g0 g1 g2 : Int) : ∀ i, 1 ≤ (duF f0 f1 f2 g0 g1 g2 (i + 1)).length
  | 0 => by
    have : duTest f0 f1 f2 g0 g1 g2 (0 + ((0 : Nat) : Int)) = true := by
      unfold duTest
      have e1 : Int.fmod (0 + ((0 : Nat) : Int)) 4 = 0 := by decide
      have e2 : Int.fmod (Int.fdiv (0 + ((0 : Nat) : Int)) 4) 4 = 0 := by decide
      have e3 : Int.fdiv (0 + ((0 : Nat) : Int)) 16 = 0 := by decide
      rw [e1, e2, e3]; simp
    show 1 ≤ List.length (if duTest f0 f1 f2 g0 g1 g2 (0 + ((0 : Nat) : Int)) then _ else _)
    rw [if_pos this]; exact Nat.le_refl 1
  | i + 1 => by
    have := du_1 f0 f1 f2 g0 g1 g2 i
    show 1 ≤ List.length (if duTest f0 f1 f2 g0 g1 g2 (0 + ((i + 1 : Nat) : Int)) then _ else _)
    split
    · rw [List.length_append]; exact Nat.le_add_right_of_le this
    · exact this
theorem dn_d : ∀ f0 f1 f2 : Fin 4, (f0.val % 2 == 1 || f1.val % 2 == 1 || f2.val % 2 == 1) = true → duN f0.val f1.val f2.val 64 = 16 := by decide +kernel
theorem dual_ok (m : Pm) (hm : m.Ok) : (∀ x ∈ dualF m.f0 m.f1 m.f2 m.g0 m.g1 m.g2, 0 ≤ x ∧ x < 64) ∧ 1 ≤ (dualF m.f0 m.f1 m.f2 m.g0 m.g1 m.g2).length ∧ (dualF m.f0 m.f1 m.f2 m.g0 m.g1 m.g2).length ≤ 16 := by
  obtain ⟨q1, q2, q3, -, -, -, -, -, -, od, -, -⟩ := hm
  obtain ⟨f0, f1, f2, g0, g1, g2, p0, p1, p2, wd, al⟩ := m
  dsimp only at *
  refine ⟨du_r f0 f1 f2 g0 g1 g2 64, du_1 f0 f1 f2 g0 g1 g2 63, ?_⟩
  obtain ⟨a0, rfl⟩ := fin4 f0 q1
  obtain ⟨a1, rfl⟩ := fin4 f1 q2
  obtain ⟨a2, rfl⟩ := fin4 f2 q3
  exact Nat.le_trans (du_le _ _ _ g0 g1 g2 64) (Nat.le_of_eq (dn_d a0 a1 a2 (by simp only [Bool.or_eq_true, beq_iff_eq]; (first | lia | omega))))

end
section --Pl5

theorem lcAdd_mem {acc : List Int} {n x : Int} : x ∈ lcAdd acc n ↔ x ∈ acc ∨ x = n := by
  unfold lcAdd
  split
  · rename_i h
    exact ⟨.inl, fun q => q.elim id fun e => e ▸ h⟩
  · simp
theorem lcAdd_len (acc : List Int) (n : Int) : (lcAdd acc n).length ≤ acc.length + 1 := by
  unfold lcAdd
  split
  · (first | lia | omega)
  · simp
section
variable {f0 f1 f2 g0 g1 g2 : Int} {o : Nat}
theorem lcIn_mem {acc : List Int} {x : Int} : ∀ m, x ∈ lcIn f0 f1 f2 g0 g1 g2 o acc m ↔ x ∈ acc ∨ ∃ j, j < m ∧ x = lcNum f0 f1 f2 g0 g1 g2 o j
  | 0 => by simp [lcIn]
  | m + 1 => by
    show x ∈ lcAdd _ _ ↔ _
    rw [lcAdd_mem, lcIn_mem m]
    constructor
    · rintro ((h | ⟨j, hj, e⟩) | h)
      · exact .inl h
      · exact .inr ⟨j, by (first | lia | omega), e⟩
      · exact .inr ⟨m, by (first | lia | omega), h⟩
    · rintro (h | ⟨j, hj, e⟩)
      · exact .inl (.inl h)
      · by_cases q : j = m
        · subst q; exact .inr e
        · exact .inl (.inr ⟨j, by (first | lia | omega), e⟩)
theorem lcIn_len (acc : List Int) : ∀ m, (lcIn f0 f1 f2 g0 g1 g2 o acc m).length ≤ acc.length + m
  | 0 => Nat.le_refl _
  | m + 1 => by
    have h := lcIn_len acc m
    have := lcAdd_len (lcIn f0 f1 f2 g0 g1 g2 o acc m) (lcNum f0 f1 f2 g0 g1 g2 o m)
    show (lcAdd _ _).length ≤ _
    (first | lia | omega)
theorem lcOut_mem {x : Int} : ∀ n, x ∈ lcOut f0 f1 f2 g0 g1 g2 n ↔ ∃ i j, i < n ∧ j < 4 ∧ x = lcNum f0 f1 f2 g0 g1 g2 i j
  | 0 => by simp [lcOut]
  | n + 1 => by
    show x ∈ lcIn _ _ _ _ _ _ _ _ _ ↔ _
    rw [lcIn_mem, lcOut_mem n]
    constructor
    · rintro (⟨i, j, hi, hj, e⟩ | ⟨j, hj, e⟩)
      · exact ⟨i, j, by (first | lia | omega), hj, e⟩
      · exact ⟨n, j, by (first | lia | omega), hj, e⟩
    · rintro ⟨i, j, hi, hj, e⟩
      by_cases q : i = n
      · subst q; exact .inr ⟨j, hj, e⟩
      · exact .inl ⟨i, j, by (first | lia | omega), hj, e⟩
theorem lcOut_len : ∀ n, (lcOut f0 f1 f2 g0 g1 g2 n).length ≤ 4 * n
  | 0 => Nat.le_refl _
  | n + 1 => by
    have h := lcOut_len n
    have := lcIn_len (f0 := f0) (f1 := f1) (f2 := f2) (g0 := g0) (g1 := g1) (g2 := g2) (o := n) (lcOut f0 f1 f2 g0 g1 g2 n) 4
    show (lcIn _ _ _ _ _ _ _ _ _).length ≤ _
    (first | lia | omega)
theorem lcNum_r (i j : Nat) : 0 ≤ lcNum f0 f1 f2 g0 g1 g2 i j ∧ lcNum f0 f1 f2 g0 g1 g2 i j < 64 := by
  unfold lcNum
  have h1 := fmod_lo ((0 + (i:Int)) * f0 + (0 + (j:Int)) * g0) (n := 4) (by decide)
  have h2 := fmod_hi ((0 + (i:Int)) * f0 + (0 + (j:Int)) * g0) (n := 4) (by decide)
  have h3 := fmod_lo ((0 + (i:Int)) * f1 + (0 + (j:Int)) * g1) (n := 4) (by decide)
  have h4 := fmod_hi ((0 + (i:Int)) * f1 + (0 + (j:Int)) * g1) (n := 4) (by decide)
  have h5 := fmod_lo ((0 + (i:Int)) * f2 + (0 + (j:Int)) * g2) (n := 4) (by decide)
  have h6 := fmod_hi ((0 + (i:Int)) * f2 + (0 + (j:Int)) * g2) (n := 4) (by decide)
  (first | lia | omega)
end
theorem sorted_last : ∀ (l : List Int) (x : Int), l.Pairwise (· ≤ ·) → x ∈ l → x ≤ l.getD (l.length - 1) 0
  | [], x, _, h => by cases h
  | [y], x, _, h => by
    have := List.mem_singleton.mp h
    subst this; exact Int.le_refl _
  | y :: z :: r, x, hp, h => by
    have hc := List.pairwise_cons.mp hp
    have e : (y :: z :: r).getD ((y :: z :: r).length - 1) 0 = (z :: r).getD ((z :: r).length - 1) 0 := rfl
    rw [e]
    rcases List.mem_cons.mp h with rfl | h
    · exact Int.le_trans (hc.1 z (List.mem_cons_self ..)) (sorted_last (z :: r) z hc.2 (List.mem_cons_self ..))
    · exact sorted_last (z :: r) x hc.2 h
theorem code_ok (m : Pm) (hm : m.Ok) : CodeOk (codeF m.f0 m.f1 m.f2 m.g0 m.g1 m.g2) := by
  obtain ⟨q1, q2, q3, q4, q5, q6, -, -, -, od, -, -⟩ := hm
  obtain ⟨f0, f1, f2, g0, g1, g2, p0, p1, p2, wd, al⟩ := m
  dsimp only at *
  have hp := isrt_perm (lcOut f0 f1 f2 g0 g1 g2 4)
  have hs := isrt_sorted (lcOut f0 f1 f2 g0 g1 g2 4)
  have hl := hp.length_eq
  have hL := lcOut_len (f0 := f0) (f1 := f1) (f2 := f2) (g0 := g0) (g1 := g1) (g2 := g2) 4
  have hr : ∀ x ∈ isrt (lcOut f0 f1 f2 g0 g1 g2 4), 0 ≤ x ∧ x < 64 := fun x hx => by
    obtain ⟨i, j, -, -, rfl⟩ := (lcOut_mem 4).mp (hp.mem_iff.mp hx)
    exact lcNum_r i j
  have h0 : (0 : Int) ∈ isrt (lcOut f0 f1 f2 g0 g1 g2 4) := hp.mem_iff.mpr ((lcOut_mem 4).mpr ⟨0, 0, by (first | lia | omega), by (first | lia | omega), by unfold lcNum; simp⟩)
  have h1 : lcNum f0 f1 f2 g0 g1 g2 1 0 ∈ isrt (lcOut f0 f1 f2 g0 g1 g2 4) := hp.mem_iff.mpr ((lcOut_mem 4).mpr ⟨1, 0, by (first | lia | omega), by (first | lia | omega), rfl⟩)
  have hn : 0 < lcNum f0 f1 f2 g0 g1 g2 1 0 := by
    unfold lcNum
    have e : ∀ f g : Int, 0 ≤ f ∧ f < 4 → Int.fmod ((0 + ((1 : Nat) : Int)) * f + (0 + ((0 : Nat) : Int)) * g) 4 = f := fun f g hf => by
      have : (0 + ((1 : Nat) : Int)) * f + (0 + ((0 : Nat) : Int)) * g = f := by simp
      rw [this, Int.fmod_eq_emod_of_nonneg _ (by decide)]
      (first | lia | omega)
    rw [e f0 g0 q1, e f1 g1 q2, e f2 g2 q3]
    (first | lia | omega)
  show CodeOk (isrt (lcOut f0 f1 f2 g0 g1 g2 4))
  generalize isrt (lcOut f0 f1 f2 g0 g1 g2 4) = C at *
  refine ⟨⟨List.length_pos_of_mem h0, by (first | lia | omega)⟩, hr, ?_, Int.lt_of_lt_of_le hn (sorted_last C _ hs h1)⟩
  cases C with
  | nil => cases h0
  | cons y r =>
    show y = 0
    have hy := hr y (List.mem_cons_self ..)
    rcases List.mem_cons.mp h0 with h | h
    · exact h.symm
    · have := (List.pairwise_cons.mp hs).1 0 h
      (first | lia | omega)

end
section --Pa4

theorem eR_two (u : Int) : eR (u + 2) = - eR u := by
  unfold eR
  have e1 : (u + 2).fmod 4 = (u.fmod 4 + 2).fmod 4 := by
    rw [Int.fmod_eq_emod_of_nonneg _ (by decide), Int.fmod_eq_emod_of_nonneg _ (by decide), Int.fmod_eq_emod_of_nonneg _ (by decide)]; (first | lia | omega)
  have hV : 0 ≤ u.fmod 4 ∧ u.fmod 4 < 4 := by rw [Int.fmod_eq_emod_of_nonneg _ (by decide)]; (first | lia | omega)
  rw [e1]
  generalize u.fmod 4 = W at *
  rcases (show W = 0 ∨ W = 1 ∨ W = 2 ∨ W = 3 by (first | lia | omega)) with rfl | rfl | rfl | rfl <;> decide
theorem eR_cong {u v : Int} (h : u % 4 = v % 4) : eR u = eR v := by
  unfold eR
  rw [Int.fmod_eq_emod_of_nonneg _ (by decide), Int.fmod_eq_emod_of_nonneg _ (by decide), h]
noncomputable def dotN (z0 z1 z2 c : Int) : Int := (c.fmod 4) * z0 + ((c.fdiv 4).fmod 4) * z1 + (c.fdiv 16) * z2
noncomputable def sumK (C : List Int) (v : Int → Int) (k : Int) : Int := (C.map fun c => eR (v c + k)).sum
theorem perm_sum {l l' : List Int} (h : l.Perm l') : l.sum = l'.sum := by
  induction h with
  | nil => rfl
  | cons x _ ih => simp only [List.sum_cons, ih]
  | swap x y l => simp only [List.sum_cons]; (first | lia | omega)
  | trans _ _ a b => exact a.trans b
theorem sumK_two (v : Int → Int) (k : Int) : ∀ C : List Int, sumK C v (k + 2) = - sumK C v k
  | [] => rfl
  | c :: r => by
    have ih := sumK_two v k r
    unfold sumK at *
    simp only [List.map_cons, List.sum_cons]
    rw [ih, ← Int.add_assoc, eR_two]
    (first | lia | omega)
theorem sumK_shift {C : List Int} {v : Int → Int} {s : Int → Int} {a : Int} (hp : (C.map s).Perm C) (hv : ∀ c ∈ C, (v (s c)) % 4 = (v c + a) % 4) (k : Int) : sumK C v k = sumK C v (k + a) := by
  have h1 : sumK (C.map s) v k = sumK C v k := by
    unfold sumK
    exact perm_sum (hp.map _)
  rw [← h1]
  unfold sumK
  rw [List.map_map]
  congr 1
  refine List.map_congr_left fun c hc => ?_
  refine eR_cong ?_
  have := hv c hc
  show (v (s c) + k) % 4 = (v c + (k + a)) % 4
  (first | lia | omega)
theorem sumK_zero {C : List Int} {v : Int → Int} {s : Int → Int} {a : Int} (hp : (C.map s).Perm C) (hv : ∀ c ∈ C, (v (s c)) % 4 = (v c + a) % 4) (ha : a % 4 ≠ 0) : sumK C v 0 = 0 := by
  have h1 := sumK_shift hp hv 0
  have h2 := sumK_shift hp hv (0 + a)
  have h3 := sumK_two v 0 C
  have hc : ∀ x y : Int, x % 4 = y % 4 → sumK C v x = sumK C v y := fun x y h => by
    unfold sumK
    congr 1
    refine List.map_congr_left fun c _ => eR_cong ?_
    (first | lia | omega)
  rcases (show a % 4 = 1 ∨ a % 4 = 2 ∨ a % 4 = 3 by (first | lia | omega)) with h | h | h
  · have := hc (0 + a + a) (0 + 2) (by (first | lia | omega))
    (first | lia | omega)
  · have := hc (0 + a) (0 + 2) (by (first | lia | omega))
    (first | lia | omega)
  · have := hc (0 + a + a) (0 + 2) (by (first | lia | omega))
    (first | lia | omega)

end
section --Pa5

theorem m40 (a : Int) : 0 ≤ a % 4 ∧ a % 4 < 4 := ⟨Int.emod_nonneg _ (by decide), Int.emod_lt_of_pos _ (by decide)⟩
theorem dg3 {a b c : Int} (ha : 0 ≤ a ∧ a < 4) (hb : 0 ≤ b ∧ b < 4) (hc : 0 ≤ c ∧ c < 4) : (a + 4 * b + 16 * c) % 4 = a ∧ (a + 4 * b + 16 * c) / 4 % 4 = b ∧ (a + 4 * b + 16 * c) / 16 = c := by omega
noncomputable def shF (f0 f1 f2 c : Int) : Int := (c + f0).fmod 4 + 4 * (c.fdiv 4 + f1).fmod 4 + 16 * (c.fdiv 16 + f2).fmod 4
section
variable {f0 f1 f2 g0 g1 g2 : Int}
theorem lcNum_d (i j : Nat) : (lcNum f0 f1 f2 g0 g1 g2 i j).fmod 4 = ((i : Int) * f0 + j * g0) % 4 ∧ ((lcNum f0 f1 f2 g0 g1 g2 i j).fdiv 4).fmod 4 = ((i : Int) * f1 + j * g1) % 4 ∧ (lcNum f0 f1 f2 g0 g1 g2 i j).fdiv 16 = ((i : Int) * f2 + j * g2) % 4 := by
  unfold lcNum
  simp only [Int.zero_add]
  rw [Int.fmod_eq_emod_of_nonneg _ (by decide), Int.fmod_eq_emod_of_nonneg ((i : Int) * f1 + j * g1) (by decide), Int.fmod_eq_emod_of_nonneg ((i : Int) * f2 + j * g2) (by decide), Int.fmod_eq_emod_of_nonneg ((i : Int) * f0 + j * g0) (by decide), Int.fdiv_eq_ediv_of_nonneg _ (by decide), Int.fdiv_eq_ediv_of_nonneg _ (by decide), Int.fmod_eq_emod_of_nonneg _ (by decide)]
  exact dg3 (m40 _) (m40 _) (m40 _)
end
theorem lcAdd_nodup {acc : List Int} {n : Int} (h : acc.Nodup) : (lcAdd acc n).Nodup := by
  unfold lcAdd
  split
  · exact h
  · rename_i hn
    exact List.nodup_append.mpr ⟨h, by simp, by intro a ha b hb e; subst e; exact hn (List.mem_singleton.mp hb ▸ ha)⟩
section
variable {f0 f1 f2 g0 g1 g2 : Int}
theorem lcIn_nodup {o : Nat} {acc : List Int} (h : acc.Nodup) : ∀ m, (lcIn f0 f1 f2 g0 g1 g2 o acc m).Nodup
  | 0 => h
  | m + 1 => lcAdd_nodup (lcIn_nodup h m)
theorem lcOut_nodup : ∀ n, (lcOut f0 f1 f2 g0 g1 g2 n).Nodup
  | 0 => .nil
  | n + 1 => lcIn_nodup (lcOut_nodup n) 4
end

end
section --Pa6

theorem map_nodup {α : Type} {s t : α → α} : ∀ {C : List α}, C.Nodup → (∀ c ∈ C, t (s c) = c) → (C.map s).Nodup
  | [], _, _ => .nil
  | x :: r, h, ht => by
    have hc := List.nodup_cons.mp h
    refine List.nodup_cons.mpr ⟨fun hm => ?_, map_nodup hc.2 fun c m => ht c (List.mem_cons_of_mem _ m)⟩
    obtain ⟨y, hy, e⟩ := List.mem_map.mp hm
    have e2 := congrArg t e
    rw [ht y (List.mem_cons_of_mem _ hy), ht x (List.mem_cons_self ..)] at e2
    exact hc.1 (e2 ▸ hy)
theorem map_perm {α : Type} {s t : α → α} {C : List α} (h : C.Nodup) (hs : ∀ c ∈ C, s c ∈ C) (ht : ∀ c ∈ C, t c ∈ C) (h1 : ∀ c ∈ C, t (s c) = c) (h2 : ∀ c ∈ C, s (t c) = c) : (C.map s).Perm C :=
  (List.perm_ext_iff_of_nodup (map_nodup h h1) h).mpr fun c => ⟨fun hm => by
    obtain ⟨y, hy, rfl⟩ := List.mem_map.mp hm
    exact hs y hy, fun hc => List.mem_map.mpr ⟨t c, ht c hc, h2 c hc⟩⟩

end
section --Pa7

noncomputable def shF2 (d0 d1 d2 c : Int) : Int := (c.fmod 4 + d0) % 4 + 4 * (((c.fdiv 4).fmod 4 + d1) % 4) + 16 * ((c.fdiv 16 + d2) % 4)
section
variable {f0 f1 f2 g0 g1 g2 : Int}
theorem lcNum_e (i j : Nat) : lcNum f0 f1 f2 g0 g1 g2 i j = ((i : Int) * f0 + j * g0) % 4 + 4 * (((i : Int) * f1 + j * g1) % 4) + 16 * (((i : Int) * f2 + j * g2) % 4) := by
  unfold lcNum
  simp only [Int.zero_add]
  rw [Int.fmod_eq_emod_of_nonneg _ (by decide), Int.fmod_eq_emod_of_nonneg _ (by decide), Int.fmod_eq_emod_of_nonneg _ (by decide)]
theorem sh_f (i j : Nat) (a : Nat) : shF2 (a * f0) (a * f1) (a * f2) (lcNum f0 f1 f2 g0 g1 g2 i j) = lcNum f0 f1 f2 g0 g1 g2 (i + a) j := by
  obtain ⟨e0, e1, e2⟩ := lcNum_d (f0 := f0) (f1 := f1) (f2 := f2) (g0 := g0) (g1 := g1) (g2 := g2) i j
  unfold shF2
  have r : ∀ p q : Int, (i : Int) * p + j * q + a * p = ((i + a : Nat) : Int) * p + j * q := fun p q => by rw [Int.natCast_add, Int.add_mul, Int.add_right_comm]
  rw [e0, e1, e2, lcNum_e, Int.emod_add_emod, Int.emod_add_emod, Int.emod_add_emod, r, r, r]
theorem sh_g (i j : Nat) (a : Nat) : shF2 (a * g0) (a * g1) (a * g2) (lcNum f0 f1 f2 g0 g1 g2 i j) = lcNum f0 f1 f2 g0 g1 g2 i (j + a) := by
  obtain ⟨e0, e1, e2⟩ := lcNum_d (f0 := f0) (f1 := f1) (f2 := f2) (g0 := g0) (g1 := g1) (g2 := g2) i j
  unfold shF2
  have r : ∀ p q : Int, (i : Int) * p + j * q + a * q = i * p + ((j + a : Nat) : Int) * q := fun p q => by rw [Int.natCast_add, Int.add_mul, Int.add_assoc]
  rw [e0, e1, e2, lcNum_e, Int.emod_add_emod, Int.emod_add_emod, Int.emod_add_emod, r, r, r]
theorem p4 (x y k l : Int) : (x + 4 * k + (y + 4 * l)) % 4 = (x + y) % 4 := by omega
theorem lcNum_per (i j : Nat) : lcNum f0 f1 f2 g0 g1 g2 i j = lcNum f0 f1 f2 g0 g1 g2 (i % 4) (j % 4) := by
  rw [lcNum_e, lcNum_e]
  have hi : ∀ (i : Nat) (f : Int), ∃ k, (i : Int) * f = ((i % 4 : Nat) : Int) * f + 4 * k := fun i f => ⟨(i / 4 : Nat) * f, by
    have : (i : Int) = ((i % 4 : Nat) : Int) + 4 * ((i / 4 : Nat) : Int) := by (first | lia | omega)
    rw [this]; simp only [Int.add_mul, Int.mul_assoc]⟩
  obtain ⟨k0, a0⟩ := hi i f0
  obtain ⟨k1, a1⟩ := hi i f1
  obtain ⟨k2, a2⟩ := hi i f2
  obtain ⟨l0, b0⟩ := hi j g0
  obtain ⟨l1, b1⟩ := hi j g1
  obtain ⟨l2, b2⟩ := hi j g2
  rw [a0, a1, a2, b0, b1, b2, p4, p4, p4]
end

end
section --Pa8

section
variable {f0 f1 f2 g0 g1 g2 : Int}
theorem code_mem {x : Int} : x ∈ codeF f0 f1 f2 g0 g1 g2 ↔ ∃ i j : Nat, x = lcNum f0 f1 f2 g0 g1 g2 i j := by
  rw [show (x ∈ codeF f0 f1 f2 g0 g1 g2) = (x ∈ isrt (lcOut f0 f1 f2 g0 g1 g2 4)) from rfl, (isrt_perm _).mem_iff, lcOut_mem]
  exact ⟨fun ⟨i, j, _, _, e⟩ => ⟨i, j, e⟩, fun ⟨i, j, e⟩ => ⟨i % 4, j % 4, by (first | lia | omega), by (first | lia | omega), by rw [e, lcNum_per]⟩⟩
theorem code_nodup : (codeF f0 f1 f2 g0 g1 g2).Nodup := (isrt_perm _).nodup_iff.mpr (lcOut_nodup 4)
theorem perm_f : ((codeF f0 f1 f2 g0 g1 g2).map (shF2 ((1 : Nat) * f0) ((1 : Nat) * f1) ((1 : Nat) * f2))).Perm (codeF f0 f1 f2 g0 g1 g2) := by
  refine map_perm (t := shF2 ((3 : Nat) * f0) ((3 : Nat) * f1) ((3 : Nat) * f2)) code_nodup ?_ ?_ ?_ ?_ <;> intro c hc <;> obtain ⟨i, j, rfl⟩ := code_mem.mp hc
  · exact code_mem.mpr ⟨_, _, sh_f i j 1⟩
  · exact code_mem.mpr ⟨_, _, sh_f i j 3⟩
  · rw [sh_f, sh_f, lcNum_per, lcNum_per i j, show (i + 1 + 3) % 4 = i % 4 by (first | lia | omega)]
  · rw [sh_f, sh_f, lcNum_per, lcNum_per i j, show (i + 3 + 1) % 4 = i % 4 by (first | lia | omega)]
theorem perm_g : ((codeF f0 f1 f2 g0 g1 g2).map (shF2 ((1 : Nat) * g0) ((1 : Nat) * g1) ((1 : Nat) * g2))).Perm (codeF f0 f1 f2 g0 g1 g2) := by
  refine map_perm (t := shF2 ((3 : Nat) * g0) ((3 : Nat) * g1) ((3 : Nat) * g2)) code_nodup ?_ ?_ ?_ ?_ <;> intro c hc <;> obtain ⟨i, j, rfl⟩ := code_mem.mp hc
  · exact code_mem.mpr ⟨_, _, sh_g i j 1⟩
  · exact code_mem.mpr ⟨_, _, sh_g i j 3⟩
  · rw [sh_g, sh_g, lcNum_per, lcNum_per i j, show (j + 1 + 3) % 4 = j % 4 by (first | lia | omega)]
  · rw [sh_g, sh_g, lcNum_per, lcNum_per i j, show (j + 3 + 1) % 4 = j % 4 by (first | lia | omega)]
end

end
section --Pa9

noncomputable def vC (z0 z1 z2 c : Int) : Int := c.fdiv 16 * z2 + (c.fdiv 4).fmod 4 * z1 + c.fmod 4 * z0
theorem sumK_one {v : Int → Int} : ∀ {C : List Int}, (∀ c ∈ C, v c % 4 = 0) → sumK C v 0 = C.length
  | [], _ => rfl
  | c :: r, h => by
    have ih := sumK_one (C := r) fun x hx => h x (List.mem_cons_of_mem _ hx)
    have e : eR (v c + 0) = 1 := by
      have h1 := h c (List.mem_cons_self ..)
      rw [show eR (v c + 0) = eR 0 from eR_cong (by (first | lia | omega))]; decide
    unfold sumK at *
    simp only [List.map_cons, List.sum_cons, List.length_cons]
    rw [ih, e]; (first | lia | omega)
theorem vC_sh {d0 d1 d2 z0 z1 z2 c : Int} (hc : 0 ≤ c ∧ c < 64) : vC z0 z1 z2 (shF2 d0 d1 d2 c) % 4 = (vC z0 z1 z2 c + (d2 * z2 + d1 * z1 + d0 * z0)) % 4 := by
  unfold vC shF2
  obtain ⟨e0, e1, e2⟩ := dg3 (m40 (c.fmod 4 + d0)) (m40 ((c.fdiv 4).fmod 4 + d1)) (m40 (c.fdiv 16 + d2))
  rw [Int.fmod_eq_emod_of_nonneg (_ + 16 * _) (by decide), Int.fmod_eq_emod_of_nonneg (Int.fdiv (_ + 16 * _) _) (by decide), Int.fdiv_eq_ediv_of_nonneg (_ + 16 * _) (by decide), Int.fdiv_eq_ediv_of_nonneg (_ + 16 * _) (by decide)]
  rw [e0, e1, e2]
  have hm : ∀ a b z : Int, ∃ k, ((a + b) % 4) * z = a * z + b * z + 4 * k := fun a b z => ⟨-((a + b) / 4 * z), by
    have : (a + b) % 4 = a + b - 4 * ((a + b) / 4) := by (first | lia | omega)
    rw [this, Int.sub_mul, Int.add_mul, Int.mul_assoc]; (first | lia | omega)⟩
  obtain ⟨k0, h0⟩ := hm (c.fmod 4) d0 z0
  obtain ⟨k1, h1⟩ := hm ((c.fdiv 4).fmod 4) d1 z1
  obtain ⟨k2, h2⟩ := hm (c.fdiv 16) d2 z2
  rw [h0, h1, h2]
  (first | lia | omega)

end
section --Pb1

section
variable {f0 f1 f2 g0 g1 g2 : Int}
theorem code_rng {c : Int} (h : c ∈ codeF f0 f1 f2 g0 g1 g2) : 0 ≤ c ∧ c < 64 := by
  obtain ⟨i, j, rfl⟩ := code_mem.mp h
  exact lcNum_r i j
theorem orth_f (z0 z1 z2 : Int) (h : (f2 * z2 + f1 * z1 + f0 * z0) % 4 ≠ 0) : sumK (codeF f0 f1 f2 g0 g1 g2) (vC z0 z1 z2) 0 = 0 :=
  sumK_zero perm_f (fun c hc => vC_sh (code_rng hc)) (by simpa using h)
theorem orth_g (z0 z1 z2 : Int) (h : (g2 * z2 + g1 * z1 + g0 * z0) % 4 ≠ 0) : sumK (codeF f0 f1 f2 g0 g1 g2) (vC z0 z1 z2) 0 = 0 :=
  sumK_zero perm_g (fun c hc => vC_sh (code_rng hc)) (by simpa using h)
end
section
variable {f0 f1 f2 g0 g1 g2 : Int}
theorem orth_0 (z0 z1 z2 : Int) (hf : (f2 * z2 + f1 * z1 + f0 * z0) % 4 = 0) (hg : (g2 * z2 + g1 * z1 + g0 * z0) % 4 = 0) : sumK (codeF f0 f1 f2 g0 g1 g2) (vC z0 z1 z2) 0 = (codeF f0 f1 f2 g0 g1 g2).length := by
  refine sumK_one fun c hc => ?_
  obtain ⟨i, j, rfl⟩ := code_mem.mp hc
  have hz : vC z0 z1 z2 (lcNum f0 f1 f2 g0 g1 g2 0 0) % 4 = 0 := by
    have : lcNum f0 f1 f2 g0 g1 g2 0 0 = 0 := by rw [lcNum_e]; simp
    rw [this]; unfold vC; simp
  have h1 : ∀ i, vC z0 z1 z2 (lcNum f0 f1 f2 g0 g1 g2 i 0) % 4 = 0 := fun i => by
    induction i with
    | zero => exact hz
    | succ n ih =>
      rw [← sh_f n 0 1, vC_sh (lcNum_r _ _)]
      simp only [Int.natCast_one, Int.one_mul] at *
      (first | lia | omega)
  induction j with
  | zero => exact h1 i
  | succ n ih =>
    rw [← sh_g i n 1, vC_sh (lcNum_r _ _)]
    have := ih (code_mem.mpr ⟨_, _, rfl⟩)
    simp only [Int.natCast_one, Int.one_mul] at *
    (first | lia | omega)
end

end
section --Pb2

theorem sum_s4 (f : Int → Int → Int) : ∀ C : List Int, (C.map fun c => s4 (f c)).sum = s4 fun z => (C.map fun c => f c z).sum
  | [] => rfl
  | c :: r => by
    simp only [List.map_cons, List.sum_cons, sum_s4 f r]
    unfold s4; dsimp only; (first | lia | omega)
theorem sum_mul (f : Int → Int) (k : Int) : ∀ C : List Int, (C.map fun c => f c * k).sum = (C.map f).sum * k
  | [] => by simp
  | c :: r => by
    simp only [List.map_cons, List.sum_cons, sum_mul f k r, Int.add_mul]

end
section --Sg8

noncomputable def totF (m : Pm) (G : List Int) : Nat → Int
  | 0 => 0
  | k + 1 => totF m G k + termF m.wd m.p0 m.p1 m.p2 (G.getD (3 * k) 0) (G.getD (3 * k + 1) 0) (G.getD (3 * k + 2) 0)
theorem turnK (w : World) (m : Pm) (C D G : List Int) (T : Int) (I : Addr) (oIt : Obj) (k : Nat) (hm : m.Ok) (hk : 3 * k + 3 ≤ G.length) (hG : G.length ≤ 48) (hr : ∀ x ∈ G, 0 ≤ x ∧ x < 4) :
    SegS w (inK w.params).1 (PreT0 m C D G T I oIt k) (fun L h₀ led pl => ∃ r, led = (I, oIt) :: r ∧ LCg.Off1 I r ∧ PreG m C D G (T + termF m.wd m.p0 m.p1 m.p2 (G.getD (3 * k) 0) (G.getD (3 * k + 1) 0) (G.getD (3 * k + 2) 0)) L h₀ r pl) := by
  have g0 : 0 ≤ G.getD (3 * k) 0 ∧ G.getD (3 * k) 0 < 4 := fig4 hr (by omega)
  have g1 : 0 ≤ G.getD (3 * k + 1) 0 ∧ G.getD (3 * k + 1) 0 < 4 := fig4 hr (by omega)
  have g2 : 0 ≤ G.getD (3 * k + 2) 0 ∧ G.getD (3 * k + 2) 0 < 4 := fig4 hr (by omega)
  exact (sk1 w m C D G T I oIt k hm hk hG hr).comp ((sk2 w m C D G T I oIt k _ _ _ hm g0 g1 g2).comp ((sk3 w m C D G T I oIt k _ _ _ hm g0 g1 g2).comp ((sk4 w m C D G T I oIt k _ _ _ hm g0 g1 g2).comp (sk5 w m C D G T I oIt k _ _ _ hm g0 g1 g2))))
theorem len_rg {n : Nat} (hn : n ≤ 16) : Builtin.Range.small 0 n 1 = true ∧ Builtin.Range.rangeSize 0 n 1 = (n : Int) := by
  have : ∀ k : Fin 17, Builtin.Range.small 0 (k.val : Int) 1 = true ∧ Builtin.Range.rangeSize 0 (k.val : Int) 1 = (k.val : Int) := by decide
  exact this ⟨n, by omega⟩
theorem seg8 (w : World) (m : Pm) (C D : List Int) (hm : m.Ok) (hC : CodeOk C) : Seg w 17 1 (PreF m C D) (PreG m C D (digs 2 (3 * C.length) (d2 6 C)) (totF m (digs 2 (3 * C.length) (d2 6 C)) C.length)) := by
  have hlf := digs_len 2 (3 * C.length) (d2 6 C)
  have hr : ∀ x ∈ digs 2 (3 * C.length) (d2 6 C), 0 ≤ x ∧ x < 4 := digs_mem 2 (3 * C.length) (d2 6 C)
  have hl16 : C.length ≤ 16 := hC.len.2
  have hrg := len_rg hl16
  unfold PreF
  generalize hG : digs 2 (3 * C.length) (d2 6 C) = G at *
  w_top off; intro p loose mean mg mb dp un gd outer A₀ base h₀ L' fa ccd s h tk led pl u B X T hdp hun h83 F N hpre; revert X; k_fill; intro X; dsimp only [in179, List.drop, List.take]
  obtain ⟨lf, vf, kf, lp, lc, ld, vc, vd, kc, kd, ti, tw, tb, to, tt, c0, c1, c2, k3, o1, o2, o3, v1, v2, cI, oI, cD, oD, wI, xI, wD, xD, hIf, hIc, hId, e1, e2, e3, x3', x4', x3, x4, hap⟩ := hpre
  have hap1 := hap
  have hap0 := hap; (repeat (obtain ⟨zz, hap⟩ := hap; dsimp only at zz)); (try clear hap)
  (try dsimp only); (try k_fold); refine wp_gen ?_; intro Qz hQz
  k_steps
  (rename Fr _ _ _ _ => lF'); (rename News _ _ _ _ => lN'); (rename IsRange _ _ _ _ _ _ _ _ => rgX)
  (with_unfolding_all refine my_range _ (fun k => PreG m C D G (totF m G k) L' h₀) (by rfl) rgX hrg.1 (n := C.length) hrg.2 lF' lN' (show AllAt _ [(Str.ofString "figures", Value.ref lf), (Str.ofString "code", Value.ref lc), (Str.ofString "dual", Value.ref ld), (Str.ofString "width", Value.int m.wd tw), (Str.ofString "alphabet", Value.int m.al ti), (Str.ofString "bare", Value.str (typedF m.al 0 0 0) tb), (Str.ofString "one", Value.int (2 ^ m.wd.toNat) to), (Str.ofString "total", Value.int 0 tt)] from ⟨rfl, rfl, rfl, rfl, rfl, rfl, rfl, rfl, trivial⟩) ⟨_, _, _, _, _, _, _, _, _, _, _, _, _, _, _, _, _, _, _, _, _, _, _, _, _, _, _, _, _, _, _, _, hIf, hIc, hId, e1, e2, e3, x3', x4', x3, x4, hap1⟩ ?_ ?_)
  · (repeat ((with_reducible (rename News _ _ _ _ => zz)); clear zz)); (repeat ((with_reducible (rename Fr _ _ _ _ => zz)); clear zz)); (repeat ((with_reducible (rename IsRange _ _ _ _ _ _ _ _ => zz)); clear zz)); (repeat ((with_reducible (rename ((_ : Obj).data = Data.cell _) => zz)); clear zz)); (repeat ((with_reducible (rename (∀ (b : Addr) (o : Obj), Heap.get? _ b = some o → Heap.get? _ b = some o) => zz)); clear zz))
    rintro i v led pl I u o h tk hi ⟨t, rfl⟩ ⟨lf, vf, kf, lp, lc, ld, vc, vd, kc, kd, ti, tw, tb, to, tt, c0', c1, c2, k3, o1, o2, o3, v1, v2, cI, oI, cD, oD, wI, xI, wD, xD, hIf, hIc, hId, e1, e2, e3, x3', x4', x3, x4, hap⟩ ho F N
    (try subst hQz); exact turn_in (turnK w m C D G (totF m G i) I o i hm (by omega) (by omega) hr) B X T hdp hun h83 F N rfl ⟨_, _, _, _, _, _, _, _, _, _, _, _, _, _, _, _, _, _, _, _, _, _, _, _, _, _, _, _, _, _, _, _, _, hIf, hIc, hId, e1, e2, e3, x3', x4', x3, x4, ⟨ho, hap⟩⟩ (fun _ _ q => q) (fun v s' q => q)
  · (repeat ((with_reducible (rename News _ _ _ _ => zz)); clear zz)); (repeat ((with_reducible (rename Fr _ _ _ _ => zz)); clear zz)); (repeat ((with_reducible (rename IsRange _ _ _ _ _ _ _ _ => zz)); clear zz)); (repeat ((with_reducible (rename ((_ : Obj).data = Data.cell _) => zz)); clear zz)); (repeat ((with_reducible (rename (∀ (b : Addr) (o : Obj), Heap.get? _ b = some o → Heap.get? _ b = some o) => zz)); clear zz))
    rintro led pl u h tk ⟨lf, vf, kf, lp, lc, ld, vc, vd, kc, kd, ti, tw, tb, to, tt, c0, c1, c2, k3, o1, o2, o3, v1, v2, cI, oI, cD, oD, wI, xI, wD, xD, hIf, hIc, hId, e1, e2, e3, x3', x4', x3, x4, hap⟩ F N
    change Fr h₀ L' h _ at F; change News h₀ L' h _ at N; (try dsimp only); (try k_fold)
    k_steps
    (try subst hQz); (try subst hQz); exact mid_next2 (by assumption) (by assumption) (by repeat' first | exact trivial | refine ⟨rfl, ?_⟩) (by repeat' first | exact trivial | refine ⟨by k_mem, ?_⟩) (⟨_, _, _, _, _, _, _, _, _, _, _, _, _, _, _, _, _, _, _, _, _, _, _, _, _, _, _, _, _, _, _, _, hIf, hIc, hId, e1, e2, e3, x3', x4', x3, x4, hap⟩)

end
section --Un1

theorem reg_Un1_1 : True := by
  (k_with "@my strs back" => ((fail_if_success (k_extra "Un1 off")); ((intro r9Q h9Q tk9Q F9Q N9Q g9Q; obtain ⟨l9Q, vs9Q, k9Q, e9Q, g8Q, g7Q, i9Q⟩ := g9Q; subst e9Q; (have N8Q := news_add (by k_asm) (by k_asm) N9Q g8Q g7Q); clear N9Q; obtain ⟨N9Q, o9Q⟩ := N8Q; clear g8Q g7Q; (try dsimp only); (try k_fold)))))
  exact True.intro
inductive PreH (m : Pm) (C D : List Int) (T : Int) (E : List Int) (N : Nat) (ld : Addr) (vd : List Value) (kd : Nat) (L : Addr) (h₀ : Heap) : List (Addr × Obj) → List (Str × Value) → Prop
  | mk : ∀ la va ka lp lc vc kc tw tt c0 c1 c2 k3 o1 o2 o3 v2 cI oI cD oD wI xI wD xD, (IntsAre va.toList E) → (va.size ≤ N) → (IntsAre vc C) → (IntsAre vd D) → (o1.data = .cell (some (Value.ref la))) → (o2.data = .cell v2) → (o3.data = .cell (some (Value.ref lp))) → (oI.data = .fields wI) → (wI[1]? = some (.str q81 xI)) → (oD.data = .fields wD) → (wD[1]? = some (.str q88 xD)) → (Apart ([(la, W.listOf va ka), (cI, oI), (cD, oD), (ld, W.listOf (List.toArray vd) kd), (lc, W.listOf (List.toArray vc) kc), (lp, W.listOf #[Value.int m.p0 c0, Value.int m.p1 c1, Value.int m.p2 c2] k3), (L + 1 + 1 + 1, o1), (L + 1 + 1, o2), (L + 1, o3), (83, tabObj #[rawInt 54, rawInt 4, Value.ref cD]), (76, tabObj #[rawInt 39, rawInt 4, Value.ref cI])])) → PreH m C D T E N ld vd kd L h₀ ([(la, W.listOf va ka), (cI, oI), (cD, oD), (ld, W.listOf (List.toArray vd) kd), (lc, W.listOf (List.toArray vc) kc), (lp, W.listOf #[Value.int m.p0 c0, Value.int m.p1 c1, Value.int m.p2 c2] k3), (L + 1 + 1 + 1, o1), (L + 1 + 1, o2), (L + 1, o3), (83, tabObj #[rawInt 54, rawInt 4, Value.ref cD]), (76, tabObj #[rawInt 39, rawInt 4, Value.ref cI])]) ([(Str.ofString "code", Value.ref lc), (Str.ofString "dual", Value.ref ld), (Str.ofString "width", Value.int m.wd tw), (Str.ofString "total", Value.int T tt)])
inductive PreU0 (m : Pm) (C D : List Int) (T : Int) (E : List Int) (N : Nat) (ld : Addr) (vd : List Value) (kd : Nat) (I : Addr) (oIt : Obj) (x : Int) (L : Addr) (h₀ : Heap) : List (Addr × Obj) → List (Str × Value) → Prop
  | mk : ∀ la va ka lp lc vc kc tw tt c0 c1 c2 k3 o1 o2 o3 v2 cI oI cD oD wI xI wD xD tx, (IntsAre va.toList E) → (va.size ≤ N) → (IntsAre vc C) → (IntsAre vd D) → (o1.data = .cell (some (Value.ref la))) → (o2.data = .cell v2) → (o3.data = .cell (some (Value.ref lp))) → (oI.data = .fields wI) → (wI[1]? = some (.str q81 xI)) → (oD.data = .fields wD) → (wD[1]? = some (.str q88 xD)) → (Apart ([(I, oIt), (la, W.listOf va ka), (cI, oI), (cD, oD), (ld, W.listOf (List.toArray vd) kd), (lc, W.listOf (List.toArray vc) kc), (lp, W.listOf #[Value.int m.p0 c0, Value.int m.p1 c1, Value.int m.p2 c2] k3), (L + 1 + 1 + 1, o1), (L + 1 + 1, o2), (L + 1, o3), (83, tabObj #[rawInt 54, rawInt 4, Value.ref cD]), (76, tabObj #[rawInt 39, rawInt 4, Value.ref cI])])) → PreU0 m C D T E N ld vd kd I oIt x L h₀ ([(I, oIt), (la, W.listOf va ka), (cI, oI), (cD, oD), (ld, W.listOf (List.toArray vd) kd), (lc, W.listOf (List.toArray vc) kc), (lp, W.listOf #[Value.int m.p0 c0, Value.int m.p1 c1, Value.int m.p2 c2] k3), (L + 1 + 1 + 1, o1), (L + 1 + 1, o2), (L + 1, o3), (83, tabObj #[rawInt 54, rawInt 4, Value.ref cD]), (76, tabObj #[rawInt 39, rawInt 4, Value.ref cI])]) ([(Str.ofString "number", Value.int x tx), (Str.ofString "code", Value.ref lc), (Str.ofString "dual", Value.ref ld), (Str.ofString "width", Value.int m.wd tw), (Str.ofString "total", Value.int T tt)])
inductive PreU1i (m : Pm) (C D : List Int) (T : Int) (E : List Int) (N : Nat) (ld : Addr) (vd : List Value) (kd : Nat) (I : Addr) (oIt : Obj) (r0 r1 r2 : Int) (xS : List Str) (L : Addr) (h₀ : Heap) : List (Addr × Obj) → List (Str × Value) → Prop
  | mk : ∀ la va ka lp lc vc kc tw tt c0 c1 c2 k3 o1 o2 o3 cI oI cD oD wI xI wD xD ln vn kn lr a0 a1 a2 kr, (StrsAre vn xS) → (IntsAre va.toList E) → (va.size ≤ N) → (IntsAre vc C) → (IntsAre vd D) → (o1.data = .cell (some (Value.ref la))) → (o2.data = .cell (some (Value.ref lr))) → (o3.data = .cell (some (Value.ref lp))) → (oI.data = .fields wI) → (wI[1]? = some (.str q81 xI)) → (oD.data = .fields wD) → (wD[1]? = some (.str q88 xD)) → (Apart ([(ln, W.listOf (List.toArray vn) kn), (lr, W.listOf #[Value.int r0 a0, Value.int r1 a1, Value.int r2 a2] kr), (I, oIt), (la, W.listOf va ka), (cI, oI), (cD, oD), (ld, W.listOf (List.toArray vd) kd), (lc, W.listOf (List.toArray vc) kc), (lp, W.listOf #[Value.int m.p0 c0, Value.int m.p1 c1, Value.int m.p2 c2] k3), (L + 1 + 1 + 1, o1), (L + 1 + 1, o2), (L + 1, o3), (83, tabObj #[rawInt 54, rawInt 4, Value.ref cD]), (76, tabObj #[rawInt 39, rawInt 4, Value.ref cI])])) → PreU1i m C D T E N ld vd kd I oIt r0 r1 r2 xS L h₀ ([(ln, W.listOf (List.toArray vn) kn), (lr, W.listOf #[Value.int r0 a0, Value.int r1 a1, Value.int r2 a2] kr), (I, oIt), (la, W.listOf va ka), (cI, oI), (cD, oD), (ld, W.listOf (List.toArray vd) kd), (lc, W.listOf (List.toArray vc) kc), (lp, W.listOf #[Value.int m.p0 c0, Value.int m.p1 c1, Value.int m.p2 c2] k3), (L + 1 + 1 + 1, o1), (L + 1 + 1, o2), (L + 1, o3), (83, tabObj #[rawInt 54, rawInt 4, Value.ref cD]), (76, tabObj #[rawInt 39, rawInt 4, Value.ref cI])]) ([(Str.ofString "names", Value.ref ln), (Str.ofString "code", Value.ref lc), (Str.ofString "dual", Value.ref ld), (Str.ofString "width", Value.int m.wd tw), (Str.ofString "total", Value.int T tt)])
noncomputable def PreU1 (m : Pm) (C D : List Int) (T : Int) (E : List Int) (N : Nat) (ld : Addr) (vd : List Value) (kd : Nat) (I : Addr) (oIt : Obj) (r0 r1 r2 : Int) : Addr → Heap → List (Addr × Obj) → List (Str × Value) → Prop := PreU1i m C D T E N ld vd kd I oIt r0 r1 r2 (namesF r0 r1 r2 m.p0 m.p1 m.p2 3)
theorem u1 (w : World) (m : Pm) (C D : List Int) (T : Int) (E : List Int) (N : Nat) (ld : Addr) (vd : List Value) (kd : Nat) (I : Addr) (oIt : Obj) (x : Int) (hm : m.Ok) (hx : 0 ≤ x ∧ x < 64) :
    SegS w ((inN w.params).1.take 2) (PreU0 m C D T E N ld vd kd I oIt x) (PreU1 m C D T E N ld vd kd I oIt (Int.fmod x 4) (Int.fmod (Int.fdiv x 4) 4) (Int.fmod (Int.fdiv x 16) 4)) := by
  have g0 := f4 x
  have g1 := f4 (Int.fdiv x 4)
  have g2 := f4 (Int.fdiv x 16)
  have g3 : x < 1000000 := by omega
  w_top off; intro p loose mean mg mb dp un gd outer A₀ base h₀ L' fa ccd s h tk led pl u B X T hdp hun h83 F N hpre; revert X; k_fill; intro X; dsimp only [in179, List.drop, List.take]
  dsimp only [inN, List.take, List.drop]
  obtain ⟨la, va, ka, lp, lc, vc, kc, tw, tt, c0, c1, c2, k3, o1, o2, o3, v2, cI, oI, cD, oD, wI, xI, wD, xD, tx, hIa, hsz, hIc, hId, e1, e2, e3, x3', x4', x3, x4, hap⟩ := hpre
  have hap0 := hap; (repeat (obtain ⟨zz, hap⟩ := hap; dsimp only at zz)); (try clear hap)
  (try dsimp only); (try k_fold); refine wp_gen ?_; intro Qz hQz
  generalize hsD : W.listOf (List.toArray vd) kd = oDl at N; generalize hsC : W.listOf (List.toArray vc) kc = oCl at N; generalize hs8 : tabObj #[rawInt 54, rawInt 4, Value.ref cD] = o83 at N; generalize hs7 : tabObj #[rawInt 39, rawInt 4, Value.ref cI] = o76 at N
  (k_with "@call ref" => (fail_if_success (k_extra "Un1 off"));  (first
    | ((with_reducible show wpAny _ _ (call (Value.ref 138) _) _ _ _); (refine' Spec.use (row_spec w _ _ hx.1 g3) ?k1 ?k2 ?k3 ?k4 ?k5 ?kK ?kd ?ku trivial ?_); walk_at "my prem"; walk_at "my row back")
    | ((with_reducible show wpAny _ _ (call (Value.ref 174) _) _ _ _); (refine' Spec.use (names_spec w _ _ _ _ _ _ _ _ _ _ _ _ _ _ _ _ g0 g1 g2 hm.p0 hm.p1 hm.p2) ?k1 ?k2 ?k3 ?k4 ?k5 ?kK ?kd ?ku ⟨News.get (by k_asm) (by k_mem), News.get (by k_asm) (by k_mem)⟩ ?_); walk_at "my prem"; walk_at "my strs back")))
  k_steps
  skip
  (try subst hQz); (try subst hQz); exact mid_next2 (by assumption) (by assumption) (by repeat' first | exact trivial | refine ⟨rfl, ?_⟩) (by repeat' first | exact trivial | refine ⟨by first | k_mem | ((first | rw [hsD] | rw [hsC] | rw [hs8] | rw [hs7]); k_mem), ?_⟩) (⟨_, _, _, _, _, _, _, _, _, _, _, _, _, _, _, _, _, _, _, _, _, _, _, _, _, _, _, _, _, _, _, _, by with_reducible assumption, hIa, hsz, hIc, hId, e1, by with_reducible assumption, e3, x3', x4', x3, x4, ⟨(by walk_at "my apart"), (by walk_at "my apart"), (by exact hap0)⟩⟩)
theorem off_Un1 : True := by
  (k_with "Un1 off" => skip)
  exact True.intro

end
section --Un2

section
variable {prog : Program} {w : World} {A : Around} {E : Value → Shared → Prop} {s : Shared} {x z : Str} {t : Tok}
theorem join_eq {Q : Value → Shared → Prop} {D : Addr} {items : Array Value} {ys : List Str} (e : Txt.join x ys = z) (hl : s.heap.IsList D items) (hi : StrsAre items.toList ys) (hok : (ys.map (·.length)).sum + ys.length * x.length ≤ 16777216)
    (h : ∀ t' k, Q (.str z t') { s with toks := k }) : wpAny (model prog w) A (call (.builtin "str.join") [.str x t, .ref D]) Q E s := by
  subst e; exact join_list hl hi hok h
theorem truthy_e {Q : Bool → Shared → Prop} (h : Q false { s with toks := s.toks + 1 + 1 }) : wpAny (model prog w) A (truthy (.str ⟨#[]⟩ t)) Q E s := P.truthy_str (show ¬ ((0 : Nat) : Int) ≥ 2 ^ 63 by decide) h
theorem truthy_ne {Q : Bool → Shared → Prop} (hz : 0 < z.length ∧ z.length < 1000) (h : Q true { s with toks := s.toks + 1 + 1 }) : wpAny (model prog w) A (truthy (.str z t)) Q E s := P.truthy_str (show ¬ ((z.length : Nat) : Int) ≥ 2 ^ 63 by omega) (by rw [show (((z.length : Nat) : Int) != 0) = true by simp; omega]; exact h)
end
theorem u2 (w : World) (m : Pm) (C D : List Int) (T : Int) (E : List Int) (N : Nat) (ld : Addr) (vd : List Value) (kd : Nat) (I : Addr) (oIt : Obj) (r0 r1 r2 : Int) (hm : m.Ok) (g0 : 0 ≤ r0 ∧ r0 < 4) (g1 : 0 ≤ r1 ∧ r1 < 4) (g2 : 0 ≤ r2 ∧ r2 < 4) :
    SegS w (((inN w.params).1.drop 2).take 1) (PreU1 m C D T E N ld vd kd I oIt r0 r1 r2) (PreU1 m C D T E N ld vd kd I oIt r0 r1 r2) := by
  obtain ⟨hf, hfit, hl6, hlaw⟩ := flag_law g0 g1 g2 hm.p0 hm.p1 hm.p2
  have hfr := fun (w : World) (a : Addr) t0 t1 t2 k => flags_spec w a r0 r1 r2 t0 t1 t2 k g0 g1 g2
  have hfp := fun (w : World) (a : Addr) t0 t1 t2 k => flags_spec w a m.p0 m.p1 m.p2 t0 t1 t2 k hm.p0 hm.p1 hm.p2
  unfold PreU1
  generalize namesF r0 r1 r2 m.p0 m.p1 m.p2 3 = ss at *
  generalize flagsF r0 r1 r2 = fr at *
  generalize flagsF m.p0 m.p1 m.p2 = fp at *
  generalize hJ : Txt.join (Str.ofString ", ") ss = J at *
  generalize hPF : prettyF (Builtin.bitXor fr fp) = PF at *
  w_top off; intro p loose mean mg mb dp un gd outer A₀ base h₀ L' fa ccd s h tk led pl u B X T hdp hun h83 F N hpre; revert X; k_fill; intro X; dsimp only [in179, List.drop, List.take]
  dsimp only [inN, List.take, List.drop]
  obtain ⟨la, va, ka, lp, lc, vc, kc, tw, tt, c0, c1, c2, k3, o1, o2, o3, cI, oI, cD, oD, wI, xI, wD, xD, ln, vn, kn, lr, a0, a1, a2, kr, hIn, hIa, hsz, hIc, hId, e1, e2, e3, x3', x4', x3, x4, hap⟩ := hpre
  have hap0 := hap; (repeat (obtain ⟨zz, hap⟩ := hap; dsimp only at zz)); (try clear hap)
  (try dsimp only); (try k_fold); refine wp_gen ?_; intro Qz hQz
  generalize hsD : W.listOf (List.toArray vd) kd = oDl at N; generalize hsC : W.listOf (List.toArray vc) kc = oCl at N; generalize hs8 : tabObj #[rawInt 54, rawInt 4, Value.ref cD] = o83 at N; generalize hs7 : tabObj #[rawInt 39, rawInt 4, Value.ref cI] = o76 at N
  (k_with "@call ref" => (fail_if_success (k_extra "Un2 off"));  (first
    | ((with_reducible show wpAny _ _ (call (Value.ref 167) [Value.ref lr]) _ _ _); (refine' Spec.use (hfr w _ _ _ _ _) ?k1 ?k2 ?k3 ?k4 ?k5 ?kK ?kd ?ku (News.get (by k_asm) (by k_mem)) ?_); walk_at "my prem"; walk_at "my flat back")
    | ((with_reducible show wpAny _ _ (call (Value.ref 167) [Value.ref lp]) _ _ _); (refine' Spec.use (hfp w _ _ _ _ _) ?k1 ?k2 ?k3 ?k4 ?k5 ?kK ?kd ?ku (News.get (by k_asm) (by k_mem)) ?_); walk_at "my prem"; walk_at "my flat back")
    | ((with_reducible show wpAny _ _ (call (Value.ref 110) _) _ _ _); (refine' Spec.use (pretty_spec w _ _ hf) ?k1 ?k2 ?k3 ?k4 ?k5 ?kK ?kd ?ku trivial ?_); walk_at "my prem"; intro r9 h9 tk9 F9 N9 g9; rw [hPF] at g9; obtain ⟨t9, e9⟩ := g9; subst e9; (try dsimp only); (try k_fold))))
  (k_with "@call builtin:str.join" => (fail_if_success (k_extra "Un2 off"));  (refine join_eq hJ (News.isList (by k_asm) (by k_mem)) hIn hfit ?_; intro t9 k9))
  rcases hlaw with ⟨hJ0, hP0⟩ | ⟨hJ0, hP0⟩
  · subst hJ0 hP0
    (k_with "@truthy str" => (fail_if_success (k_extra "Un2 off"));  (refine truthy_e ?_))
    k_steps
    (try subst hQz); (try subst hQz); exact mid_next2 (by assumption) (by assumption) (by repeat' first | exact trivial | refine ⟨rfl, ?_⟩) (by repeat' first | exact trivial | refine ⟨by first | k_mem | ((first | rw [hsD] | rw [hsC] | rw [hs8] | rw [hs7]); k_mem), ?_⟩) (⟨_, _, _, _, _, _, _, _, _, _, _, _, _, _, _, _, _, _, _, _, _, _, _, _, _, _, _, _, _, _, _, _, hIn, hIa, hsz, hIc, hId, e1, e2, e3, x3', x4', x3, x4, (by exact hap0)⟩)
  · subst hP0
    (k_with "@truthy str" => (fail_if_success (k_extra "Un2 off"));  (refine truthy_ne hJ0 ?_))
    k_steps
    · exact absurd (by assumption : (PF != PF) = true) (by simp)
    · (try subst hQz); (try subst hQz); exact mid_next2 (by assumption) (by assumption) (by repeat' first | exact trivial | refine ⟨rfl, ?_⟩) (by repeat' first | exact trivial | refine ⟨by first | k_mem | ((first | rw [hsD] | rw [hsC] | rw [hs8] | rw [hs7]); k_mem), ?_⟩) (⟨_, _, _, _, _, _, _, _, _, _, _, _, _, _, _, _, _, _, _, _, _, _, _, _, _, _, _, _, _, _, _, _, hIn, hIa, hsz, hIc, hId, e1, e2, e3, x3', x4', x3, x4, (by exact hap0)⟩)
theorem off_Un2 : True := by
  (k_with "Un2 off" => skip)
  exact True.intro

end
section --Un3

theorem u3 (w : World) (m : Pm) (C D : List Int) (T : Int) (E : List Int) (N : Nat) (ld : Addr) (vd : List Value) (kd : Nat) (I : Addr) (oIt : Obj) (r0 r1 r2 : Int) (hm : m.Ok) (g0 : 0 ≤ r0 ∧ r0 < 4) (g1 : 0 ≤ r1 ∧ r1 < 4) (g2 : 0 ≤ r2 ∧ r2 < 4) (hN : N ≤ 64) :
    SegS w (((inN w.params).1.drop 3).take 1) (PreU1 m C D T E N ld vd kd I oIt r0 r1 r2) (fun L h₀ led pl => ∃ r, led = (I, oIt) :: r ∧ LCg.Off1 I r ∧ PreH m C D T (E ++ [((namesF r0 r1 r2 m.p0 m.p1 m.p2 3).length : Int)]) (N + 1) ld vd kd L h₀ r pl) := by
  obtain ⟨hf, hfit, hl6, hlaw⟩ := flag_law g0 g1 g2 hm.p0 hm.p1 hm.p2
  clear hlaw hf hfit
  unfold PreU1
  generalize namesF r0 r1 r2 m.p0 m.p1 m.p2 3 = ss at *
  w_top off; intro p loose mean mg mb dp un gd outer A₀ base h₀ L' fa ccd s h tk led pl u B X T hdp hun h83 F N hpre; revert X; k_fill; intro X; dsimp only [in179, List.drop, List.take]
  dsimp only [inN, List.take, List.drop]
  obtain ⟨la, va, ka, lp, lc, vc, kc, tw, tt, c0, c1, c2, k3, o1, o2, o3, cI, oI, cD, oD, wI, xI, wD, xD, ln, vn, kn, lr, a0, a1, a2, kr, hIn, hIa, hsz, hIc, hId, e1, e2, e3, x3', x4', x3, x4, hap⟩ := hpre
  have hap0 := hap; (repeat (obtain ⟨zz, hap⟩ := hap; dsimp only at zz)); (try clear hap)
  (try dsimp only); (try k_fold); refine wp_gen ?_; intro Qz hQz
  generalize hsD : W.listOf (List.toArray vd) kd = oDl at N; generalize hsC : W.listOf (List.toArray vc) kc = oCl at N; generalize hsP : W.listOf #[Value.int m.p0 c0, Value.int m.p1 c1, Value.int m.p2 c2] k3 = oPl at N; generalize hs8 : tabObj #[rawInt 54, rawInt 4, Value.ref cD] = o83 at N; generalize hs7 : tabObj #[rawInt 39, rawInt 4, Value.ref cI] = o76 at N
  have hvn := hIn.length
  k_steps
  (try subst hQz); (try subst hQz); exact mid_next2 (by assumption) (by assumption) (by repeat' first | exact trivial | refine ⟨rfl, ?_⟩) (by repeat' first | exact trivial | refine ⟨by first | k_mem | ((first | rw [hsD] | rw [hsC] | rw [hsP] | rw [hs8] | rw [hs7]); k_mem), ?_⟩) ⟨_, rfl, (by exact hap0.2.2.1), _, _, _, _, _, _, _, _, _, _, _, _, _, _, _, _, _, _, _, _, _, _, _, _, _, (by first | exact ints_push hIa | (rw [← hvn]; exact ints_push hIa)), (by simp only [Array.size_push]; omega), hIc, hId, e1, e2, e3, x3', x4', x3, x4, (by exact hap0.2.2.2)⟩

end
section --Sg9

noncomputable def farF (m : Pm) (x : Int) : Int := ((namesF (Int.fmod x 4) (Int.fmod (Int.fdiv x 4) 4) (Int.fmod (Int.fdiv x 16) 4) m.p0 m.p1 m.p2 3).length : Int)
theorem turnN (w : World) (m : Pm) (C D : List Int) (T : Int) (E : List Int) (N : Nat) (ld : Addr) (vd : List Value) (kd : Nat) (I : Addr) (oIt : Obj) (x : Int) (hm : m.Ok) (hx : 0 ≤ x ∧ x < 64) (hN : N ≤ 64) :
    SegS w (inN w.params).1 (PreU0 m C D T E N ld vd kd I oIt x) (fun L h₀ led pl => ∃ r, led = (I, oIt) :: r ∧ LCg.Off1 I r ∧ PreH m C D T (E ++ [farF m x]) (N + 1) ld vd kd L h₀ r pl) := by
  have g0 := f4 x
  have g1 := f4 (Int.fdiv x 4)
  have g2 := f4 (Int.fdiv x 16)
  exact (u1 w m C D T E N ld vd kd I oIt x hm hx).comp ((u2 w m C D T E N ld vd kd I oIt _ _ _ hm g0 g1 g2).comp (u3 w m C D T E N ld vd kd I oIt _ _ _ hm g0 g1 g2 hN))
theorem news_drop2 {h₀ h : Heap} {L : Addr} {a b : Addr × Obj} {r : List (Addr × Obj)} (N : News h₀ L h (a :: b :: r)) : News h₀ L h (a :: r) := fun p hp => by
  rcases List.mem_cons.mp hp with rfl | hp
  · exact N _ (.head _)
  · exact N p (.tail _ (.tail _ hp))
theorem take_map {D : List Int} {f : Int → Int} {i : Nat} {x : Int} (h : D[i]? = some x) : (D.take (i + 1)).map f = (D.take i).map f ++ [f x] := by
  rw [List.take_add_one, h]; simp
theorem seg9 (w : World) (m : Pm) (C D G : List Int) (Tt : Int) (hm : m.Ok) (hD : ∀ x ∈ D, 0 ≤ x ∧ x < 64) (hDl : D.length ≤ 16) : Seg w 18 2 (PreG m C D G Tt) (fun L h₀ led pl => ∃ ld vd kd, PreH m C D Tt (D.map (farF m)) D.length ld vd kd L h₀ led pl) := by
  w_top off; intro p loose mean mg mb dp un gd outer A₀ base h₀ L' fa ccd s h tk led pl u B X T hdp hun h83 F N hpre; revert X; k_fill; intro X; dsimp only [in179, List.drop, List.take]
  obtain ⟨lf, vf, kf, lp, lc, ld, vc, vd, kc, kd, ti, tw, tb, to, tt, c0, c1, c2, k3, o1, o2, o3, v1, v2, cI, oI, cD, oD, wI, xI, wD, xD, hIf, hIc, hId, e1, e2, e3, x3', x4', x3, x4, hap⟩ := hpre
  have hap1 := hap.2
  have hap0 := hap; (repeat (obtain ⟨zz, hap⟩ := hap; dsimp only at zz)); (try clear hap)
  (try dsimp only); (try k_fold); refine wp_gen ?_; intro Qz hQz
  k_steps
  (rename Fr _ _ _ _ => lF')
  (rename News _ _ _ _ => lN')
  have N2 := news_drop2 lN'
  have hvd := hId.length
  have hsz2 : vd.toArray.size = D.length := by rw [List.size_toArray, hvd]
  have hit : ∀ (i : Nat) (v : Value), vd.toArray[i]? = some v → ∃ x t, v = .int x t ∧ D[i]? = some x := fun i v hv => by
    obtain ⟨x, t, e, hx⟩ := IntsAre.at hId i v (by simpa using hv)
    exact ⟨x, t, e, hx⟩
  (with_unfolding_all refine my_list _ (fun i => PreH m C D Tt ((D.take i).map (farF m)) i ld vd kd L' h₀) (by rfl) (l := ld) (items := vd.toArray) (k := kd) (by k_mem) (fun i led pl hJ => (by obtain ⟨la, va, ka, lp, lc, vc, kc, tw, tt, c0, c1, c2, k3, o1, o2, o3, v2, cI, oI, cD, oD, wI, xI, wD, xD, hIa, hsz, hIc, hId, e1, e2, e3, x3', x4', x3, x4, hap⟩ := hJ; k_mem)) lF' N2 (show AllAt _ [(Str.ofString "code", Value.ref lc), (Str.ofString "dual", Value.ref ld), (Str.ofString "width", Value.int m.wd tw), (Str.ofString "total", Value.int Tt tt)] from ⟨rfl, rfl, rfl, rfl, trivial⟩) ⟨_, _, _, _, _, _, _, _, _, _, _, _, _, _, _, _, _, _, _, _, _, _, _, _, _, IntsAre.nil, Nat.le_refl _, hIc, hId, by with_reducible assumption, e2, e3, x3', x4', x3, x4, ⟨(by walk_at "my off lt"), hap1⟩⟩ ?_ ?_)
  · clear hIf hIc hId; (repeat ((with_reducible (rename News _ _ _ _ => zz)); clear zz)); (repeat ((with_reducible (rename Fr _ _ _ _ => zz)); clear zz)); (repeat ((with_reducible (rename IsRange _ _ _ _ _ _ _ _ => zz)); clear zz)); (repeat ((with_reducible (rename ((_ : Obj).data = Data.cell _) => zz)); clear zz)); (repeat ((with_reducible (rename (∀ (b : Addr) (o : Obj), Heap.get? _ b = some o → Heap.get? _ b = some o) => zz)); clear zz))
    rintro i v led pl I u o h tk hi hv ⟨la, va, ka, lp, lc, vc, kc, tw, tt, c0, c1, c2, k3, o1, o2, o3, v2, cI, oI, cD, oD, wI, xI, wD, xD, hIa, hsz, hIc, hId, e1, e2, e3, x3', x4', x3, x4, hap⟩ ho F N
    obtain ⟨x, t, rfl, hx⟩ := hit i v hv
    rw [hsz2] at hi
    (try subst hQz); exact turn_in (turnN w m C D Tt _ i ld vd kd I o x hm (hD x (List.mem_of_getElem? hx)) (by omega)) B X T hdp hun h83 F N rfl ⟨_, _, _, _, _, _, _, _, _, _, _, _, _, _, _, _, _, _, _, _, _, _, _, _, _, _, hIa, hsz, hIc, hId, e1, e2, e3, x3', x4', x3, x4, ⟨ho, hap⟩⟩ (fun led pl q => by rw [take_map hx]; exact q) (fun v s' q => q)
  · clear hIf hIc hId; (repeat ((with_reducible (rename News _ _ _ _ => zz)); clear zz)); (repeat ((with_reducible (rename Fr _ _ _ _ => zz)); clear zz)); (repeat ((with_reducible (rename IsRange _ _ _ _ _ _ _ _ => zz)); clear zz)); (repeat ((with_reducible (rename ((_ : Obj).data = Data.cell _) => zz)); clear zz)); (repeat ((with_reducible (rename (∀ (b : Addr) (o : Obj), Heap.get? _ b = some o → Heap.get? _ b = some o) => zz)); clear zz))
    rintro led pl u h tk hq F N
    rw [hsz2, List.take_length] at hq
    obtain ⟨la, va, ka, lp, lc, vc, kc, tw, tt, c0, c1, c2, k3, o1, o2, o3, v2, cI, oI, cD, oD, wI, xI, wD, xD, hIa, hsz, hIc, hId, e1, e2, e3, x3', x4', x3, x4, hap⟩ := hq
    change Fr h₀ L' h _ at F; change News h₀ L' h _ at N; (try dsimp only); (try k_fold)
    k_steps
    (try subst hQz); (try subst hQz); exact mid_next2 (by assumption) (by assumption) (by repeat' first | exact trivial | refine ⟨rfl, ?_⟩) (by repeat' first | exact trivial | refine ⟨by k_mem, ?_⟩) (⟨ld, vd, kd, _, _, _, _, _, _, _, _, _, _, _, _, _, _, _, _, _, _, _, _, _, _, _, _, _, hIa, hsz, hIc, hId, e1, e2, e3, x3', x4', x3, x4, hap⟩)

end
section --Sga

inductive PreIi (m : Pm) (C K : List Int) (T : Int) (xW : Int) (L : Addr) (h₀ : Heap) : List (Addr × Obj) → List (Str × Value) → Prop
  | mk : ∀ lq vq kq lc vc kc tw tt cI oI cD oD wI xI wD xD, (IntsAre vq K) → (IntsAre vc C) → (oI.data = .fields wI) → (wI[1]? = some (.str q81 xI)) → (oD.data = .fields wD) → (wD[1]? = some (.str q88 xD)) → (Apart ([(lq, W.listOf (List.toArray vq) kq), (cI, oI), (cD, oD), (lc, W.listOf (List.toArray vc) kc), (83, tabObj #[rawInt 54, rawInt 4, Value.ref cD]), (76, tabObj #[rawInt 39, rawInt 4, Value.ref cI])])) → PreIi m C K T xW L h₀ ([(lq, W.listOf (List.toArray vq) kq), (cI, oI), (cD, oD), (lc, W.listOf (List.toArray vc) kc), (83, tabObj #[rawInt 54, rawInt 4, Value.ref cD]), (76, tabObj #[rawInt 39, rawInt 4, Value.ref cI])]) ([(Str.ofString "code", Value.ref lc), (Str.ofString "width", Value.int xW tw), (Str.ofString "total", Value.int T tt), (Str.ofString "counts", Value.ref lq)])
noncomputable def PreI (m : Pm) (C K : List Int) (T : Int) : Addr → Heap → List (Addr × Obj) → List (Str × Value) → Prop := PreIi m C K T (m.wd)
noncomputable def countF (E : List Int) (M : Int) : List Int := (List.range (M + 1).toNat).map fun (i : Nat) => ((E.count (0 + (i : Int)) : Nat) : Int)
theorem sega (w : World) (m : Pm) (C D E : List Int) (Tt : Int) (hm : m.Ok) (hE : ∀ x ∈ E, 0 ≤ x ∧ x ≤ 6) (hEl : 1 ≤ E.length ∧ E.length ≤ 16) : Seg w 20 1 (fun L h₀ led pl => ∃ ld vd kd, PreH m C D Tt E E.length ld vd kd L h₀ led pl) (fun L h₀ led pl => ∃ M, (M ∈ E ∧ ∀ a ∈ E, a ≤ M) ∧ PreI m C (countF E M) Tt L h₀ led pl) := by
  w_top off; intro p loose mean mg mb dp un gd outer A₀ base h₀ L' fa ccd s h tk led pl u B X T hdp hun h83 F N hpre; revert X; k_fill; intro X; dsimp only [in179, List.drop, List.take]
  obtain ⟨ld, vd, kd, la, va, ka, lp, lc, vc, kc, tw, tt, c0, c1, c2, k3, o1, o2, o3, v2, cI, oI, cD, oD, wI, xI, wD, xD, hIa, hsz, hIc, hId, e1, e2, e3, x3', x4', x3, x4, hap⟩ := hpre
  have hap0 := hap; (repeat (obtain ⟨zz, hap⟩ := hap; dsimp only at zz)); (try clear hap)
  (try dsimp only); (try k_fold); refine wp_gen ?_; intro Qz hQz
  generalize hsD : W.listOf (List.toArray vd) kd = oDl at N; generalize hsC : W.listOf (List.toArray vc) kc = oCl at N; generalize hsP : W.listOf #[Value.int m.p0 c0, Value.int m.p1 c1, Value.int m.p2 c2] k3 = oPl at N; generalize hs8 : tabObj #[rawInt 54, rawInt 4, Value.ref cD] = o83 at N; generalize hs7 : tabObj #[rawInt 39, rawInt 4, Value.ref cI] = o76 at N
  k_steps
  (rename IsRange _ _ _ _ _ _ _ _ => rgX)
  (rename _ ∈ E => hME)
  (rename (∀ a ∈ E, a ≤ _) => hMax)
  have hM6 := hE _ hME
  have hrg := max_rg hM6
  (k_here; k_dflt (refine LCg.CompSrc.range (by rfl) (by k_asm) (by k_asm) rgX hrg.1 hrg.2 ?_ ?_))
  · exact Nat.le_trans (show _ ≤ 7 by omega) (by rw [sizeLine_eq]; decide)
  intro g'
  refine comp_ints (fun i => ((E.count (0 + (i : Int)) : Nat) : Int)) _ ?_ ?_
  · intro i v I' oI' C' oC' D' m' ys' h' tk' E' hi hv' hC' hx' F' N' off' ne'
    obtain ⟨t9', hv9'⟩ := hv'
    subst hv9'
    k_steps
    all_goals first | rfl | exact (default : Nat)
  · intro ys hys
    k_steps
    (try subst hQz); (try subst hQz); exact mid_next2 (by assumption) (by assumption) (by repeat' first | exact trivial | refine ⟨rfl, ?_⟩) (by repeat' first | exact trivial | refine ⟨by first | k_mem | ((first | rw [hsD] | rw [hsC] | rw [hsP] | rw [hs8] | rw [hs7]); k_mem), ?_⟩) ⟨_, ⟨hME, hMax⟩, _, _, _, _, _, _, _, _, _, _, _, _, _, _, _, _, hys, hIc, x3', x4', x3, x4, (by walk_at "my apart")⟩

end
section --Pl4

theorem far_ok (m : Pm) (x : Int) (hm : m.Ok) (hx : 0 ≤ x ∧ x < 64) : 0 ≤ farF m x ∧ farF m x ≤ 6 := by
  unfold farF
  refine ⟨by (first | lia | omega), ?_⟩
  have h := (flag_law (f4 x) (f4 (Int.fdiv x 4)) (f4 (Int.fdiv x 16)) hm.p0 hm.p1 hm.p2).2.2.1
  exact_mod_cast h
theorem count_ok (m : Pm) (E : List Int) (M : Int) (hm : m.Ok) (hE : ∀ x ∈ E, 0 ≤ x ∧ x ≤ 6) (hl : E.length ≤ 16) (hM : M ∈ E) : (∀ x ∈ countF E M, 0 ≤ x ∧ x < 2 ^ m.wd.toNat) ∧ (0 < (countF E M).length ∧ (countF E M).length ≤ 7) ∧ 0 < (countF E M).getD ((countF E M).length - 1) 0 := by
  have hMr := hE M hM
  have hlen : (countF E M).length = (M + 1).toNat := by unfold countF; rw [List.length_map, List.length_range]
  refine ⟨fun x hx => ?_, ⟨by rw [hlen]; (first | lia | omega), by rw [hlen]; (first | lia | omega)⟩, ?_⟩
  · obtain ⟨i, -, rfl⟩ := List.mem_map.mp hx
    have h1 : E.count (0 + (i : Int)) ≤ E.length := List.count_le_length ..
    have h2 : (2 : Int) ^ 7 ≤ 2 ^ m.wd.toNat := by
      have := Nat.pow_le_pow_right (show 0 < 2 by decide) (show 7 ≤ m.wd.toNat by have := hm.wd.1; (first | lia | omega))
      exact_mod_cast this
    have h3 : (2 : Int) ^ 7 = 128 := by decide
    (first | lia | omega)
  · have hi : (M + 1).toNat - 1 < (M + 1).toNat := by (first | lia | omega)
    rw [hlen]
    unfold countF
    rw [List.getD_eq_getElem?_getD, List.getElem?_map, List.getElem?_range hi]
    show 0 < ((E.count (0 + (((M + 1).toNat - 1 : Nat) : Int)) : Nat) : Int)
    have e : (0 + (((M + 1).toNat - 1 : Nat) : Int)) = M := by (first | lia | omega)
    rw [e]
    have := List.count_pos_iff.mpr hM
    (first | lia | omega)

end
section --Pb3

theorem far_d : ∀ (r p : Fin 4), ((if alB r.val p.val then 1 else 0) + (if beB r.val p.val then 1 else 0) : Nat) = leN ((r.val : Int) - p.val) := by decide +kernel
theorem nmP_len (c : Bool) (acc : List Str) (j : Nat) : (nmP c acc j).length = acc.length + (if c then 1 else 0) := by
  unfold nmP
  cases c <;> simp
theorem far_law (r0 r1 r2 p0 p1 p2 : Int) (h0 : 0 ≤ r0 ∧ r0 < 4) (h1 : 0 ≤ r1 ∧ r1 < 4) (h2 : 0 ≤ r2 ∧ r2 < 4) (q0 : 0 ≤ p0 ∧ p0 < 4) (q1 : 0 ≤ p1 ∧ p1 < 4) (q2 : 0 ≤ p2 ∧ p2 < 4) :
    (namesF r0 r1 r2 p0 p1 p2 3).length = leN (r0 - p0) + leN (r1 - p1) + leN (r2 - p2) := by
  obtain ⟨a0, rfl⟩ := fin4 r0 h0
  obtain ⟨a1, rfl⟩ := fin4 r1 h1
  obtain ⟨a2, rfl⟩ := fin4 r2 h2
  obtain ⟨b0, rfl⟩ := fin4 p0 q0
  obtain ⟨b1, rfl⟩ := fin4 p1 q1
  obtain ⟨b2, rfl⟩ := fin4 p2 q2
  rw [names_b, ← far_d, ← far_d, ← far_d]
  unfold nmB
  simp only [nmP_len, List.length_nil]
  (first | lia | omega)

end
section --Pb4

noncomputable def sumTo (h : Int → Int) : Nat → Int
  | 0 => 0
  | i + 1 => sumTo h i + h (0 + (i : Int))
theorem to_4 (h : Int → Int) (n : Nat) : sumTo h (n + 4) = sumTo h n + s4 fun z => h (n + z) := by
  show sumTo h n + h (0 + (n : Int)) + h (0 + ((n + 1 : Nat) : Int)) + h (0 + ((n + 2 : Nat) : Int)) + h (0 + ((n + 3 : Nat) : Int)) = _
  unfold s4
  dsimp only
  rw [show (0 + (n : Int)) = n + 0 by (first | lia | omega), show (0 + ((n + 1 : Nat) : Int)) = n + 1 by (first | lia | omega), show (0 + ((n + 2 : Nat) : Int)) = n + 2 by (first | lia | omega), show (0 + ((n + 3 : Nat) : Int)) = n + 3 by (first | lia | omega)]
  (first | lia | omega)
theorem to_16 (h : Int → Int) (n : Nat) : sumTo h (n + 16) = sumTo h n + s4 fun y => s4 fun z => h (n + 4 * y + z) := by
  rw [show n + 16 = n + 4 + 4 + 4 + 4 by (first | lia | omega), to_4, to_4, to_4, to_4]
  have e : ∀ (k : Nat) (y : Int), (k : Int) = n + 4 * y → (s4 fun z => h (k + z)) = s4 fun z => h (n + 4 * y + z) := fun k y hk => by rw [hk]
  rw [e n 0 (by (first | lia | omega)), e (n + 4) 1 (by (first | lia | omega)), e (n + 4 + 4) 2 (by (first | lia | omega)), e (n + 4 + 4 + 4) 3 (by (first | lia | omega))]
  show _ = sumTo h n + (s4 (fun z => h (n + 4 * 0 + z)) + s4 (fun z => h (n + 4 * 1 + z)) + s4 (fun z => h (n + 4 * 2 + z)) + s4 (fun z => h (n + 4 * 3 + z)))
  (first | lia | omega)
theorem to_64 (h : Int → Int) : sumTo h 64 = s4 fun x => s4 fun y => s4 fun z => h (16 * x + 4 * y + z) := by
  rw [show (64 : Nat) = 0 + 16 + 16 + 16 + 16 by (first | lia | omega), to_16, to_16, to_16, to_16]
  have e : ∀ (k : Nat) (x : Int), (k : Int) = 16 * x → (s4 fun y => s4 fun z => h (k + 4 * y + z)) = s4 fun y => s4 fun z => h (16 * x + 4 * y + z) := fun k y hk => by rw [hk]
  rw [e 0 0 (by (first | lia | omega)), e (0 + 16) 1 (by (first | lia | omega)), e (0 + 16 + 16) 2 (by (first | lia | omega)), e (0 + 16 + 16 + 16) 3 (by (first | lia | omega))]
  show sumTo h 0 + _ + _ + _ + _ = (_ + _ + _ + _)
  rw [show sumTo h 0 = 0 from rfl, Int.zero_add]

end
section --Pb5

noncomputable def pH (n k : Nat) (f : Nat → Int) : Int := d2 n ((List.range k).map f)
theorem pH_succ (n k : Nat) (f : Nat → Int) : pH n (k + 1) f = f 0 + 2 ^ n * pH n k fun i => f (i + 1) := by
  unfold pH
  rw [List.range_succ_eq_map, List.map_cons, d2, List.map_map]
  rfl
theorem pH_add (n : Nat) : ∀ (k : Nat) (f g : Nat → Int), pH n k (fun i => f i + g i) = pH n k f + pH n k g
  | 0, _, _ => rfl
  | k + 1, f, g => by
    rw [pH_succ, pH_succ, pH_succ, pH_add n k]
    rw [Int.mul_add]; (first | lia | omega)
theorem pH_zero (n : Nat) : ∀ (k : Nat), pH n k (fun _ => 0) = 0
  | 0 => rfl
  | k + 1 => by rw [pH_succ, pH_zero n k]; simp
theorem pH_one (n : Nat) : ∀ (k e : Nat), e < k → pH n k (fun i => if i = e then 1 else 0) = (2 ^ n) ^ e
  | 0, e, h => absurd h (Nat.not_lt_zero _)
  | k + 1, 0, _ => by
    rw [pH_succ, if_pos rfl]
    have : (fun i : Nat => (if i + 1 = 0 then 1 else 0 : Int)) = fun _ => 0 := funext fun i => if_neg (Nat.succ_ne_zero i)
    rw [this, pH_zero]; simp
  | k + 1, e + 1, h => by
    rw [pH_succ, if_neg (Ne.symm (Nat.succ_ne_zero e))]
    have : (fun i : Nat => (if i + 1 = e + 1 then 1 else 0 : Int)) = fun i => if i = e then 1 else 0 := funext fun i => by
      by_cases hi : i = e
      · rw [if_pos (by (first | lia | omega)), if_pos hi]
      · rw [if_neg (by (first | lia | omega)), if_neg hi]
    rw [this, pH_one n k e (by (first | lia | omega)), Int.pow_succ, Int.mul_comm ((2 ^ n) ^ e)]
    (first | lia | omega)
theorem pH_count (n k : Nat) : ∀ (E : List Int), (∀ e ∈ E, 0 ≤ e ∧ e < (k : Int)) → pH n k (fun i => ((E.count (0 + (i : Int)) : Nat) : Int)) = (E.map fun e => ((2 : Int) ^ n) ^ e.toNat).sum
  | [], _ => by
    have : (fun i : Nat => ((([] : List Int).count (0 + (i : Int)) : Nat) : Int)) = fun _ => 0 := funext fun i => rfl
    rw [this, pH_zero]; rfl
  | e :: r, h => by
    have ih := pH_count n k r fun x hx => h x (.tail _ hx)
    obtain ⟨h0, h1⟩ := h e (.head _)
    have : (fun i : Nat => (((e :: r).count (0 + (i : Int)) : Nat) : Int)) = fun i : Nat => ((r.count (0 + (i : Int)) : Nat) : Int) + (if i = e.toNat then 1 else 0) := funext fun i => by
      rw [List.count_cons]
      by_cases hi : i = e.toNat
      · rw [if_pos hi, if_pos (by simp; (first | lia | omega))]; simp
      · rw [if_neg hi, if_neg (by simp; (first | lia | omega))]; simp
    rw [this, pH_add, ih, pH_one n k _ (by (first | lia | omega)), List.map_cons, List.sum_cons, Int.add_comm]
theorem du_sum (f0 f1 f2 g0 g1 g2 : Int) (h : Int → Int) : ∀ n, ((duF f0 f1 f2 g0 g1 g2 n).map h).sum = sumTo (fun x => if duTest f0 f1 f2 g0 g1 g2 x = true then h x else 0) n
  | 0 => rfl
  | i + 1 => by
    have ih := du_sum f0 f1 f2 g0 g1 g2 h i
    show List.sum (List.map h (if duTest f0 f1 f2 g0 g1 g2 (0 + (i : Int)) then _ else _)) = sumTo (fun x => if duTest f0 f1 f2 g0 g1 g2 x = true then h x else 0) i + (if duTest f0 f1 f2 g0 g1 g2 (0 + (i : Int)) = true then h (0 + (i : Int)) else 0)
    by_cases ht : duTest f0 f1 f2 g0 g1 g2 (0 + (i : Int)) = true
    · rw [if_pos ht, if_pos ht, List.map_append, List.sum_append, ih]
      simp only [List.map_cons, List.map_nil, List.sum_cons, List.sum_nil, Int.add_zero]
    · rw [if_neg ht, if_neg ht, ih, Int.add_zero]
theorem s4_congr4 {f g : Int → Int} (h : ∀ z, 0 ≤ z ∧ z < 4 → f z = g z) : s4 f = s4 g := by
  unfold s4
  rw [h 0 (by decide), h 1 (by decide), h 2 (by decide), h 3 (by decide)]
theorem getD_flat (f : Int → List Int) (hf : ∀ c, (f c).length = 3) (j : Nat) (hj : j < 3) : ∀ (C : List Int) (k : Nat), k < C.length → (C.flatMap f).getD (3 * k + j) 0 = (f (C.getD k 0)).getD j 0
  | [], k, h => absurd h (Nat.not_lt_zero _)
  | c :: r, 0, _ => by
    rw [List.flatMap_cons, Nat.mul_zero, Nat.zero_add, List.getD_eq_getElem?_getD, List.getElem?_append_left (by rw [hf]; exact hj), ← List.getD_eq_getElem?_getD]
    rfl
  | c :: r, k + 1, h => by
    rw [List.flatMap_cons, List.getD_eq_getElem?_getD, List.getElem?_append_right (by rw [hf]; (first | lia | omega)), hf, show 3 * (k + 1) + j - 3 = 3 * k + j by (first | lia | omega), ← List.getD_eq_getElem?_getD, getD_flat f hf j hj r k (by simpa using h)]
    rfl

end
section --Sg6

noncomputable def row3 (c : Int) : List Int := [Int.fmod c 4, Int.fmod (Int.fdiv c 4) 4, Int.fmod (Int.fdiv c 16) 4]
theorem fm_em (a : Int) : Int.fmod a 4 = a % 4 := Int.fmod_eq_emod_of_nonneg _ (by decide)
theorem digs_row (m : Nat) (c r : Int) (hc : 0 ≤ c ∧ c < 64) : digs 2 (m + 1 + 1 + 1) (c + 2 ^ 6 * r) = row3 c ++ digs 2 m r := by
  unfold row3
  rw [fm_em, fm_em, fm_em, Int.fdiv_eq_ediv_of_nonneg _ (by decide), Int.fdiv_eq_ediv_of_nonneg _ (by decide)]
  simp only [digs, List.cons_append, List.nil_append]
  rw [show (c + 2 ^ 6 * r) / 2 ^ 2 / 2 ^ 2 / 2 ^ 2 = r by omega, show (c + 2 ^ 6 * r) % 2 ^ 2 = c % 4 by omega, show (c + 2 ^ 6 * r) / 2 ^ 2 % 2 ^ 2 = c / 4 % 4 by omega, show (c + 2 ^ 6 * r) / 2 ^ 2 / 2 ^ 2 % 2 ^ 2 = c / 16 % 4 by omega]
theorem digs_rows : ∀ (C : List Int), (∀ x ∈ C, 0 ≤ x ∧ x < 2 ^ 6) → digs 2 (3 * C.length) (d2 6 C) = C.flatMap row3
  | [], _ => rfl
  | c :: r, h => by
    rw [List.length_cons, show 3 * (r.length + 1) = 3 * r.length + 1 + 1 + 1 by omega, d2, digs_row _ _ _ (h c (.head _)), digs_rows r fun y hy => h y (.tail _ hy)]
    rfl
theorem flat_range (f : Int → List Int) : ∀ (C : List Int), (List.range C.length).flatMap (fun i => f (C.getD i 0)) = C.flatMap f := by
  intro C
  have : (List.range C.length).map (fun i => C.getD i 0) = C := by
    apply List.ext_getElem
    · simp
    · intro n h1 h2
      simp [List.getElem?_eq_getElem h2]
  conv => rhs; rw [← this]
  rw [List.flatMap_map]
theorem reg_Sg6_1 : True := by
  (k_with "@eval ListComp" => ((fail_if_success (k_extra "Sg6 off")); ((k_here; k_dflt (refine ListComp_2 (F₀ := by k_asm) (by rfl) (by decide) (by rfl) (by decide) (by rfl) (by rfl) (by decide) ?_)))))
  exact True.intro
theorem ints_at {vs : List Value} {ns : List Int} (h : IntsAre vs ns) : ∀ {i : Nat} {v : Value}, vs[i]? = some v → ∃ t, v = .int (ns.getD i 0) t := by
  induction h with
  | nil => intro i v e; cases e
  | cons n t _ ih =>
    intro i v e
    cases i with
    | zero => exact ⟨t, (Option.some.inj e).symm⟩
    | succ i => exact ih e
theorem getD_mem {C : List Int} {i : Nat} (h : i < C.length) : C.getD i 0 ∈ C := by
  rw [List.getD_eq_getElem?_getD, List.getElem?_eq_getElem h]; exact List.getElem_mem h
theorem seg6 (w : World) (m : Pm) (C D : List Int) (hm : m.Ok) (hC : CodeOk C) : Seg w 13 1 (PreE m C D) (PreE m C D) := by
  have hb : ∀ x ∈ C, 0 ≤ x ∧ x < 2 ^ 6 := hC.rng
  have hl16 : C.length ≤ 16 := hC.len.2
  have hl1 : 0 < C.length := hC.len.1
  have hlf := digs_len 2 (3 * C.length) (d2 6 C)
  have hrows := digs_rows C hb
  unfold PreE
  generalize hG : digs 2 (3 * C.length) (d2 6 C) = G at *
  w_top off; intro p loose mean mg mb dp un gd outer A₀ base h₀ L' fa ccd s h tk led pl u B X T hdp hun h83 F N hpre; revert X; k_fill; intro X; dsimp only [in179, List.drop, List.take]
  obtain ⟨lf, vf, kf, lp, lc, ld, vc, vd, kc, kd, ti, tw, c0, c1, c2, k3, o1, o2, o3, v1, v2, cI, oI, cD, oD, wI, xI, wD, xD, hIf, hIc, hId, e1, e2, e3, x3', x4', x3, x4, hap⟩ := hpre
  have hcl := hIc.length
  have hap0 := hap; (repeat (obtain ⟨zz, hap⟩ := hap; dsimp only at zz)); (try clear hap)
  (try dsimp only); (try k_fold); refine wp_gen ?_; intro Qz hQz
  generalize hsD : W.listOf (List.toArray vd) kd = oDl at N; generalize hsP : W.listOf #[Value.int m.p0 c0, Value.int m.p1 c1, Value.int m.p2 c2] k3 = oPl at N; generalize hs8 : tabObj #[rawInt 54, rawInt 4, Value.ref cD] = o83 at N; generalize hs7 : tabObj #[rawInt 39, rawInt 4, Value.ref cI] = o76 at N
  (k_with "@call ref" => (fail_if_success (k_extra "Sg6 off"));  ((with_reducible show wpAny _ _ (call (Value.ref 138) _) _ _ _); (refine' Spec.use (row_spec w _ _ ?r1 ?r2) ?k1 ?k2 ?k3 ?k4 ?k5 ?kK ?kd ?ku trivial ?_; walk_at "my prem"; (case r1 => omega); (case r2 => omega); walk_at "my row back")))
  have hfl : (List.range (List.toArray vc).size).flatMap (fun i => row3 (C.getD i 0)) = G := by
    rw [List.size_toArray, hcl, flat_range row3 C, hrows]
  k_steps
  (k_here; k_dflt (refine ⟨lc, List.toArray vc, fun i => row3 (C.getD i 0), _, rfl, by rfl, by k_asm, by k_asm, .inr ⟨_, by k_mem, rfl, _, rfl⟩, ?_, ?_⟩))
  · rw [hfl, hlf]
    exact Nat.le_trans (show _ ≤ 48 by omega) (by rw [sizeLine_eq]; decide)
  rintro s2 ⟨g', rfl⟩
  refine ⟨?_, ?_⟩
  · intro i v I' oI' C' oC' D' oD' m' h' tk' E' hi hv' hC' hx' F' N' off' ne'
    have hi' : i < vc.length := by simpa using hi
    have hv2 : vc[i]? = some v := by simpa using hv'
    obtain ⟨t9', hv9'⟩ := ints_at hIc hv2
    subst hv9'
    have hr9 := hb _ (getD_mem (C := C) (i := i) (by omega))
    have hr8 : 0 ≤ C.getD i 0 ∧ C.getD i 0 < 1000000 := by omega
    dsimp only
    generalize C.getD i 0 = c at *
    clear hv' hv2
    k_steps
    · k_asm
    · exact News.grown (fun p hp => (by with_reducible assumption : News _ _ _ (_ :: _)) p (.tail _ hp)) fun _ _ e => e
    · exact News.isList (by k_asm) (by k_mem)
    · k_ne
    · k_ne
    · exact .cons _ _ (.cons _ _ (.cons _ _ .nil))
  · intro ys hys
    rw [hfl] at hys
    k_steps
    (try subst hQz); (try subst hQz); exact mid_next2 (by assumption) (by assumption) (by repeat' first | exact trivial | refine ⟨rfl, ?_⟩) (by repeat' first | exact trivial | refine ⟨by first | k_mem | ((first | rw [hsD] | rw [hsP] | rw [hs8] | rw [hs7]); k_mem), ?_⟩) ⟨_, _, _, _, _, _, _, _, _, _, _, _, _, _, _, _, _, _, _, _, _, _, _, _, _, _, _, _, _, hIf, hIc, hId, e1, e2, e3, x3', x4', x3, x4, hap0⟩
theorem off_Sg6 : True := by
  (k_with "Sg6 off" => skip)
  exact True.intro

end
section --Pb6

theorem tot_sum (m : Pm) (C : List Int) : ∀ k, k ≤ C.length → totF m (C.flatMap row3) k = ((C.take k).map fun c => termF m.wd m.p0 m.p1 m.p2 (Int.fmod c 4) (Int.fmod (Int.fdiv c 4) 4) (Int.fmod (Int.fdiv c 16) 4)).sum
  | 0, _ => rfl
  | k + 1, h => by
    have hk : k < C.length := h
    have e := fun j hj => getD_flat row3 (fun _ => rfl) j hj C k hk
    have hc : C.getD k 0 = C[k] := by rw [List.getD_eq_getElem?_getD, List.getElem?_eq_getElem hk]; rfl
    have e0 : (C.flatMap row3).getD (3 * k) 0 = _ := e 0 (by decide)
    rw [totF, tot_sum m C k (by (first | lia | omega)), List.take_add_one, List.getElem?_eq_getElem hk, e0, e 1 (by decide), e 2 (by decide), hc]
    simp only [row3, Option.toList_some, List.map_append, List.map_cons, List.map_nil, List.sum_append, List.sum_cons, List.sum_nil, Int.add_zero]
    rfl
noncomputable def kK (X p0 p1 p2 z0 z1 z2 : Int) : Int := X ^ leN (z0 - p0) * X ^ leN (z1 - p1) * X ^ leN (z2 - p2)
theorem term_s4 (wd p0 p1 p2 c : Int) (q0 : 0 ≤ p0 ∧ p0 < 4) (q1 : 0 ≤ p1 ∧ p1 < 4) (q2 : 0 ≤ p2 ∧ p2 < 4) (hc : 0 ≤ c ∧ c < 64) :
    termF wd p0 p1 p2 (Int.fmod c 4) (Int.fmod (Int.fdiv c 4) 4) (Int.fmod (Int.fdiv c 16) 4) = s4 fun z2 => s4 fun z1 => s4 fun z0 => eR (vC z0 z1 z2 c + 0) * kK (2 ^ wd.toNat) p0 p1 p2 z0 z1 z2 := by
  have m4 : ∀ a : Int, 0 ≤ Int.fmod a 4 ∧ Int.fmod a 4 < 4 := fun a => by rw [fm_em]; (first | lia | omega)
  rw [term_law wd p0 p1 p2 _ _ _ (m4 _) (m4 _) (m4 _), ← tri _ _ _ _ p0 p1 p2 (m4 _) (m4 _) (m4 _) q0 q1 q2]
  have e16 : Int.fmod (Int.fdiv c 16) 4 = Int.fdiv c 16 := by
    rw [fm_em, Int.fdiv_eq_ediv_of_nonneg _ (by decide)]; (first | lia | omega)
  rw [e16]
  refine s4_congr fun z2 => s4_congr fun z1 => s4_congr fun z0 => ?_
  unfold kK vC
  rw [Int.add_zero, Int.mul_assoc, Int.mul_assoc, Int.mul_assoc]
theorem sum_three (F : Int → Int → Int → Int → Int) (C : List Int) : (C.map fun c => s4 fun z2 => s4 fun z1 => s4 fun z0 => F z0 z1 z2 c).sum = s4 fun z2 => s4 fun z1 => s4 fun z0 => (C.map fun c => F z0 z1 z2 c).sum := by
  rw [sum_s4 (fun c z2 => s4 fun z1 => s4 fun z0 => F z0 z1 z2 c)]
  refine s4_congr fun z2 => ?_
  rw [sum_s4 (fun c z1 => s4 fun z0 => F z0 z1 z2 c)]
  refine s4_congr fun z1 => ?_
  rw [sum_s4 (fun c z0 => F z0 z1 z2 c)]
theorem du_place (f0 f1 f2 g0 g1 g2 z0 z1 z2 : Int) (h0 : 0 ≤ z0 ∧ z0 < 4) (h1 : 0 ≤ z1 ∧ z1 < 4) (h2 : 0 ≤ z2 ∧ z2 < 4) :
    Int.fmod (16 * z2 + 4 * z1 + z0) 4 = z0 ∧ Int.fmod (Int.fdiv (16 * z2 + 4 * z1 + z0) 4) 4 = z1 ∧ Int.fdiv (16 * z2 + 4 * z1 + z0) 16 = z2 ∧ Int.fmod (Int.fdiv (16 * z2 + 4 * z1 + z0) 16) 4 = z2 := by
  obtain ⟨e0, e1, e2⟩ := dg3 h0 h1 h2
  rw [show 16 * z2 + 4 * z1 + z0 = z0 + 4 * z1 + 16 * z2 by rw [Int.add_comm, Int.add_comm (16 * z2), Int.add_assoc], fm_em, fm_em, fm_em, Int.fdiv_eq_ediv_of_nonneg _ (by decide), Int.fdiv_eq_ediv_of_nonneg _ (by decide), e0, e1, e2]
  exact ⟨rfl, rfl, rfl, Int.emod_eq_of_lt h2.1 h2.2⟩
theorem du_if (f0 f1 f2 g0 g1 g2 z0 z1 z2 : Int) (h0 : 0 ≤ z0 ∧ z0 < 4) (h1 : 0 ≤ z1 ∧ z1 < 4) (h2 : 0 ≤ z2 ∧ z2 < 4) :
    sumK (codeF f0 f1 f2 g0 g1 g2) (vC z0 z1 z2) 0 = if duTest f0 f1 f2 g0 g1 g2 (16 * z2 + 4 * z1 + z0) = true then ((codeF f0 f1 f2 g0 g1 g2).length : Int) else 0 := by
  obtain ⟨e0, e1, e2, -⟩ := du_place f0 f1 f2 g0 g1 g2 z0 z1 z2 h0 h1 h2
  have ea : ∀ a b c : Int, z0 * a + z1 * b + z2 * c = c * z2 + b * z1 + a * z0 := fun a b c => by
    rw [Int.mul_comm z0, Int.mul_comm z1, Int.mul_comm z2]; (first | lia | omega)
  unfold duTest
  rw [e0, e1, e2, fm_em, fm_em, ea, ea]
  by_cases hf : (f2 * z2 + f1 * z1 + f0 * z0) % 4 = 0
  · by_cases hg : (g2 * z2 + g1 * z1 + g0 * z0) % 4 = 0
    · rw [orth_0 z0 z1 z2 hf hg, hf, hg, if_pos (by decide)]
    · rw [orth_g z0 z1 z2 hg, if_neg (by simp [hg])]
  · rw [orth_f z0 z1 z2 hf, if_neg (by simp [hf])]
theorem far_k (m : Pm) (hm : m.Ok) (X z0 z1 z2 : Int) (h0 : 0 ≤ z0 ∧ z0 < 4) (h1 : 0 ≤ z1 ∧ z1 < 4) (h2 : 0 ≤ z2 ∧ z2 < 4) : X ^ (farF m (16 * z2 + 4 * z1 + z0)).toNat = kK X m.p0 m.p1 m.p2 z0 z1 z2 := by
  obtain ⟨e0, e1, -, e3⟩ := du_place 0 0 0 0 0 0 z0 z1 z2 h0 h1 h2
  unfold farF kK
  rw [e0, e1, e3, far_law z0 z1 z2 m.p0 m.p1 m.p2 h0 h1 h2 hm.p0 hm.p1 hm.p2, Int.toNat_natCast, Int.pow_add, Int.pow_add]
theorem mac_w (m : Pm) (M : Int) (hm : m.Ok) (hM2 : ∀ a ∈ (dualF m.f0 m.f1 m.f2 m.g0 m.g1 m.g2).map (farF m), 0 ≤ a ∧ a ≤ M) (hC : ∀ x ∈ codeF m.f0 m.f1 m.f2 m.g0 m.g1 m.g2, 0 ≤ x ∧ x < 2 ^ 6) :
    totF m (digs 2 (3 * (codeF m.f0 m.f1 m.f2 m.g0 m.g1 m.g2).length) (d2 6 (codeF m.f0 m.f1 m.f2 m.g0 m.g1 m.g2))) (codeF m.f0 m.f1 m.f2 m.g0 m.g1 m.g2).length = d2 m.wd.toNat (countF ((dualF m.f0 m.f1 m.f2 m.g0 m.g1 m.g2).map (farF m)) M) * ((codeF m.f0 m.f1 m.f2 m.g0 m.g1 m.g2).length : Int) := by
  have hl : totF m (digs 2 (3 * (codeF m.f0 m.f1 m.f2 m.g0 m.g1 m.g2).length) (d2 6 (codeF m.f0 m.f1 m.f2 m.g0 m.g1 m.g2))) (codeF m.f0 m.f1 m.f2 m.g0 m.g1 m.g2).length =
      s4 fun z2 => s4 fun z1 => s4 fun z0 => sumK (codeF m.f0 m.f1 m.f2 m.g0 m.g1 m.g2) (vC z0 z1 z2) 0 * kK (2 ^ m.wd.toNat) m.p0 m.p1 m.p2 z0 z1 z2 := by
    rw [digs_rows _ hC, tot_sum m _ _ (Nat.le_refl _), List.take_length, List.map_congr_left (fun c hc => term_s4 m.wd m.p0 m.p1 m.p2 c hm.p0 hm.p1 hm.p2 (hC c hc)), sum_three (fun z0 z1 z2 c => eR (vC z0 z1 z2 c + 0) * kK (2 ^ m.wd.toNat) m.p0 m.p1 m.p2 z0 z1 z2)]
    refine s4_congr fun z2 => s4_congr fun z1 => s4_congr fun z0 => ?_
    rw [sum_mul (fun c => eR (vC z0 z1 z2 c + 0))]
    rfl
  have hr : d2 m.wd.toNat (countF ((dualF m.f0 m.f1 m.f2 m.g0 m.g1 m.g2).map (farF m)) M) =
      s4 fun z2 => s4 fun z1 => s4 fun z0 => if duTest m.f0 m.f1 m.f2 m.g0 m.g1 m.g2 (16 * z2 + 4 * z1 + z0) = true then kK (2 ^ m.wd.toNat) m.p0 m.p1 m.p2 z0 z1 z2 else 0 := by
    show pH m.wd.toNat (M + 1).toNat _ = _
    rw [pH_count _ _ _ fun e he => by have := hM2 e he; (first | lia | omega)]
    rw [List.map_map]
    show (((duF m.f0 m.f1 m.f2 m.g0 m.g1 m.g2 64).map fun x => ((2 : Int) ^ m.wd.toNat) ^ (farF m x).toNat)).sum = _
    rw [du_sum, to_64]
    refine s4_congr4 fun z2 h2 => s4_congr4 fun z1 h1 => s4_congr4 fun z0 h0 => ?_
    rw [far_k m hm _ z0 z1 z2 h0 h1 h2]
  rw [hl, hr, ← s4_mul]
  refine s4_congr4 fun z2 h2 => ?_
  rw [← s4_mul]
  refine s4_congr4 fun z1 h1 => ?_
  rw [← s4_mul]
  refine s4_congr4 fun z0 h0 => ?_
  rw [du_if _ _ _ _ _ _ z0 z1 z2 h0 h1 h2]
  split
  · rw [Int.mul_comm]
  · rw [Int.zero_mul, Int.zero_mul]

end
section --Sgb

theorem segb (w : World) (m : Pm) (C K : List Int) (Tt : Int) (hm : m.Ok) (hC : CodeOk C) (hK : ∀ x ∈ K, 0 ≤ x ∧ x < 2 ^ m.wd.toNat) (hKl : 0 < K.length ∧ K.length ≤ 7) (hKt : 0 < K.getD (K.length - 1) 0) (hT : Tt = d2 m.wd.toNat K * (C.length : Int)) (hT2 : Tt < 2 ^ 100) :
    Seg w 21 3 (PreI m C K Tt) (fun _ _ _ _ => False) := by
  have hl16 : C.length ≤ 16 := hC.len.2
  have hl1 : 1 ≤ C.length := hC.len.1
  have hw1 := hm.wd.1
  have hw2 := hm.wd.2
  obtain ⟨Wd, hW⟩ : ∃ Wd : Nat, m.wd = (Wd : Int) := ⟨m.wd.toNat, by omega⟩
  rw [hW, Int.toNat_natCast] at hK hT
  obtain ⟨hmo, hpos⟩ := mOf_d2 (n := Wd) (by omega) hK hKl.1 hKt
  have hTp : 0 < Tt := by rw [hT]; exact Int.mul_pos hpos (by omega)
  have hq : Tt.fdiv (C.length : Int) = d2 Wd K ∧ Tt.fmod (C.length : Int) = 0 := by
    rw [hT, Int.fdiv_eq_ediv_of_nonneg _ (by omega), Int.fmod_eq_emod_of_nonneg _ (by omega)]
    exact ⟨Int.mul_ediv_cancel _ (by omega), Int.mul_emod_left _ _⟩
  have hWn : Wd * K.length ≤ 200 := Nat.le_trans (Nat.mul_le_mul (show Wd ≤ 12 by omega) hKl.2) (by decide)
  have hlt : d2 Wd K < 2 ^ 180 := pow_small' (d2_bnd Wd K hK).2 (Nat.le_trans (Nat.mul_le_mul (show Wd ≤ 12 by omega) hKl.2) (by decide))
  unfold PreI
  rw [hW]
  generalize hV : d2 Wd K = V at *
  w_top off; intro p loose mean mg mb dp un gd outer A₀ base h₀ L' fa ccd s h tk led pl u B X T hdp hun h83 F N hpre; revert X; k_fill; intro X; dsimp only [in179, List.drop, List.take]
  obtain ⟨lq, vq, kq, lc, vc, kc, tw, tt, cI, oI, cD, oD, wI, xI, wD, xD, hIq, hIc, x3', x4', x3, x4, hap⟩ := hpre
  have hap0 := hap; (repeat (obtain ⟨zz, hap⟩ := hap; dsimp only at zz)); (try clear hap)
  (try dsimp only); (try k_fold); refine wp_gen ?_; intro Qz hQz
  (k_with "@call ref" => (fail_if_success (k_extra "Sgb off"));  (first
    | ((with_reducible show wpAny _ _ (call (Value.ref 102) _) _ _ _); (refine' Spec.use (divmod_spec w _ _ cI cD _ _ ⟨hTp, hT2⟩ ⟨by omega, by omega⟩) ?k1 ?k2 ?k3 ?k4 ?k5 ?kK ?kd ?ku ⟨⟨oI, wI, xI, News.get (by k_asm) (by k_mem), News.get (by k_asm) (by k_mem), x3', x4'⟩, ⟨oD, wD, xD, News.get (by k_asm) (by k_mem), News.get (by k_asm) (by k_mem), x3, x4⟩⟩ ?_); walk_at "my prem"; intro r9 h9 tk9 F9 N9 g9; rw [hq.1, hq.2] at g9; obtain ⟨l9, t9, t9', k9, e9, g8, g7⟩ := g9; subst e9; (have N8 := news_add (by k_asm) (by k_asm) N9 g8 g7); clear N9; obtain ⟨N9, o9⟩ := N8; clear g8 g7; (try dsimp only); (try k_fold))
    | ((with_reducible show wpAny _ _ (call (Value.ref 88) _) _ _ _); (refine' Spec.use (dig_hit w lq cD vq K kq Wd _ hIq hWn (by omega) hKl.1 hK) ?k1 ?k2 ?k3 ?k4 ?k5 ?kK ?kd ?ku ⟨News.get (by k_asm) (by k_mem), oD, wD, xD, News.get (by k_asm) (by k_mem), News.get (by k_asm) (by k_mem), x3, x4⟩ ?_); walk_at "my prem"; intro r9 h9 tk9 F9 N9 g9; rw [hV] at g9; obtain ⟨t9, e9⟩ := g9; subst e9; (try dsimp only); (try k_fold))
    | ((with_reducible show wpAny _ _ (call (Value.ref 81) _) _ _ _); (refine' Spec.use (int_hit w V Wd cI _ _ hpos hlt ⟨by omega, by omega⟩) ?k1 ?k2 ?k3 ?k4 ?k5 ?kK ?kd ?ku ⟨oI, wI, xI, News.get (by k_asm) (by k_mem), News.get (by k_asm) (by k_mem), x3', x4'⟩ ?_); walk_at "my prem"; intro r9 h9 tk9 F9 N9 g9; obtain ⟨l9, vs9, k9, e9, g8, g7, i9⟩ := g9; subst e9; (have N8 := news_add (by k_asm) (by k_asm) N9 g8 g7); clear N9; obtain ⟨N9, o9⟩ := N8; clear g8 g7; rw [hmo, ← hV, digs_d2 Wd K hK] at i9; (try dsimp only); (try k_fold))))
  (k_with "@compareOp Eq ref ref" => (fail_if_success (k_extra "Sgb off"));  (refine eq_same (News.isList (by k_asm) (by k_mem)) i9 (News.isList (by k_asm) (by k_mem)) hIq (by ktr_units) ?_))
  k_steps
  · exact absurd rfl (by assumption : V ≠ V)
  · (rename Fr _ _ _ _ => lF'); (rename News _ _ _ _ => lN')
    (try subst hQz)
    exact ⟨rfl, ⟨GrownAt.of lN' (by k_mem), GrownAt.of lN' (by k_mem), trivial⟩, _, _, _, rfl, lF'⟩
theorem off_Sgb : True := by
  (k_with "Sgb off" => skip)
  exact True.intro

end
section --Fin

theorem tot_lt (wd l : Nat) (K : List Int) (hw : wd ≤ 12) (hK : ∀ x ∈ K, 0 ≤ x ∧ x < 2 ^ wd) (hl : K.length ≤ 7) (hc : l ≤ 16) : d2 wd K * (l : Int) < 2 ^ 100 := by
  have h1 := (d2_bnd wd K hK)
  have h2 : (2 : Int) ^ (wd * K.length) ≤ 2 ^ 84 := by
    have := Nat.pow_le_pow_right (show 0 < 2 by decide) (Nat.mul_le_mul hw hl)
    exact_mod_cast this
  have h3 : d2 wd K * (l : Int) ≤ 2 ^ 84 * 16 := Int.mul_le_mul (by omega) (by omega) (by omega) (by decide)
  exact Int.lt_of_le_of_lt h3 (by decide)
theorem rest_w (w : World) (m : Pm) (hm : m.Ok) : Seg w 6 18 (PreA m) (fun _ _ _ _ => False) := by
  have hC := code_ok m hm
  obtain ⟨hD, hD1, hDl⟩ := dual_ok m hm
  have hmac := fun M h => mac_w m M hm h hC.rng
  have S2 := seg2 w m hm
  generalize codeF m.f0 m.f1 m.f2 m.g0 m.g1 m.g2 = C at *
  generalize dualF m.f0 m.f1 m.f2 m.g0 m.g1 m.g2 = D at *
  have hE : ∀ x ∈ D.map (farF m), 0 ≤ x ∧ x ≤ 6 := fun x hx => by
    obtain ⟨y, hy, rfl⟩ := List.mem_map.mp hx
    exact far_ok m y hm (hD y hy)
  have hEl : (D.map (farF m)).length = D.length := List.length_map ..
  have Sb : Seg w 21 3 (fun L h₀ led pl => ∃ M, (M ∈ D.map (farF m) ∧ ∀ a ∈ D.map (farF m), a ≤ M) ∧ PreI m C (countF (D.map (farF m)) M) (totF m (digs 2 (3 * C.length) (d2 6 C)) C.length) L h₀ led pl) (fun _ _ _ _ => False) :=
    Seg.each fun M ⟨hM, hM2⟩ => by
      obtain ⟨c1, c2, c3⟩ := count_ok m _ M hm hE (by rw [hEl]; exact hDl) hM
      have e := hmac M fun a ha => ⟨(hE a ha).1, hM2 a ha⟩
      have hwd : m.wd.toNat ≤ 12 := by have := hm.wd.2; omega
      exact segb w m C _ _ hm hC c1 c2 c3 e (by rw [e]; exact tot_lt _ _ _ hwd c1 c2.2 hC.len.2)
  have Sa := sega w m C D (D.map (farF m)) (totF m (digs 2 (3 * C.length) (d2 6 C)) C.length) hm hE (by rw [hEl]; exact ⟨hD1, hDl⟩)
  rw [hEl] at Sa
  exact S2.comp ((seg3 w m C D hm hC).comp ((seg4 w m C D hm hC).comp ((seg5 w m C D hm hC).comp ((seg6 w m C D hm hC).comp ((seg7 w m C D hm hC).comp ((seg8 w m C D hm hC).comp ((seg9 w m C D _ _ hm hD hDl).comp (Sa.comp Sb))))))))
theorem law_w (w : World) (sl : Addr) (vs : List Value) (ns : List Int) : Seg w 0 24 (Pre0 sl vs ns) (fun _ _ _ _ => False) :=
  (seg0 w sl vs ns).comp ((seg1 w).comp (Seg.each fun m hm => rest_w w m hm))

end
section --Lw2

theorem law_go : PySem.Challenge.rw_us0023_01.Holds := Mine.hd (by
  k_go0
  all_goals try k_fold
  (rename News _ _ _ _ => nN)
  (rename Fr _ _ _ _ => fF)
  (rename Below _ _ _ _ => bB)
  (rename Top _ _ _ _ _ _ => tT)
  (rename Frag.In _ _ => xX)
  (rename Heap.IsList _ _ _ => lL)
  (rename IntsAre _ _ => iI)
  (rename @LT.lt Nat _ _ _ ∧ _ => l0)
  (rename (¬ (_ : Int) < _) => hc63)
  refine wpAny_mono (Seg.whole (law_w _ _ _ _) (by rfl) (fun _ _ _ _ h => h) bB xX tT (by decide) (by decide) l0.1 fF nN ?hm ⟨_, _, _, _, _, _, rfl, rfl, by assumption, by assumption, by assumption, lL, iI, ?hl⟩) ?q1 ?q2
  case hm => exact ⟨rfl, trivial⟩
  case hl => omega
  case q2 => exact fun _ _ h => h.elim
  case q1 =>
    rintro f s' ⟨rfl, hg, h2, tk2, m2, rfl, F2⟩
    refine ⟨?_, hg⟩
    refine goodW_bool F2 (by assumption) (raisesW_false ?_) ?_
    · wrow_none_raised
    · first | kc_post | wrow_post)

end
end
end
end Mine
theorem PySem.Challenge.cw_us0023_01_holds : PySem.Challenge.rw_us0023_01.Holds := by
  exact Mine.law_go
