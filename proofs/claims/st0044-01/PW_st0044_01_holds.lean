import PyProof.Rows.All
import Wide.All
import OpenK.AllK
import Wide.FinOn
import Lean
import PySem.Challenge.RW_st0044_01
set_option Elab.async false
open PySem PySem.W PyProof.Rows in
local macro_rules | `(tactic| walk_at "W") => `(tactic| (first | (k_unfold; (try dsimp only)) | (k_end; wrow_close) | walk1 | (dsimp only; walk1) | (leave1; try dsimp only)))
section
open PySem PySem.W PyProof.Rows
namespace Mine

inductive Goes (p : Program) (w : World) (n₀ : Nat) {α : Type} : Nat → Shared → Pos → Sem α → α → Shared → Pos → Prop
  | pure {s : Shared} {q : Pos} {a : α} : Goes p w n₀ 0 s q (.pure a) a s q
  | rule {n : Nat} {s : Shared} {q : Pos} {t : String} {k : Unit → Sem α} {a : α} {s' : Shared} {q' : Pos} : Goes p w n₀ n s q (k ()) a s' q' → Goes p w n₀ (n + 1) s q (.rule t k) a s' q'
  | at {n : Nat} {s : Shared} {q r : Pos} {k : Unit → Sem α} {a : α} {s' : Shared} {q' : Pos} : Goes p w n₀ n s r (k ()) a s' q' → Goes p w n₀ (n + 1) s q (.at r k) a s' q'
  | load {n : Nat} {s : Shared} {q : Pos} {x : Addr} {part : Option Value} {o : Obj} {k : Obj → Sem α} {a : α} {s' : Shared} {q' : Pos} : s.heap.get? x = some o → Goes p w n₀ n s q (k o) a s' q' → Goes p w n₀ (n + 1) s q (.load x part k) a s' q'
  | update {n : Nat} {s : Shared} {q : Pos} {x : Addr} {part : Option Value} {f : Obj → Obj} {k : Unit → Sem α} {a : α} {s' : Shared} {q' : Pos} : (s.heap.get? x).isSome = true → Nat.ble n₀ x = true →
      Goes p w n₀ n { s with heap := s.heap.update x f } q (k ()) a s' q' → Goes p w n₀ (n + 1) s q (.update x part f k) a s' q'
  | alloc {n : Nat} {s : Shared} {q : Pos} {o : Obj} {k : Addr → Sem α} {a : α} {s' : Shared} {q' : Pos} : Goes p w n₀ n { s with heap := s.heap.push o } q (k s.heap.objs.size) a s' q' → Goes p w n₀ (n + 1) s q (.alloc o k) a s' q'
  | point {n : Nat} {s : Shared} {q : Pos} {l : List Value} {k : Unit → Sem α} {a : α} {s' : Shared} {q' : Pos} : Goes p w n₀ n s q (k ()) a s' q' → Goes p w n₀ (n + 1) s q (.point l k) a s' q'
  | fresh {n : Nat} {s : Shared} {q : Pos} {k : Tok → Sem α} {a : α} {s' : Shared} {q' : Pos} : Goes p w n₀ n { s with toks := s.toks + 1 } q (k s.toks) a s' q' → Goes p w n₀ (n + 1) s q (.fresh k) a s' q'
  | ask {n : Nat} {s : Shared} {q : Pos} {k : Setting → Sem α} {a : α} {s' : Shared} {q' : Pos} : Goes p w n₀ n s q (k ⟨p, w.params⟩) a s' q' → Goes p w n₀ (n + 1) s q (.ask k) a s' q'
  | hash {n : Nat} {s : Shared} {q : Pos} {i : Int} {t : Tok} {hd : Option Value} {g : Bool} {l : List Value} {k : Result → Sem α} {a : α} {s' : Shared} {q' : Pos} :
      Goes p w n₀ n { s with toks := s.toks + 1 } q (k (.ok (.ret (.int (rawHash i) s.toks)))) a s' q' → Goes p w n₀ (n + 4) s q (.call (.call (.builtin "int.__hash__") ⟨[.int i t], []⟩) hd g l k) a s' q'

theorem den_hash1 (i : Int) (t : Tok) : denote treeTable (.call (.builtin "int.__hash__") ⟨[.int i t], []⟩) = .pure (.again (.builtin "int.__hash__" ⟨[.int i t], []⟩)) := by kernel_rfl!
theorem den_hash2 (i : Int) (t : Tok) : denote treeTable (.builtin "int.__hash__" ⟨[.int i t], []⟩) = .fresh (fun u => .pure (.done (.ret (.int (rawHash i) u)))) := by kernel_rfl!

section
variable {p : Program} {w : World} {n₀ : Nat} {ann : Option Value}
theorem top_step {N : Nat} {s s' r : Shared} {t t' : Thread} (h1 : through t = false) (h2 : stepOk n₀ ann t = true) (h3 : step (denote treeTable) p w s t = .go s' t')
    (h : topRun treeTable p w n₀ ann N s' t' = some r) : topRun treeTable p w n₀ ann (N + 1) s t = some r := by
  unfold topRun
  rw [h1, h2, h3]
  exact h

theorem Goes.top {α : Type} {n : Nat} {s : Shared} {q : Pos} {m : Sem α} {a : α} {s' : Shared} {q' : Pos} (h : Goes p w n₀ n s q m a s' q') :
    ∀ (K : α → Sem Fin) (H : Value → Sem Fin) (gd : Bool → Bool) (lv : List Value → List Value) (code : Code) (q0 : Pos) (N : Nat) (r : Shared),
      topRun treeTable p w n₀ ann N s' ⟨K a, code, q', [topFrame q0]⟩ = some r → topRun treeTable p w n₀ ann (n + N) s ⟨m.wrap K H gd lv, code, q, [topFrame q0]⟩ = some r := by
  induction h with
  | pure => intro K H gd lv code q0 N r hr; rw [Nat.zero_add]; exact hr
  | rule _ ih => intro K H gd lv code q0 N r hr; rw [Nat.add_right_comm]; exact top_step rfl rfl rfl (ih K H gd lv code q0 N r hr)
  | «at» _ ih => intro K H gd lv code q0 N r hr; rw [Nat.add_right_comm]; exact top_step rfl rfl rfl (ih K H gd lv code q0 N r hr)
  | point _ ih => intro K H gd lv code q0 N r hr; rw [Nat.add_right_comm]; exact top_step rfl rfl rfl (ih K H gd lv code q0 N r hr)
  | ask _ ih => intro K H gd lv code q0 N r hr; rw [Nat.add_right_comm]; exact top_step rfl rfl rfl (ih K H gd lv code q0 N r hr)
  | fresh _ ih => intro K H gd lv code q0 N r hr; rw [Nat.add_right_comm]; exact top_step rfl rfl rfl (ih K H gd lv code q0 N r hr)
  | alloc _ ih => intro K H gd lv code q0 N r hr; rw [Nat.add_right_comm]; exact top_step rfl rfl rfl (ih K H gd lv code q0 N r hr)
  | @load n s q x part o k a s' q' ho _ ih =>
    intro K H gd lv code q0 N r hr
    rw [Nat.add_right_comm]
    refine top_step rfl rfl ?_ (ih K H gd lv code q0 N r hr)
    show step (denote treeTable) p w s ⟨.load x part fun o => (k o).wrap K H gd lv, code, q, _⟩ = _
    obtain ⟨heap, gens, drawn, toks, os⟩ := s
    simp only [step]
    rw [show heap.get? x = some o from ho]
  | @update n s q x part f k a s' q' ho hn _ ih =>
    intro K H gd lv code q0 N r hr
    rw [Nat.add_right_comm]
    refine top_step rfl ?_ ?_ (ih K H gd lv code q0 N r hr)
    · show (true && (Nat.ble n₀ x || x == mainNs || x == cStatics || ann == some (.ref x))) = true
      rw [hn]; rfl
    · show step (denote treeTable) p w s ⟨.update x part f fun o => (k o).wrap K H gd lv, code, q, _⟩ = _
      obtain ⟨heap, gens, drawn, toks, os⟩ := s
      simp only [step]
      rw [if_pos (show (heap.get? x).isSome = true from ho)]
  | @hash n s q i t hd g l k a s' q' _ ih =>
    intro K H gd lv code q0 N r hr
    rw [show n + 4 + N = (n + N) + 1 + 1 + 1 + 1 by omega]
    refine top_step rfl rfl rfl ?_
    rw [den_hash1]
    refine top_step rfl ?_ rfl ?_
    · kernel_rfl!
    rw [den_hash2]
    refine top_step rfl rfl rfl ?_
    refine top_step rfl rfl rfl ?_
    exact ih K H gd lv code q0 N r hr
end
end Mine
end

section
open PySem PySem.W PyProof.Rows
namespace Mine
section
variable {p : Program} {w : World} {n₀ : Nat}
theorem Goes.wrap {α β : Type} {n n' : Nat} {s s' s'' : Shared} {q q' q'' : Pos} {m : Sem α} {a : α} {b : β} {K : α → Sem β} {H : Value → Sem β} {gd : Bool → Bool} {lv : List Value → List Value}
    (h : Goes p w n₀ n s q m a s' q') (k : Goes p w n₀ n' s' q' (K a) b s'' q'') : Goes p w n₀ (n + n') s q (m.wrap K H gd lv) b s'' q'' := by
  induction h with
  | pure => rw [Nat.zero_add]; exact k
  | rule _ ih => rw [Nat.add_right_comm]; exact .rule (ih k)
  | «at» _ ih => rw [Nat.add_right_comm]; exact .at (ih k)
  | point _ ih => rw [Nat.add_right_comm]; exact .point (ih k)
  | ask _ ih => rw [Nat.add_right_comm]; exact .ask (ih k)
  | fresh _ ih => rw [Nat.add_right_comm]; exact .fresh (ih k)
  | alloc _ ih => rw [Nat.add_right_comm]; exact .alloc (ih k)
  | load ho _ ih => rw [Nat.add_right_comm]; exact .load ho (ih k)
  | update ho hn _ ih => rw [Nat.add_right_comm]; exact .update ho hn (ih k)
  | hash _ ih => rw [Nat.add_right_comm]; exact .hash (ih k)
theorem Goes.bind {α β : Type} {n n' : Nat} {s s' s'' : Shared} {q q' q'' : Pos} {m : Sem α} {a : α} {b : β} {f : α → Sem β}
    (h : Goes p w n₀ n s q m a s' q') (k : Goes p w n₀ n' s' q' (f a) b s'' q'') : Goes p w n₀ (n + n') s q (m >>= f) b s'' q'' := by
  rw [Sem.bind_eq_wrap']; exact h.wrap k
theorem Goes.pure_ {α : Type} {s : Shared} {q : Pos} {a : α} : Goes p w n₀ 0 s q (Pure.pure a) a s q := .pure
theorem Goes.keep {α : Type} {n : Nat} {s s' : Shared} {q q' : Pos} {m : Sem α} {a : α} (vs : List Value) (h : Goes p w n₀ n s q m a s' q') : Goes p w n₀ n s q (m.keep vs) a s' q' := by
  rw [Sem.keep_eq_wrap]; exact h.wrap .pure
theorem Goes.holding {α : Type} {n : Nat} {s s' : Shared} {q q' : Pos} {m : Sem α} {a : α} (vs : List Value) (h : Goes p w n₀ n s q m a s' q') : Goes p w n₀ n s q (PySem.holding vs m) a s' q' := by
  unfold PySem.holding
  split
  · exact h
  · exact h.keep _
theorem Goes.catch {α : Type} {n : Nat} {s s' : Shared} {q q' : Pos} {m : Sem α} {a : α} (k : Value → Sem α) (h : Goes p w n₀ n s q m a s' q') : Goes p w n₀ n s q (m.tryCatch k) a s' q' := by
  rw [Sem.tryCatch_eq_wrap]; exact h.wrap .pure
theorem Goes.onRaise {α : Type} {n : Nat} {s s' : Shared} {q q' : Pos} {m : Sem α} {a : α} (k : Value → Sem Unit) (h : Goes p w n₀ n s q m a s' q') : Goes p w n₀ n s q (m.onRaise k) a s' q' := by
  rw [Sem.onRaise_eq_wrap]; exact h.wrap .pure
theorem Goes.cast {α : Type} {n n' : Nat} {s s' : Shared} {q q' : Pos} {m : Sem α} {a : α} (h : Goes p w n₀ n s q m a s' q') (e : n = n') : Goes p w n₀ n' s q m a s' q' := e ▸ h
theorem Goes.of {α : Type} {n : Nat} {s s' : Shared} {q q' : Pos} {m m' : Sem α} {a : α} (e : m' = m) (h : Goes p w n₀ n s q m a s' q') : Goes p w n₀ n s q m' a s' q' := e ▸ h

theorem specialOf_int (i : Int) (t : Tok) : specialOf (.int i t) "__hash__" = pure (some (.builtin "int.__hash__")) := by
  show (pure (Value.type "int") >>= fun v => typeLookup v "__hash__") = _
  rw [pure_bind]
  exact slot_int_hash.lookup

theorem goes_call_hash {s : Shared} {q : Pos} (i : Int) (t : Tok) : Goes p w n₀ 4 s q (call (.builtin "int.__hash__") [.int i t]) (.int (rawHash i) s.toks) { s with toks := s.toks + 1 } q := by
  exact Goes.hash (hd := none) (g := false) (l := []) .pure
theorem goes_bindSpecial {s : Shared} {q : Pos} (i : Int) (t : Tok) : Goes p w n₀ 1 s q (bindSpecialIfBound? (.int i t) "__hash__") (some (.builtin "int.__hash__", [.int i t])) s q := by
  unfold bindSpecialIfBound?
  rw [specialOf_int]
  simp only [pure_bind, slot_int_hash.bind]
  refine Goes.bind (n := 1) (n' := 0) (.ask .pure) ?_
  split
  · exact .pure
  · exact Goes.catch _ .pure
theorem goes_callSpecial {s : Shared} {q : Pos} (i : Int) (t : Tok) (refuse : Sem Value) : Goes p w n₀ 5 s q (callSpecialIfBoundUnlessNone? (.int i t) "__hash__" refuse) (some (.int (rawHash i) s.toks)) { s with toks := s.toks + 1 } q := by
  unfold callSpecialIfBoundUnlessNone?
  refine Goes.holding _ ?_
  refine (Goes.bind (n := 1) (n' := 4) (goes_bindSpecial i t) ?_)
  dsimp only
  rw [if_neg (by rw [builtin_beq_none]; exact Bool.false_ne_true)]
  exact Goes.bind (n := 4) (n' := 0) (goes_call_hash i t) .pure
theorem goes_pyHash {s : Shared} {q : Pos} (i : Int) (t : Tok) : Goes p w n₀ 5 s q (pyHash (.int i t)) (hashInt i) { s with toks := s.toks + 1 } q := by
  have hr := rawHash_range i
  show Goes p w n₀ 5 s q (pyHashByItsType (.int i t)) _ _ _
  unfold pyHashByItsType
  have hv : [Value.int i t].any Value.onHeap = false := rfl
  rw [cRoomFor, if_neg (by rw [hv]; exact Bool.false_ne_true), specialOf_int]
  simp only [pure_bind]
  rw [if_neg (by rw [beq_builtin_none]; exact Bool.false_ne_true), if_neg (by simp)]
  refine Goes.bind (n := 5) (n' := 0) (goes_callSpecial i t _) ?_
  dsimp only
  unfold pyHashByItsType.reduced
  rw [if_pos (by rw [decide_eq_true hr.1, decide_eq_true hr.2]; rfl)]
  exact .pure

theorem goes_entries {s : Shared} {q : Pos} {d : Addr} {part : Option Value} {o : Obj} {es : Array DictEntry} {n : Nat} (ho : s.heap.get? d = some o) (hd : o.data = .dict es n) : Goes p w n₀ 1 s q (dictEntries d part) es s q := by
  unfold dictEntries
  refine Goes.bind (n := 1) (n' := 0) (.load ho .pure) ?_
  rw [hd]; exact .pure
theorem goes_epoch {s : Shared} {q : Pos} {d : Addr} {part : Option Value} {o : Obj} {es : Array DictEntry} {n : Nat} (ho : s.heap.get? d = some o) (hd : o.data = .dict es n) : Goes p w n₀ 1 s q (dictEpoch d part) n s q := by
  unfold dictEpoch
  refine Goes.bind (n := 1) (n' := 0) (.load ho .pure) ?_
  rw [hd]; exact .pure
theorem places_nil {es : Array DictEntry} {h : Int} (hne : ∀ e ∈ es, e.hash ≠ h) : placesWithHash es.size (fun i => es[i]?.map (·.hash)) h = [] := by
  unfold placesWithHash
  rw [List.filter_eq_nil_iff]
  intro i hi
  have hi' := List.mem_range.mp hi
  have := hne _ (Array.getElem_mem hi')
  simpa [Array.getElem?_eq_getElem hi'] using this
theorem goes_find {s : Shared} {q : Pos} {d : Addr} {o : Obj} {es : Array DictEntry} {n : Nat} (i : Int) (t : Tok) (h : Int) (ho : s.heap.get? d = some o) (hd : o.data = .dict es n) (hne : ∀ e ∈ es, e.hash ≠ h) :
    Goes p w n₀ 1 s q (dictFind d (.int i t) h) none s q := by
  unfold dictFind
  refine Goes.holding _ ?_
  refine Goes.bind (n := 1) (n' := 0) (goes_entries ho hd) ?_
  dsimp only
  rw [places_nil hne]
  exact .pure
theorem goes_push {s : Shared} {q : Pos} {d : Addr} {part : Option Value} {c : Value} {dd : Option Addr} {sl : Array (Option Value)} {es : Array DictEntry} {n : Nat} (e : DictEntry) (ho : s.heap.get? d = some ⟨c, dd, .dict es n, sl⟩) (hn : Nat.ble n₀ d = true) (hz : es.size < sizeLine)
    (hg : (s.heap.update d (Obj.mapDictKeys (·.push e))).get? d = some ⟨c, dd, .dict (es.push e) (n + 1), sl⟩) :
    Goes p w n₀ 3 s q (updateDictKeys d (·.push e) part) () { s with heap := s.heap.update d (Obj.mapDictKeys (·.push e)) } q := by
  unfold updateDictKeys
  refine Goes.bind (n := 1) (n' := 2) (.load ho .pure) ?_
  dsimp only
  refine Goes.bind (n := 1) (n' := 1) (.update (by rw [ho]; rfl) hn .pure) ?_
  unfold lookBehind
  refine Goes.bind (n := 1) (n' := 0) (.load hg .pure) ?_
  dsimp only
  rw [pastItsLine_dict (by rw [Array.size_push]; omega)]
  exact .pure
end
end Mine
end

section
open PySem PySem.W PyProof.Rows
namespace Mine
def dictO (es : List DictEntry) (n : Nat) : Obj := ⟨.type "dict", none, .dict es.toArray n, #[]⟩
def app (h : Heap) (l : List Obj) : Heap := ⟨h.objs ++ l.toArray, h.life⟩
theorem app_nil (h : Heap) : app h [] = h := by obtain ⟨o, l⟩ := h; simp [app]
theorem app_push (h : Heap) (l : List Obj) (o : Obj) : (app h l).push o = app h (l ++ [o]) := by simp [app, Heap.push]
theorem app_size (h : Heap) (l : List Obj) : (app h l).objs.size = h.objs.size + l.length := by simp [app]
theorem app_get (h : Heap) (l1 l2 : List Obj) (es : List DictEntry) (n : Nat) : (app h (l1 ++ dictO es n :: l2)).get? (h.objs.size + l1.length) = some (dictO es n) := by
  unfold Heap.get?
  have : (app h (l1 ++ dictO es n :: l2)).objs[h.objs.size + l1.length]? = some (dictO es n) := by
    simp [app, Array.getElem?_append_right]
  rw [this]; rfl
theorem modify_at {α : Type} (f : α → α) (o : α) (post : List α) : ∀ pre : List α, (pre ++ o :: post).modify pre.length f = pre ++ f o :: post
  | [] => by simp
  | x :: pre => by simpa using modify_at f o post pre
theorem app_update (h : Heap) (l1 l2 : List Obj) (o : Obj) (f : Obj → Obj) : (app h (l1 ++ o :: l2)).update (h.objs.size + l1.length) f = app h (l1 ++ f o :: l2) := by
  unfold Heap.update app
  dsimp only
  congr 1
  apply Array.ext'
  have := modify_at f o l2 (h.objs.toList ++ l1)
  rw [List.length_append, Array.length_toList] at this
  simpa using this

section
variable {p : Program} {w : World} {n₀ : Nat}
theorem goes_dictSet {h : Heap} {s : Shared} {q : Pos} {l1 l2 : List Obj} {es : List DictEntry} {n : Nat} (i : Int) (t : Tok) (v : Value) (hs : s.heap = app h (l1 ++ dictO es n :: l2)) (hn : n₀ ≤ h.objs.size) (hz : es.length < 1000) (hne : ∀ e ∈ es, e.hash ≠ hashInt i) :
    Goes p w n₀ 10 s q (dictSet (h.objs.size + l1.length) (.int i t) v) () { s with heap := app h (l1 ++ dictO (es ++ [⟨hashInt i, .int i t, v⟩]) (n + 1) :: l2), toks := s.toks + 1 } q := by
  have hg : s.heap.get? (h.objs.size + l1.length) = some (dictO es n) := by rw [hs]; exact app_get ..
  have hu : s.heap.update (h.objs.size + l1.length) (Obj.mapDictKeys (·.push ⟨hashInt i, .int i t, v⟩)) = app h (l1 ++ dictO (es ++ [⟨hashInt i, .int i t, v⟩]) (n + 1) :: l2) := by
    rw [hs, app_update]
    simp [dictO, Obj.mapDictKeys]
  unfold dictSet
  refine Goes.holding _ ?_
  refine Goes.bind (n := 5) (n' := 5) (goes_pyHash i t) ?_
  unfold dictSetHashed
  refine Goes.holding _ ?_
  refine Goes.bind (n := 1) (n' := 4) (goes_find i t _ (o := dictO es n) hg rfl (by simpa using hne)) ?_
  dsimp only
  refine Goes.bind (n := 1) (n' := 3) (.rule .pure) ?_
  have := goes_push (p := p) (w := w) (n₀ := n₀) (q := q) (part := keyPart (.int i t)) (s := { s with toks := s.toks + 1 }) ⟨hashInt i, .int i t, v⟩ (show s.heap.get? _ = some ⟨.type "dict", none, .dict es.toArray n, #[]⟩ from hg)
    (Nat.ble_eq_true_of_le (Nat.le_trans hn (Nat.le_add_right ..))) (by rw [List.size_toArray, sizeLine_eq]; omega) (by
      show (s.heap.update _ _).get? _ = _
      rw [hu, app_get]
      simp [dictO])
  rw [show ({ s with toks := s.toks + 1 } : Shared).heap.update (h.objs.size + l1.length) (Obj.mapDictKeys (·.push ⟨hashInt i, .int i t, v⟩)) = _ from hu] at this
  exact this
end
end Mine
end

section
open PySem PySem.W PyProof.Rows
namespace Mine
def longEs (T : Nat) : List (Int × Str) → List DictEntry
  | [] => []
  | d :: r => ⟨hashInt d.1, .int d.1 T, .str d.2 (T + 1)⟩ :: longEs (T + 3) r
theorem longEs_length (T : Nat) (ds : List (Int × Str)) : (longEs T ds).length = ds.length := by
  induction ds generalizing T with
  | nil => rfl
  | cons d r ih => simp [longEs, ih]
theorem longEs_hash (T : Nat) (ds : List (Int × Str)) : (longEs T ds).map (·.hash) = ds.map fun d => hashInt d.1 := by
  induction ds generalizing T with
  | nil => rfl
  | cons d r ih => simp [longEs, ih]
def shortVs (T : Nat) : List (Int × Str) → List (Value × Value)
  | [] => []
  | d :: r => (.int d.1 T, .str d.2 (T + 1)) :: shortVs (T + 2) r
def shortEs (T : Nat) : List (Int × Str) → List DictEntry
  | [] => []
  | d :: r => ⟨hashInt d.1, .int d.1 T, .str d.2 (T + 1)⟩ :: shortEs (T + 2) r
theorem shortEs_length (T : Nat) (ds : List (Int × Str)) : (shortEs T ds).length = ds.length := by
  induction ds generalizing T with
  | nil => rfl
  | cons d r ih => simp [shortEs, ih]
theorem shortEs_hash (T : Nat) (ds : List (Int × Str)) : (shortEs T ds).map (·.hash) = ds.map fun d => hashInt d.1 := by
  induction ds generalizing T with
  | nil => rfl
  | cons d r ih => simp [shortEs, ih]

section
variable {p : Program} {w : World} {n₀ : Nat} {z : Pos}
def IsPair (p : Program) (w : World) (n₀ : Nat) (z : Pos) (pr : Sem Value × Sem Value) (d : Int × Str) : Prop :=
  (∀ s, Goes p w n₀ 1 s z pr.1 (.int d.1 s.toks) { s with toks := s.toks + 1 } z) ∧ ∀ s, Goes p w n₀ 2 s z pr.2 (.str d.2 s.toks) { s with toks := s.toks + 1 } z
inductive Pairs (p : Program) (w : World) (n₀ : Nat) (z : Pos) : List (Sem Value × Sem Value) → List (Int × Str) → Prop
  | nil : Pairs p w n₀ z [] []
  | cons {pr d ps ds} : IsPair p w n₀ z pr d → Pairs p w n₀ z ps ds → Pairs p w n₀ z (pr :: ps) (d :: ds)

theorem goes_long {h : Heap} {l1 l2 : List Obj} (hn : n₀ ≤ h.objs.size) (f : Sem Value × Sem Value → PUnit → Sem (ForInStep PUnit))
    (hf : ∀ pr u, f pr u = (do let kv ← pr.1; let vv ← holding [kv] pr.2; holding [kv, vv] (dictSet (h.objs.size + l1.length) kv vv); pure (.yield PUnit.unit))) :
    ∀ (ps : List (Sem Value × Sem Value)) (ds : List (Int × Str)) (s : Shared) (es : List DictEntry) (n : Nat), Pairs p w n₀ z ps ds → s.heap = app h (l1 ++ dictO es n :: l2) → es.length + ds.length ≤ 1000 →
      (es.map (·.hash) ++ ds.map fun d => hashInt d.1).Nodup →
      Goes p w n₀ (13 * ds.length) s z (forIn ps PUnit.unit f) PUnit.unit { s with heap := app h (l1 ++ dictO (es ++ longEs s.toks ds) (n + ds.length) :: l2), toks := s.toks + 3 * ds.length } z := by
  intro ps ds s es n hp
  induction hp generalizing s es n with
  | nil =>
    intro hs _ _
    rw [List.forIn_nil]
    obtain ⟨heap, gens, drawn, toks, os⟩ := s
    simp only at hs
    subst hs
    simp only [longEs, List.append_nil, List.length_nil, Nat.mul_zero, Nat.add_zero]
    exact .pure
  | @cons pr d ps ds hpr _ ih =>
    intro hs hz hnd
    rw [List.forIn_cons, hf]
    simp only [List.map_cons, List.length_cons] at hz hnd
    have hne : ∀ e ∈ es, e.hash ≠ hashInt d.1 := fun e he q => by
      rw [List.nodup_append] at hnd
      exact hnd.2.2 _ (List.mem_map.mpr ⟨e, he, rfl⟩) _ List.mem_cons_self q
    have g1 := hpr.1 s
    have g2 := hpr.2 { s with toks := s.toks + 1 }
    have g3 := goes_dictSet (p := p) (w := w) (n₀ := n₀) (h := h) (s := { s with toks := s.toks + 1 + 1 }) (q := z) (l1 := l1) (l2 := l2) (es := es) (n := n) d.1 s.toks (.str d.2 (s.toks + 1)) hs hn (by omega) hne
    have g4 := ih (s := { s with heap := app h (l1 ++ dictO (es ++ [⟨hashInt d.1, .int d.1 s.toks, .str d.2 (s.toks + 1)⟩]) (n + 1) :: l2), toks := s.toks + 1 + 1 + 1 }) (es := es ++ [⟨hashInt d.1, .int d.1 s.toks, .str d.2 (s.toks + 1)⟩]) (n := n + 1) rfl
      (by simp; omega) (by simpa using hnd)
    have e1 : es ++ [(⟨hashInt d.1, .int d.1 s.toks, .str d.2 (s.toks + 1)⟩ : DictEntry)] ++ longEs (s.toks + 1 + 1 + 1) ds = es ++ longEs s.toks (d :: ds) := by simp [longEs]
    simp only [] at g4
    rw [e1] at g4
    have step : Goes p w n₀ 13 s z (do let kv ← pr.1; let vv ← holding [kv] pr.2; holding [kv, vv] (dictSet (h.objs.size + l1.length) kv vv); pure (ForInStep.yield PUnit.unit)) (.yield PUnit.unit)
        { s with heap := app h (l1 ++ dictO (es ++ [⟨hashInt d.1, .int d.1 s.toks, .str d.2 (s.toks + 1)⟩]) (n + 1) :: l2), toks := s.toks + 1 + 1 + 1 } z :=
      Goes.bind (n := 1) (n' := 12) g1 (Goes.bind (n := 2) (n' := 10) (Goes.holding _ g2) (Goes.bind (n := 10) (n' := 0) (Goes.holding _ g3) .pure))
    have e2 : s.toks + 1 + 1 + 1 + 3 * ds.length = s.toks + 3 * (ds.length + 1) := by omega
    have e3 : n + 1 + ds.length = n + (ds.length + 1) := by omega
    rw [e2, e3] at g4
    exact Goes.cast (Goes.bind step g4) (by simp only [List.length_cons]; omega)

theorem goes_evalPairs : ∀ (ps : List (Sem Value × Sem Value)) (ds : List (Int × Str)) (s : Shared), Pairs p w n₀ z ps ds →
    Goes p w n₀ (3 * ds.length) s z (evalPairs ps) (shortVs s.toks ds) { s with toks := s.toks + 2 * ds.length } z := by
  intro ps ds s hp
  induction hp generalizing s with
  | nil => exact .pure
  | @cons pr d ps ds hpr _ ih =>
    unfold evalPairs
    have g4 := ih { s with toks := s.toks + 1 + 1 }
    have := Goes.bind (n := 1) (hpr.1 s) (f := fun kv => (do let vv ← holding [kv] pr.2; return (kv, vv) :: (← holding [kv, vv] (evalPairs ps))))
      (Goes.bind (n := 2) (Goes.holding _ (hpr.2 { s with toks := s.toks + 1 })) (Goes.bind (n' := 0) (Goes.holding _ g4) (Goes.pure_)))
    refine Goes.cast ?_ (show 1 + (2 + (3 * ds.length + 0)) = 3 * (ds.length + 1) by omega)
    have e2 : s.toks + 1 + 1 + 2 * ds.length = s.toks + 2 * (ds.length + 1) := by omega
    simp only [] at this
    rw [e2] at this
    exact this

theorem goes_shortSet {h : Heap} {l1 l2 : List Obj} (hn : n₀ ≤ h.objs.size) (f : Value × Value → PUnit → Sem (ForInStep PUnit))
    (hf : ∀ kv u, f kv u = (do dictSet (h.objs.size + l1.length) kv.1 kv.2; pure (.yield PUnit.unit))) :
    ∀ (ds : List (Int × Str)) (T : Nat) (s : Shared) (es : List DictEntry) (n : Nat), s.heap = app h (l1 ++ dictO es n :: l2) → es.length + ds.length ≤ 1000 →
      (es.map (·.hash) ++ ds.map fun d => hashInt d.1).Nodup →
      Goes p w n₀ (10 * ds.length) s z (forIn (shortVs T ds) PUnit.unit f) PUnit.unit { s with heap := app h (l1 ++ dictO (es ++ shortEs T ds) (n + ds.length) :: l2), toks := s.toks + ds.length } z := by
  intro ds
  induction ds with
  | nil =>
    intro T s es n hs _ _
    unfold shortVs
    rw [List.forIn_nil]
    obtain ⟨heap, gens, drawn, toks, os⟩ := s
    simp only at hs
    subst hs
    simp only [shortEs, List.append_nil, List.length_nil, Nat.mul_zero, Nat.add_zero]
    exact .pure
  | cons d ds ih =>
    intro T s es n hs hz hnd
    unfold shortVs
    rw [List.forIn_cons, hf]
    simp only [List.map_cons, List.length_cons] at hz hnd
    have hne : ∀ e ∈ es, e.hash ≠ hashInt d.1 := fun e he q => by
      rw [List.nodup_append] at hnd
      exact hnd.2.2 _ (List.mem_map.mpr ⟨e, he, rfl⟩) _ List.mem_cons_self q
    have g3 := goes_dictSet (p := p) (w := w) (n₀ := n₀) (h := h) (s := s) (q := z) (l1 := l1) (l2 := l2) (es := es) (n := n) d.1 T (.str d.2 (T + 1)) hs hn (by omega) hne
    have g4 := ih (T + 2) { s with heap := app h (l1 ++ dictO (es ++ [⟨hashInt d.1, .int d.1 T, .str d.2 (T + 1)⟩]) (n + 1) :: l2), toks := s.toks + 1 } (es ++ [⟨hashInt d.1, .int d.1 T, .str d.2 (T + 1)⟩]) (n + 1) rfl
      (by simp; omega) (by simpa using hnd)
    have e1 : es ++ [(⟨hashInt d.1, .int d.1 T, .str d.2 (T + 1)⟩ : DictEntry)] ++ shortEs (T + 2) ds = es ++ shortEs T (d :: ds) := by simp [shortEs]
    simp only [] at g4
    rw [e1] at g4
    have e2 : s.toks + 1 + ds.length = s.toks + (ds.length + 1) := by omega
    have e3 : n + 1 + ds.length = n + (ds.length + 1) := by omega
    rw [e2, e3] at g4
    have step : Goes p w n₀ 10 s z (do dictSet (h.objs.size + l1.length) (Value.int d.1 T) (Value.str d.2 (T + 1)); pure (ForInStep.yield PUnit.unit)) (.yield PUnit.unit) _ z := Goes.bind (n := 10) (n' := 0) g3 .pure
    exact Goes.cast (Goes.bind step g4) (by simp only [List.length_cons]; omega)

theorem pairs_length {ps : List (Sem Value × Sem Value)} {ds : List (Int × Str)} (hp : Pairs p w n₀ z ps ds) : ps.length = ds.length := by
  induction hp with
  | nil => rfl
  | cons _ _ ih => simp [ih]
theorem goes_sub_long {h : Heap} {l : List Obj} (hn : n₀ ≤ h.objs.size) {ps : List (Sem Value × Sem Value)} {ds : List (Int × Str)} {s : Shared} (hp : Pairs p w n₀ z ps ds) (hs : s.heap = app h l) (hl : 15 < ds.length) (hz : ds.length ≤ 1000) (hnd : (ds.map fun d => hashInt d.1).Nodup) :
    Goes p w n₀ (13 * ds.length + 2) s z (subDict ps) (h.objs.size + l.length) { s with heap := app h (l ++ [dictO (longEs s.toks ds) ds.length]), toks := s.toks + 3 * ds.length } z := by
  have e0 : s.heap.push { cls := .type "dict", data := .dict #[] } = app h (l ++ dictO [] 0 :: []) := by rw [hs, app_push]; rfl
  have e1 : s.heap.objs.size = h.objs.size + l.length := by rw [hs, app_size]
  have g := goes_long (p := p) (w := w) (z := z) (h := h) (l1 := l) (l2 := []) hn (fun pr _ => (do let kv ← pr.1; let vv ← holding [kv] pr.2; holding [kv, vv] (dictSet (h.objs.size + l.length) kv vv); pure (.yield PUnit.unit))) (fun _ _ => rfl)
    ps ds { s with heap := s.heap.push { cls := .type "dict", data := .dict #[] } } [] 0 hp e0 (by simpa using hz) (by simpa using hnd)
  simp only [List.nil_append, Nat.zero_add] at g
  unfold subDict
  refine Goes.cast (Goes.bind (n := 1) (n' := 13 * ds.length + 1) (.alloc .pure) ?_) (show 1 + (13 * ds.length + 1) = 13 * ds.length + 2 by omega)
  rw [e1]
  refine Goes.cast (Goes.bind (a := ()) (n := 13 * ds.length + 1) (n' := 0) (Goes.holding _ ?_) Goes.pure_) (by omega)
  rw [if_neg (by rw [pairs_length hp]; omega)]
  exact Goes.cast (Goes.bind (n := 1) (.rule .pure) (Goes.bind (n' := 0) g Goes.pure_)) (by omega)

theorem goes_sub_short {h : Heap} {l : List Obj} (hn : n₀ ≤ h.objs.size) {ps : List (Sem Value × Sem Value)} {ds : List (Int × Str)} {s : Shared} (hp : Pairs p w n₀ z ps ds) (hs : s.heap = app h l) (hl : ds.length ≤ 15) (hnd : (ds.map fun d => hashInt d.1).Nodup) :
    Goes p w n₀ (13 * ds.length + 1) s z (subDict ps) (h.objs.size + l.length) { s with heap := app h (l ++ [dictO (shortEs s.toks ds) ds.length]), toks := s.toks + 3 * ds.length } z := by
  have e0 : s.heap.push { cls := .type "dict", data := .dict #[] } = app h (l ++ dictO [] 0 :: []) := by rw [hs, app_push]; rfl
  have e1 : s.heap.objs.size = h.objs.size + l.length := by rw [hs, app_size]
  have g0 := goes_evalPairs (z := z) ps ds { s with heap := s.heap.push { cls := .type "dict", data := .dict #[] } } hp
  have g := goes_shortSet (p := p) (w := w) (z := z) (h := h) (l1 := l) (l2 := []) hn (fun kv _ => (do dictSet (h.objs.size + l.length) kv.1 kv.2; pure (.yield PUnit.unit))) (fun _ _ => rfl)
    ds s.toks { s with heap := s.heap.push { cls := .type "dict", data := .dict #[] }, toks := s.toks + 2 * ds.length } [] 0 e0 (by simp; omega) (by simpa using hnd)
  simp only [List.nil_append, Nat.zero_add] at g
  rw [show s.toks + 2 * ds.length + ds.length = s.toks + 3 * ds.length by omega] at g
  unfold subDict
  refine Goes.cast (Goes.bind (n := 1) (n' := 13 * ds.length) (.alloc .pure) ?_) (show 1 + (13 * ds.length) = 13 * ds.length + 1 by omega)
  rw [e1]
  refine Goes.cast (Goes.bind (a := ()) (n := 13 * ds.length) (n' := 0) (Goes.holding _ ?_) Goes.pure_) (by omega)
  rw [if_pos (by rw [pairs_length hp]; omega)]
  exact Goes.cast (Goes.bind (n := 3 * ds.length) g0 (Goes.holding _ (Goes.bind (n' := 0) g Goes.pure_))) (by omega)
end
end Mine
end

section
open PySem PySem.W PyProof.Rows
namespace Mine
section
variable {p : Program} {w : World} {n₀ : Nat} {z : Pos}
theorem goes_isInst {s : Shared} {q : Pos} {a : Addr} {es : List DictEntry} {n : Nat} (hg : s.heap.get? a = some (dictO es n)) : Goes p w n₀ 1 s q (isInstance (.ref a) (.type "dict")) true s q := by
  unfold isInstance
  refine Goes.bind (n := 1) (n' := 0) (s' := s) (q' := q) (a := .type "dict") ?_ ?_
  · unfold typeOf
    exact .load hg .pure
  · rw [isSubtype_dict_dict]; exact .pure
theorem goes_iterOf {s : Shared} {q : Pos} {a : Addr} {es : List DictEntry} {n : Nat} (hg : s.heap.get? a = some (dictO es n)) : Goes p w n₀ 1 s q (specialOf (.ref a) "__iter__") (some (.builtin "dict.__iter__")) s q := by
  unfold specialOf
  refine Goes.bind (n := 1) (n' := 0) (s' := s) (q' := q) (a := .type "dict") ?_ ?_
  · unfold typeOf
    exact .load hg .pure
  · rw [PySem.F.slot_dict_iter.lookup]; exact .pure

theorem goes_put {h : Heap} {s : Shared} {q : Pos} {l1 l2 : List Obj} {es : List DictEntry} {n : Nat} (e : DictEntry) (hk : ∃ i t, e.key = .int i t) (hs : s.heap = app h (l1 ++ dictO es n :: l2)) (hn : n₀ ≤ h.objs.size) (hz : es.length < 1000) (hne : ∀ e' ∈ es, e'.hash ≠ e.hash) :
    Goes p w n₀ 4 s q (dictPut (h.objs.size + l1.length) e.hash e.key e.val) () { s with heap := app h (l1 ++ dictO (es ++ [e]) (n + 1) :: l2) } q := by
  obtain ⟨i, t, hk⟩ := hk
  have hg : s.heap.get? (h.objs.size + l1.length) = some (dictO es n) := by rw [hs]; exact app_get ..
  have hu : s.heap.update (h.objs.size + l1.length) (Obj.mapDictKeys (·.push e)) = app h (l1 ++ dictO (es ++ [e]) (n + 1) :: l2) := by
    rw [hs, app_update]
    simp [dictO, Obj.mapDictKeys]
  unfold dictPut
  refine Goes.bind (n := 1) (n' := 3) (by rw [hk]; exact goes_find i t _ (o := dictO es n) hg rfl (by simpa using hne)) ?_
  dsimp only
  have := goes_push (p := p) (w := w) (n₀ := n₀) (q := q) (part := none) (s := s) e (show s.heap.get? _ = some ⟨.type "dict", none, .dict es.toArray n, #[]⟩ from hg)
    (Nat.ble_eq_true_of_le (Nat.le_trans hn (Nat.le_add_right ..))) (by rw [List.size_toArray, sizeLine_eq]; omega) (by
      rw [hu, app_get]
      simp [dictO])
  rw [hu] at this
  exact this

theorem goes_mergeLoop {h : Heap} {mid : List Obj} {esS : List DictEntry} {nS : Nat} (hn : n₀ ≤ h.objs.size) (f : Nat → PUnit → Sem (ForInStep PUnit))
    (hf : ∀ i u, f i u = (do
      let some e := (← dictEntries (h.objs.size + (1 + mid.length)))[i]? | unsupported "dict.changed-during-merge"
      holding [e.key, e.val] (dictPut h.objs.size e.hash e.key e.val)
      if (← dictEpoch (h.objs.size + (1 + mid.length))) != nS then unsupported "dict.changed-during-merge"
      pure (.yield PUnit.unit)))
    (hk : ∀ e ∈ esS, ∃ i t, e.key = .int i t) :
    ∀ (r i : Nat) (s : Shared) (esM : List DictEntry) (nM : Nat), i + r = esS.length → s.heap = app h (dictO esM nM :: (mid ++ [dictO esS nS])) → esM.length + r ≤ 1000 →
      (esM.map (·.hash) ++ (esS.drop i).map (·.hash)).Nodup →
      Goes p w n₀ (6 * r) s z (forIn (List.range' i r) PUnit.unit f) PUnit.unit { s with heap := app h (dictO (esM ++ esS.drop i) (nM + r) :: (mid ++ [dictO esS nS])) } z := by
  intro r
  induction r with
  | zero =>
    intro i s esM nM hi hs _ _
    rw [List.range'_zero, List.forIn_nil]
    obtain ⟨heap, gens, drawn, toks, os⟩ := s
    simp only at hs
    subst hs
    rw [List.drop_of_length_le (by omega), List.append_nil]
    exact .pure
  | succ r ih =>
    intro i s esM nM hi hs hz hnd
    have hlt : i < esS.length := by omega
    rw [List.range'_succ, List.forIn_cons, hf]
    have hd : esS.drop i = esS[i] :: esS.drop (i + 1) := List.drop_eq_getElem_cons hlt
    rw [hd, List.map_cons] at hnd
    have hne : ∀ e' ∈ esM, e'.hash ≠ esS[i].hash := fun e he q => by
      rw [List.nodup_append] at hnd
      exact hnd.2.2 _ (List.mem_map.mpr ⟨e, he, rfl⟩) _ List.mem_cons_self q
    have hgS : s.heap.get? (h.objs.size + (1 + mid.length)) = some (dictO esS nS) := by
      rw [hs]
      have := app_get h (dictO esM nM :: mid) [] esS nS
      simpa [Nat.add_comm 1] using this
    have g3 := goes_put (p := p) (w := w) (n₀ := n₀) (h := h) (s := s) (q := z) (l1 := []) (l2 := mid ++ [dictO esS nS]) (es := esM) (n := nM) esS[i] (hk _ (List.getElem_mem hlt)) hs hn (by omega) hne
    simp only [List.length_nil, Nat.add_zero, List.nil_append] at g3
    have hgS' : (app h (dictO (esM ++ [esS[i]]) (nM + 1) :: (mid ++ [dictO esS nS]))).get? (h.objs.size + (1 + mid.length)) = some (dictO esS nS) := by
      have := app_get h (dictO (esM ++ [esS[i]]) (nM + 1) :: mid) [] esS nS
      simpa [Nat.add_comm 1] using this
    have g4 := ih (i + 1) { s with heap := app h (dictO (esM ++ [esS[i]]) (nM + 1) :: (mid ++ [dictO esS nS])) } (esM ++ [esS[i]]) (nM + 1) (by omega) rfl (by simp; omega) (by simpa using hnd)
    have e1 : esM ++ [esS[i]] ++ esS.drop (i + 1) = esM ++ esS.drop i := by rw [hd]; simp
    have e3 : nM + 1 + r = nM + (r + 1) := by omega
    rw [e1, e3] at g4
    refine Goes.cast (Goes.bind (n := 6) (a := .yield PUnit.unit) ?_ g4) (by omega)
    refine Goes.bind (n := 1) (n' := 5) (goes_entries (o := dictO esS nS) hgS rfl) ?_
    rw [show (esS.toArray)[i]? = some esS[i] by simp [hlt]]
    dsimp only
    refine Goes.bind (n := 4) (n' := 1) (Goes.holding _ g3) ?_
    refine Goes.bind (n := 1) (n' := 0) (goes_epoch (o := dictO esS nS) hgS' rfl) ?_
    rw [if_neg (by simp)]
    exact .pure

theorem goes_merge {h : Heap} {mid : List Obj} {esM esS : List DictEntry} {nM nS : Nat} {s : Shared} (hn : n₀ ≤ h.objs.size) (hsm : sysModules < n₀) (hk : ∀ e ∈ esS, ∃ i t, e.key = .int i t) (hM : esM ≠ [])
    (hs : s.heap = app h (dictO esM nM :: (mid ++ [dictO esS nS]))) (hz : esM.length + esS.length ≤ 1000) (hnd : (esM.map (·.hash) ++ esS.map (·.hash)).Nodup) :
    Goes p w n₀ (5 + 6 * esS.length) s z (mergeMapping h.objs.size (.ref (h.objs.size + (1 + mid.length))) false) () { s with heap := app h (dictO (esM ++ esS) (nM + esS.length) :: (mid ++ [dictO esS nS])) } z := by
  have hgS : s.heap.get? (h.objs.size + (1 + mid.length)) = some (dictO esS nS) := by
    rw [hs]
    have := app_get h (dictO esM nM :: mid) [] esS nS
    simpa [Nat.add_comm 1] using this
  have hgM : s.heap.get? h.objs.size = some (dictO esM nM) := by
    rw [hs]
    have := app_get h [] (mid ++ [dictO esS nS]) esM nM
    simpa using this
  have g := goes_mergeLoop (p := p) (w := w) (z := z) hn (mid := mid) (esS := esS) (nS := nS) (fun i _ => (do
      let some e := (← dictEntries (h.objs.size + (1 + mid.length)))[i]? | unsupported "dict.changed-during-merge"
      holding [e.key, e.val] (dictPut h.objs.size e.hash e.key e.val)
      if (← dictEpoch (h.objs.size + (1 + mid.length))) != nS then unsupported "dict.changed-during-merge"
      pure (.yield PUnit.unit))) (fun _ _ => rfl) hk esS.length 0 s esM nM (by omega) hs hz (by simpa using hnd)
  rw [List.drop_zero] at g
  unfold mergeMapping
  refine Goes.cast (Goes.bind (n := 1) (n' := 4 + 6 * esS.length) (goes_isInst hgS) ?_) (by omega)
  rw [if_pos rfl]
  refine Goes.cast (Goes.bind (n := 1) (n' := 3 + 6 * esS.length) (goes_iterOf hgS) ?_) (by omega)
  rw [pure_bind, beq_self_eq_true]
  dsimp only
  rw [if_neg (by
    have : sysModules < h.objs.size + (1 + mid.length) := Nat.lt_of_lt_of_le hsm (Nat.le_trans hn (Nat.le_add_right ..))
    exact fun e => Nat.ne_of_gt this (beq_iff_eq.mp e))]
  refine Goes.cast (Goes.bind (n := 1) (n' := 2 + 6 * esS.length) (goes_entries (o := dictO esM nM) hgM rfl) ?_) (by omega)
  rw [if_neg (by
    cases esM with
    | nil => exact absurd rfl hM
    | cons _ _ => simp)]
  refine Goes.cast (Goes.bind (n := 1) (n' := 1 + 6 * esS.length) (goes_entries (o := dictO esS nS) hgS rfl) ?_) (by omega)
  refine Goes.cast (Goes.bind (n := 1) (n' := 6 * esS.length) (goes_epoch (o := dictO esS nS) hgS rfl) ?_) (by omega)
  rw [List.size_toArray, List.range_eq_range']
  refine Goes.cast (Goes.bind (a := PUnit.unit) (n' := 0) ?_ Goes.pure_) (show 6 * esS.length + 0 = _ by omega)
  exact g
end
end Mine
end

section
open PySem PySem.W PyProof.Rows
namespace Mine
theorem longEs_append (T : Nat) (a b : List (Int × Str)) : longEs T (a ++ b) = longEs T a ++ longEs (T + 3 * a.length) b := by
  induction a generalizing T with
  | nil => simp [longEs]
  | cons d r ih => simp [longEs, ih, Nat.mul_add, Nat.add_assoc, Nat.add_comm, Nat.add_left_comm]
theorem longEs_keys (T : Nat) (ds : List (Int × Str)) : ∀ e ∈ longEs T ds, ∃ i t, e.key = .int i t := by
  induction ds generalizing T with
  | nil => intro e he; cases he
  | cons d r ih =>
    intro e he
    rcases List.mem_cons.mp he with rfl | he
    · exact ⟨_, _, rfl⟩
    · exact ih _ e he
theorem shortEs_keys (T : Nat) (ds : List (Int × Str)) : ∀ e ∈ shortEs T ds, ∃ i t, e.key = .int i t := by
  induction ds generalizing T with
  | nil => intro e he; cases he
  | cons d r ih =>
    intro e he
    rcases List.mem_cons.mp he with rfl | he
    · exact ⟨_, _, rfl⟩
    · exact ih _ e he

def subsOf (T : Nat) : List (List (Int × Str)) → List Obj
  | [] => []
  | c :: cs => dictO (longEs T c) c.length :: subsOf (T + 3 * c.length) cs

def mk1 (pr : Sem Value × Sem Value) : Option (Sem Value) × Sem Value := (some pr.1, pr.2)
abbrev St := Option Addr × List (Sem Value × Sem Value)

section
variable {p : Program} {w : World} {n₀ : Nat} {z : Pos}
inductive Chunks (p : Program) (w : World) (n₀ : Nat) (z : Pos) : List (List (Sem Value × Sem Value)) → List (List (Int × Str)) → Prop
  | nil : Chunks p w n₀ z [] []
  | cons {ps ds pss dss} : Pairs p w n₀ z ps ds → ds.length = 17 → Chunks p w n₀ z pss dss → Chunks p w n₀ z (ps :: pss) (ds :: dss)

def flushD (run : List (Sem Value × Sem Value)) (main : Option Addr) : Sem (Option Addr) := do
    if run.isEmpty then return main
    match main with
    | none => return some (← subDict run)
    | some d =>
      let sub ← holding [.ref d] (subDict run)
      (holding [.ref d, .ref sub] (mergeMapping d (.ref sub) false)).onRaise fun x => do let _ ← holding [.ref d, x] (runValue (.builtin "proto.let_go" {}))
      return some d

theorem gather (f : Option (Sem Value) × Sem Value → St → Sem (ForInStep St))
    (hf : ∀ (m : Option Addr) (run : List (Sem Value × Sem Value)) (pr : Sem Value × Sem Value), run.length + 1 < 17 → f (mk1 pr) (m, run) = pure (.yield (m, run ++ [pr])))
    (m : Option Addr) (rest : List (Option (Sem Value) × Sem Value)) :
    ∀ (ps run : List (Sem Value × Sem Value)), run.length + ps.length < 17 → forIn (ps.map mk1 ++ rest) (m, run) f = forIn rest (m, run ++ ps) f
  | [], run, _ => by simp
  | pr :: ps, run, h => by
    rw [List.map_cons, List.cons_append, List.forIn_cons, hf m run pr (by simp at h; omega), pure_bind]
    have := gather f hf m rest ps (run ++ [pr]) (by simp at h ⊢; omega)
    simpa using this

theorem forIn_chunk (f : Option (Sem Value) × Sem Value → St → Sem (ForInStep St))
    (hf : ∀ (m : Option Addr) (run : List (Sem Value × Sem Value)) (pr : Sem Value × Sem Value), run.length + 1 < 17 → f (mk1 pr) (m, run) = pure (.yield (m, run ++ [pr])))
    (hg : ∀ (m : Option Addr) (run : List (Sem Value × Sem Value)) (pr : Sem Value × Sem Value), run.length + 1 = 17 → f (mk1 pr) (m, run) = (do let m' ← flushD (run ++ [pr]) m; pure (.yield (m', []))))
    (m : Option Addr) (rest : List (Option (Sem Value) × Sem Value)) (ps : List (Sem Value × Sem Value)) (h : ps.length = 17) :
    forIn (ps.map mk1 ++ rest) (m, []) f = (do let m' ← flushD ps m; forIn rest (m', []) f) := by
  have hne : ps ≠ [] := fun e => by rw [e] at h; cases h
  have hl := List.dropLast_concat_getLast hne
  have hdl : ps.dropLast.length = 16 := by rw [List.length_dropLast, h]
  conv => lhs; rw [← hl]
  rw [List.map_append, List.append_assoc, gather f hf m _ ps.dropLast [] (by simp; omega), List.nil_append]
  show forIn (mk1 (ps.getLast hne) :: rest) (m, ps.dropLast) f = _
  rw [List.forIn_cons, hg m _ _ (by omega), hl]
  simp only [bind_assoc, pure_bind]

theorem goes_flush1 {h : Heap} (hn : n₀ ≤ h.objs.size) {ps : List (Sem Value × Sem Value)} {ds : List (Int × Str)} {s : Shared} (hp : Pairs p w n₀ z ps ds) (hs : s.heap = h) (hl : ds.length = 17) (hnd : (ds.map fun d => hashInt d.1).Nodup) :
    Goes p w n₀ 223 s z (flushD ps none) (some h.objs.size) { s with heap := app h (dictO (longEs s.toks ds) 17 :: []), toks := s.toks + 51 } z := by
  have g := goes_sub_long (p := p) (w := w) (z := z) (l := []) hn hp (by rw [hs, app_nil]) (by omega) (by omega) hnd
  simp only [List.length_nil, Nat.add_zero, List.nil_append, hl] at g
  unfold flushD
  rw [if_neg (by
    have := pairs_length hp
    cases ps with
    | nil => simp at this; omega
    | cons _ _ => simp)]
  exact Goes.bind (n := 223) (n' := 0) g Goes.pure_

theorem goes_flush2 {h : Heap} (hn : n₀ ≤ h.objs.size) (hsm : sysModules < n₀) {ps : List (Sem Value × Sem Value)} {ds : List (Int × Str)} {s : Shared} {E : List DictEntry} {nE : Nat} {mid : List Obj} (hp : Pairs p w n₀ z ps ds) (hs : s.heap = app h (dictO E nE :: mid)) (hE : E ≠ []) (hl : ds.length = 17)
    (hz : E.length + 17 ≤ 1000) (hnd : (E.map (·.hash) ++ ds.map fun d => hashInt d.1).Nodup) :
    Goes p w n₀ 330 s z (flushD ps (some h.objs.size)) (some h.objs.size) { s with heap := app h (dictO (E ++ longEs s.toks ds) (nE + 17) :: (mid ++ [dictO (longEs s.toks ds) 17])), toks := s.toks + 51 } z := by
  have g := goes_sub_long (p := p) (w := w) (z := z) (l := dictO E nE :: mid) hn hp hs (by omega) (by omega) (List.nodup_append.mp hnd).2.1
  simp only [List.length_cons, List.cons_append, hl] at g
  rw [show mid.length + 1 = 1 + mid.length by omega] at g
  have g2 := goes_merge (p := p) (w := w) (z := z) (s := { s with heap := app h (dictO E nE :: (mid ++ [dictO (longEs s.toks ds) 17])), toks := s.toks + 51 }) (esS := longEs s.toks ds) hn hsm (longEs_keys _ _) hE rfl (by rw [longEs_length]; omega) (by rw [longEs_hash]; exact hnd)
  simp only [longEs_length, hl] at g2
  unfold flushD
  rw [if_neg (by
    have := pairs_length hp
    cases ps with
    | nil => simp at this; omega
    | cons _ _ => simp)]
  exact Goes.cast (Goes.bind (n := 223) (n' := 107) (Goes.holding _ g) (Goes.bind (n := 107) (n' := 0) (Goes.onRaise _ (Goes.holding _ g2)) Goes.pure_)) rfl
end
end Mine
end

section
open PySem PySem.W PyProof.Rows
namespace Mine
section
variable {p : Program} {w : World} {n₀ : Nat} {z : Pos}
def flatItems (pss : List (List (Sem Value × Sem Value))) (psl : List (Sem Value × Sem Value)) : List (Option (Sem Value) × Sem Value) := (pss.map (·.map mk1)).flatten ++ psl.map mk1

theorem goes_chunks {h : Heap} (hn : n₀ ≤ h.objs.size) (hsm : sysModules < n₀) (f : Option (Sem Value) × Sem Value → St → Sem (ForInStep St))
    (hf : ∀ (m : Option Addr) (run : List (Sem Value × Sem Value)) (pr : Sem Value × Sem Value), run.length + 1 < 17 → f (mk1 pr) (m, run) = pure (.yield (m, run ++ [pr])))
    (hg : ∀ (m : Option Addr) (run : List (Sem Value × Sem Value)) (pr : Sem Value × Sem Value), run.length + 1 = 17 → f (mk1 pr) (m, run) = (do let m' ← flushD (run ++ [pr]) m; pure (.yield (m', []))))
    (psl : List (Sem Value × Sem Value)) (hpsl : psl.length < 17) :
    ∀ (pss : List (List (Sem Value × Sem Value))) (dss : List (List (Int × Str))), Chunks p w n₀ z pss dss → ∀ (s : Shared) (E : List DictEntry) (nE : Nat) (mid : List Obj), s.heap = app h (dictO E nE :: mid) → E ≠ [] → E.length + 17 * dss.length ≤ 1000 →
      (E.map (·.hash) ++ dss.flatten.map fun d => hashInt d.1).Nodup →
      Goes p w n₀ (330 * dss.length) s z (forIn (flatItems pss psl) (some h.objs.size, []) f) (some h.objs.size, psl)
        { s with heap := app h (dictO (E ++ longEs s.toks dss.flatten) (nE + 17 * dss.length) :: (mid ++ subsOf s.toks dss)), toks := s.toks + 51 * dss.length } z := by
  intro pss dss hc
  induction hc with
  | nil =>
    intro s E nE mid hs _ _ _
    unfold flatItems
    have e := gather f hf (some h.objs.size) [] psl [] (by simpa using hpsl)
    simp only [List.append_nil, List.nil_append] at e
    simp only [List.map_nil, List.flatten_nil, List.nil_append]
    rw [e, List.forIn_nil]
    obtain ⟨heap, gens, drawn, toks, os⟩ := s
    simp only at hs
    subst hs
    simp only [longEs, subsOf, List.append_nil, List.length_nil, Nat.mul_zero, Nat.add_zero]
    exact .pure
  | @cons ps ds pss dss hp hl _ ih =>
    intro s E nE mid hs hE hz hnd
    simp only [List.length_cons] at hz
    simp only [List.flatten_cons, List.map_append] at hnd
    have e := forIn_chunk f hf hg (some h.objs.size) (flatItems pss psl) ps ((pairs_length hp).trans hl)
    have e0 : flatItems (ps :: pss) psl = ps.map mk1 ++ flatItems pss psl := by simp [flatItems]
    rw [e0, e]
    have hnd1 : (E.map (·.hash) ++ ds.map fun d => hashInt d.1).Nodup := by
      rw [← List.append_assoc] at hnd
      exact (List.nodup_append.mp hnd).1
    have g := goes_flush2 (p := p) (w := w) (z := z) hn hsm hp hs hE hl (by omega) hnd1
    have g2 := ih { s with heap := app h (dictO (E ++ longEs s.toks ds) (nE + 17) :: (mid ++ [dictO (longEs s.toks ds) 17])), toks := s.toks + 51 } (E ++ longEs s.toks ds) (nE + 17) (mid ++ [dictO (longEs s.toks ds) 17]) rfl (by simp [hE]) (by
      rw [List.length_append, longEs_length, hl]; omega) (by
      rw [List.map_append, longEs_hash, List.append_assoc]; exact hnd)
    have q1 : longEs s.toks (ds ++ dss.flatten) = longEs s.toks ds ++ longEs (s.toks + 51) dss.flatten := by rw [longEs_append, hl]
    have q2 : subsOf s.toks (ds :: dss) = dictO (longEs s.toks ds) 17 :: subsOf (s.toks + 51) dss := by simp [subsOf, hl]
    have q3 : nE + 17 * (dss.length + 1) = nE + 17 + 17 * dss.length := by omega
    have q4 : s.toks + 51 * (dss.length + 1) = s.toks + 51 + 51 * dss.length := by omega
    simp only [List.flatten_cons, List.length_cons, q1, q2, q3, q4]
    simp only [List.append_assoc, List.singleton_append] at g2
    exact Goes.cast (Goes.bind g g2) (by omega)

theorem goes_flush3 {h : Heap} (hn : n₀ ≤ h.objs.size) (hsm : sysModules < n₀) {ps : List (Sem Value × Sem Value)} {ds : List (Int × Str)} {s : Shared} {E : List DictEntry} {nE : Nat} {mid : List Obj} (hp : Pairs p w n₀ z ps ds) (hs : s.heap = app h (dictO E nE :: mid)) (hE : E ≠ []) (hl : ds.length ≤ 15) (hl0 : ds ≠ [])
    (hz : E.length + ds.length ≤ 1000) (hnd : (E.map (·.hash) ++ ds.map fun d => hashInt d.1).Nodup) :
    Goes p w n₀ (13 * ds.length + 1 + (5 + 6 * ds.length)) s z (flushD ps (some h.objs.size)) (some h.objs.size) { s with heap := app h (dictO (E ++ shortEs s.toks ds) (nE + ds.length) :: (mid ++ [dictO (shortEs s.toks ds) ds.length])), toks := s.toks + 3 * ds.length } z := by
  have g := goes_sub_short (p := p) (w := w) (z := z) (l := dictO E nE :: mid) hn hp hs (by omega) (List.nodup_append.mp hnd).2.1
  simp only [List.length_cons, List.cons_append] at g
  rw [show mid.length + 1 = 1 + mid.length by omega] at g
  have g2 := goes_merge (p := p) (w := w) (z := z) (s := { s with heap := app h (dictO E nE :: (mid ++ [dictO (shortEs s.toks ds) ds.length])), toks := s.toks + 3 * ds.length }) (esS := shortEs s.toks ds) hn hsm (shortEs_keys _ _) hE rfl (by rw [shortEs_length]; omega) (by rw [shortEs_hash]; exact hnd)
  simp only [shortEs_length] at g2
  unfold flushD
  rw [if_neg (by
    have := pairs_length hp
    cases ps with
    | nil => cases ds with
      | nil => exact absurd rfl hl0
      | cons _ _ => simp at this
    | cons _ _ => simp)]
  exact Goes.bind (Goes.holding _ g) (Goes.bind (n' := 0) (Goes.onRaise _ (Goes.holding _ g2)) Goes.pure_)

def fullEs (T : Nat) (dss : List (List (Int × Str))) (dsl : List (Int × Str)) : List DictEntry := longEs T dss.flatten ++ shortEs (T + 51 * dss.length) dsl
def fullSubs (T : Nat) : List (List (Int × Str)) → List (Int × Str) → List Obj
  | [], _ => []
  | _ :: dss, dsl => subsOf (T + 51) dss ++ [dictO (shortEs (T + 51 * (dss.length + 1)) dsl) dsl.length]

theorem goes_display' {h : Heap} (hn : n₀ ≤ h.objs.size) (hsm : sysModules < n₀) (f : Option (Sem Value) × Sem Value → St → Sem (ForInStep St))
    (hf : ∀ (m : Option Addr) (run : List (Sem Value × Sem Value)) (pr : Sem Value × Sem Value), run.length + 1 < 17 → f (mk1 pr) (m, run) = pure (.yield (m, run ++ [pr])))
    (hg : ∀ (m : Option Addr) (run : List (Sem Value × Sem Value)) (pr : Sem Value × Sem Value), run.length + 1 = 17 → f (mk1 pr) (m, run) = (do let m' ← flushD (run ++ [pr]) m; pure (.yield (m', []))))
    {ps psl : List (Sem Value × Sem Value)} {pss : List (List (Sem Value × Sem Value))} {ds dsl : List (Int × Str)} {dss : List (List (Int × Str))} {s : Shared}
    (hs : s.heap = h) (hp : Pairs p w n₀ z ps ds) (hl : ds.length = 17) (hc : Chunks p w n₀ z pss dss) (hpl : Pairs p w n₀ z psl dsl) (h15 : dsl.length ≤ 15) (h0 : dsl ≠ []) (hz : 17 * (dss.length + 1) + dsl.length ≤ 1000)
    (hnd : (((ds :: dss).flatten ++ dsl).map fun d => hashInt d.1).Nodup) :
    Goes p w n₀ (223 + 330 * dss.length + (19 * dsl.length + 6)) s z (do let r ← forIn (flatItems (ps :: pss) psl) (none, []) f; match ← flushD r.2 r.1 with | some d => pure (.ref d) | none => newDict) (.ref h.objs.size)
      { s with heap := app h (dictO (fullEs s.toks (ds :: dss) dsl) (17 * (dss.length + 1) + dsl.length) :: fullSubs s.toks (ds :: dss) dsl), toks := s.toks + 3 * (17 * (dss.length + 1) + dsl.length) } z := by
  have hll : ∀ dss : List (List (Int × Str)), ∀ pss, Chunks p w n₀ z pss dss → dss.flatten.length = 17 * dss.length := by
    intro dss pss hc
    induction hc with
    | nil => rfl
    | cons _ hl _ ih => rw [List.flatten_cons, List.length_append, ih, hl, List.length_cons]; omega
  simp only [List.flatten_cons, List.append_assoc, List.map_append] at hnd
  have e := forIn_chunk f hf hg none (flatItems pss psl) ps ((pairs_length hp).trans hl)
  have e0 : flatItems (ps :: pss) psl = ps.map mk1 ++ flatItems pss psl := by simp [flatItems]
  rw [e0, e, bind_assoc]
  have g1 := goes_flush1 (p := p) (w := w) (z := z) hn hp hs hl (List.nodup_append.mp hnd).1
  have hne : longEs s.toks ds ≠ [] := fun q => by have := longEs_length s.toks ds; rw [q, hl] at this; cases this
  have g2 := goes_chunks (p := p) (w := w) (z := z) hn hsm f hf hg psl (by rw [pairs_length hpl]; omega) pss dss hc
    { s with heap := app h (dictO (longEs s.toks ds) 17 :: []), toks := s.toks + 51 } (longEs s.toks ds) 17 [] rfl hne (by rw [longEs_length, hl]; omega) (by
      rw [longEs_hash]
      rw [← List.append_assoc] at hnd
      exact (List.nodup_append.mp hnd).1)
  simp only [List.nil_append] at g2
  have q1 : longEs s.toks (ds ++ dss.flatten) = longEs s.toks ds ++ longEs (s.toks + 51) dss.flatten := by rw [longEs_append, hl]
  rw [← q1] at g2
  have g3 := goes_flush3 (p := p) (w := w) (z := z) hn hsm hpl (s := { s with heap := app h (dictO (longEs s.toks (ds ++ dss.flatten)) (17 + 17 * dss.length) :: subsOf (s.toks + 51) dss), toks := s.toks + 51 + 51 * dss.length })
    (E := longEs s.toks (ds ++ dss.flatten)) (nE := 17 + 17 * dss.length) (mid := subsOf (s.toks + 51) dss) rfl (by rw [q1]; simp [hne]) h15 h0 (by rw [longEs_length, List.length_append, hl, hll dss pss hc]; omega) (by
      rw [longEs_hash, List.map_append, List.append_assoc]; exact hnd)
  have q3 : 17 * (dss.length + 1) + dsl.length = 17 + 17 * dss.length + dsl.length := by omega
  have q4 : s.toks + 3 * (17 + 17 * dss.length + dsl.length) = s.toks + 51 + 51 * dss.length + 3 * dsl.length := by omega
  have q5 : s.toks + 51 * (dss.length + 1) = s.toks + 51 + 51 * dss.length := by omega
  simp only [fullEs, fullSubs, List.flatten_cons, List.length_cons, q3, q4, q5]
  refine Goes.cast (Goes.bind g1 (Goes.bind g2 (Goes.bind (n' := 0) g3 .pure))) (by omega)

theorem goes_display {h : Heap} (hn : n₀ ≤ h.objs.size) (hsm : sysModules < n₀) {ps psl : List (Sem Value × Sem Value)} {pss : List (List (Sem Value × Sem Value))} {ds dsl : List (Int × Str)} {dss : List (List (Int × Str))} {s : Shared}
    (hs : s.heap = h) (hp : Pairs p w n₀ z ps ds) (hl : ds.length = 17) (hc : Chunks p w n₀ z pss dss) (hpl : Pairs p w n₀ z psl dsl) (h15 : dsl.length ≤ 15) (h0 : dsl ≠ []) (hz : 17 * (dss.length + 1) + dsl.length ≤ 1000)
    (hnd : (((ds :: dss).flatten ++ dsl).map fun d => hashInt d.1).Nodup) :
    Goes p w n₀ (223 + 330 * dss.length + (19 * dsl.length + 6)) s z (dictDisplay (flatItems (ps :: pss) psl)) (.ref h.objs.size)
      { s with heap := app h (dictO (fullEs s.toks (ds :: dss) dsl) (17 * (dss.length + 1) + dsl.length) :: fullSubs s.toks (ds :: dss) dsl), toks := s.toks + 3 * (17 * (dss.length + 1) + dsl.length) } z := by
  unfold dictDisplay
  refine goes_display' hn hsm _ ?hf ?hg hs hp hl hc hpl h15 h0 hz hnd
  case hf =>
    intro m run pr hr
    have hne : ((run ++ [(pr.1, pr.2)]).length == 17) = false := by simp; omega
    simp only [mk1, hne, Bool.false_eq_true, if_false]
  case hg =>
    intro m run pr hr
    have hne : ((run ++ [(pr.1, pr.2)]).length == 17) = true := by simp; omega
    simp only [mk1, hne, if_true]
    rfl
end
end Mine
end

section
open PySem PySem.W PyProof.Rows
namespace Mine
def rowsOf : List (Option Expr) → List Expr → Option (List (Int × Str))
  | [], [] => some []
  | some (.Constant (.int i) _ _) :: ks, .Constant (.str x) _ _ :: vs => (rowsOf ks vs).map ((i, x) :: ·)
  | _, _ => none
def prsOf (env : Env) (z : Pos) : List (Option Expr) → List Expr → List (Sem Value × Sem Value)
  | some k :: ks, v :: vs => (eval k env, do let x ← eval v env; standAt z; pure x) :: prsOf env z ks vs
  | _, _ => []
def chunks17 {α : Type} : Nat → List α → List (List α)
  | 0, _ => []
  | k + 1, l => l.take 17 :: chunks17 k (l.drop 17)
section
variable {p : Program} {w : World} {n₀ : Nat} {z : Pos} {env : Env}
theorem prs_pairs : ∀ (ks : List (Option Expr)) (vs : List Expr) (R : List (Int × Str)), rowsOf ks vs = some R → Pairs p w n₀ z (prsOf env z ks vs) R ∧
    (evalEachOpt ks env).zip ((evalEach vs env).map fun v => do let x ← v; standAt z; pure x) = (prsOf env z ks vs).map mk1
  | [], [], R, h => by
    simp only [rowsOf, Option.some.injEq] at h
    subst h
    exact ⟨.nil, rfl⟩
  | [], _ :: _, R, h => by simp [rowsOf] at h
  | none :: _, _, R, h => by simp [rowsOf] at h
  | some k :: ks, [], R, h => by
    unfold rowsOf at h
    split at h <;> simp_all
  | some k :: ks, v :: vs, R, h => by
    unfold rowsOf at h
    split at h
    · rename_i e _; cases e
    · rename_i i _ _ ks' x _ _ vs' e1 e2
      simp only [List.cons.injEq, Option.some.injEq] at e1 e2
      obtain ⟨rfl, rfl⟩ := e1
      obtain ⟨rfl, rfl⟩ := e2
      obtain ⟨R', hR, rfl⟩ := Option.map_eq_some_iff.mp h
      obtain ⟨h1, h2⟩ := prs_pairs ks vs R' hR
      refine ⟨.cons ⟨fun s => ?_, fun s => ?_⟩ h1, ?_⟩
      · exact .fresh .pure
      · exact Goes.bind (n := 1) (n' := 1) (a := .str x s.toks) (s' := { s with toks := s.toks + 1 }) (q' := z) (.fresh .pure) (.at .pure)
      · unfold evalEachOpt evalEach prsOf
        simp only [List.map_cons, List.zip_cons_cons, h2]
        rfl
    · cases h

theorem pairs_take {ps : List (Sem Value × Sem Value)} {ds : List (Int × Str)} (hp : Pairs p w n₀ z ps ds) : ∀ k, Pairs p w n₀ z (ps.take k) (ds.take k) := by
  induction hp with
  | nil => intro k; simp only [List.take_nil]; exact .nil
  | cons h _ ih => intro k; cases k with
    | zero => exact .nil
    | succ k => exact .cons h (ih k)
theorem pairs_drop {ps : List (Sem Value × Sem Value)} {ds : List (Int × Str)} (hp : Pairs p w n₀ z ps ds) : ∀ k, Pairs p w n₀ z (ps.drop k) (ds.drop k) := by
  induction hp with
  | nil => intro k; simp only [List.drop_nil]; exact .nil
  | cons h r ih => intro k; cases k with
    | zero => exact .cons h r
    | succ k => exact ih k
theorem chunks_of : ∀ (k : Nat) (ps : List (Sem Value × Sem Value)) (ds : List (Int × Str)), Pairs p w n₀ z ps ds → 17 * k ≤ ds.length → Chunks p w n₀ z (chunks17 k ps) (chunks17 k ds)
  | 0, _, _, _, _ => .nil
  | k + 1, ps, ds, hp, h => .cons (pairs_take hp 17) (by rw [List.length_take]; omega) (chunks_of k _ _ (pairs_drop hp 17) (by rw [List.length_drop]; omega))
theorem chunks_length {α : Type} : ∀ (k : Nat) (l : List α), (chunks17 k l).length = k
  | 0, _ => rfl
  | k + 1, l => by simp [chunks17, chunks_length k]
theorem chunks_flat {α : Type} : ∀ (k : Nat) (l : List α), (chunks17 k l).flatten ++ l.drop (17 * k) = l
  | 0, l => by simp [chunks17]
  | k + 1, l => by
    have := chunks_flat k (l.drop 17)
    rw [List.drop_drop] at this
    simp only [chunks17, List.flatten_cons, List.append_assoc]
    rw [show 17 * (k + 1) = 17 + 17 * k by omega, this, List.take_append_drop]
theorem flat_chunks (k : Nat) (ps : List (Sem Value × Sem Value)) : flatItems (chunks17 k ps) (ps.drop (17 * k)) = ps.map mk1 := by
  unfold flatItems
  rw [← List.map_flatten, ← List.map_append, chunks_flat]

def mainD (T k : Nat) (R : List (Int × Str)) : Obj := dictO (fullEs T (chunks17 k R) (R.drop (17 * k))) R.length
def subsD (T k : Nat) (R : List (Int × Str)) : List Obj := fullSubs T (chunks17 k R) (R.drop (17 * k))

theorem goes_Dict {h : Heap} (hn : n₀ ≤ h.objs.size) (hsm : sysModules < n₀) {s : Shared} {q : Pos} {ks : List (Option Expr)} {vs : List Expr} {R : List (Int × Str)} (k : Nat) (hs : s.heap = h) (hR : rowsOf ks vs = some R) (h1 : 17 * (k + 1) < R.length) (h2 : R.length ≤ 17 * (k + 1) + 15) (hz : R.length ≤ 1000)
    (hnd : (R.map fun d => hashInt d.1).Nodup) :
    Goes p w n₀ (1 + (223 + 330 * k + (19 * (R.length - 17 * (k + 1)) + 6))) s q (eval (.Dict ks vs z) env) (.ref h.objs.size) { s with heap := app h (mainD s.toks (k + 1) R :: subsD s.toks (k + 1) R), toks := s.toks + 3 * R.length } z := by
  obtain ⟨hp, e⟩ := prs_pairs (p := p) (w := w) (n₀ := n₀) (z := z) (env := env) ks vs R hR
  rw [arm_eval_Dict, e, ← flat_chunks (k + 1)]
  have hc := chunks_of k (List.drop 17 (prsOf env z ks vs)) (R.drop 17) (pairs_drop hp 17) (by rw [List.length_drop]; omega)
  have hl : (R.take 17).length = 17 := by rw [List.length_take]; omega
  have hd := pairs_drop hp (17 * (k + 1))
  have hdl : (R.drop (17 * (k + 1))).length = R.length - 17 * (k + 1) := List.length_drop
  have g := goes_display (p := p) (w := w) (z := z) hn hsm (s := s) hs (pairs_take hp 17) hl hc hd (by rw [hdl]; omega) (by intro q; rw [q] at hdl; simp at hdl; omega) (by rw [chunks_length, hdl]; omega) (by
    have := chunks_flat (k + 1) R
    show (List.map _ ((chunks17 (k + 1) R).flatten ++ _)).Nodup
    rw [this]; exact hnd)
  rw [chunks_length, hdl] at g
  have e2 : 17 * (k + 1) + (R.length - 17 * (k + 1)) = R.length := by omega
  rw [e2] at g
  exact Goes.bind (n := 1) (.at .pure) g
end
end Mine
end

section
open PySem PySem.W PyProof.Rows
set_option maxRecDepth 100000
namespace Mine
theorem exec_dict (id : Str) (pn z pa : Pos) (ks : List (Option Expr)) (vs : List Expr) (env : Env) : exec (.Assign [.Name id pn] (.Dict ks vs z) pa) env =
    (((do standAt pa; eval (.Dict ks vs z) env) : Sem Value) >>= fun v => assignStores env v none ((assignEach [.Name id pn] env).map (fun x => x.2))) := by
  show ((do
    standAt pa
    if ← swapsWithSole [.Name id pn] (.Dict ks vs z) pa.line env then do
      evalThenUse (.Dict ks vs z) env fun v => assignAll v ((assignEach [.Name id pn] env).map (·.2))
      pure .next
    else do
      let v ← eval (.Dict ks vs z) env
      assignStores env v (← swappedStores [.Name id pn] (.Dict ks vs z) env) ((assignEach [.Name id pn] env).map (·.2))) : Sem Flow) = _
  rw [show swapsWithSole [.Name id pn] (.Dict ks vs z) pa.line env = pure false from rfl, show swappedStores [.Name id pn] (.Dict ks vs z) env = pure none from rfl]
  simp only [pure_bind, bind_assoc, Bool.false_eq_true, if_false]

def asc : List Int → Bool
  | a :: b :: r => decide (a < b) && asc (b :: r)
  | _ => true
theorem asc_lt : ∀ (l : List Int) (a : Int), asc (a :: l) = true → (∀ b ∈ l, a < b) ∧ asc l = true
  | [], _, _ => ⟨fun _ h => (nomatch h), rfl⟩
  | b :: r, a, h => by
    simp only [asc, Bool.and_eq_true, decide_eq_true_eq] at h
    refine ⟨fun c hc => ?_, h.2⟩
    rcases List.mem_cons.mp hc with rfl | hc
    · exact h.1
    · exact Int.lt_trans h.1 ((asc_lt r b h.2).1 c hc)
theorem asc_nodup : ∀ (l : List Int), asc l = true → l.Nodup
  | [], _ => .nil
  | a :: l, h => List.nodup_cons.mpr ⟨fun hm => Int.lt_irrefl a ((asc_lt l a h).1 a hm), asc_nodup l (asc_lt l a h).2⟩

noncomputable abbrev pw : Program := PySem.Challenge.pw_st0044_01
def kk : Nat := 37
noncomputable def env0 : Env := { scope := pw.main.scope, locals := mainNs, globals := mainNs, cells := [], code := .ref 13, frame := some 14 }
def dictOf : List Stmt → Option (List (Option Expr) × List Expr × Pos × Pos × Pos × Str)
  | _ :: _ :: .Assign (.Name x q :: _) (.Dict ks vs z) a :: _ => some (ks, vs, z, a, q, x)
  | _ => none
noncomputable def dKs : List (Option Expr) := match dictOf pw.main.body with | some d => d.1 | none => []
noncomputable def dVs : List Expr := match dictOf pw.main.body with | some d => d.2.1 | none => []
noncomputable def dZ : Pos := match dictOf pw.main.body with | some d => d.2.2.1 | none => ⟨0, 0, 0, 0⟩
noncomputable def dPa : Pos := match dictOf pw.main.body with | some d => d.2.2.2.1 | none => ⟨0, 0, 0, 0⟩
noncomputable def dPn : Pos := match dictOf pw.main.body with | some d => d.2.2.2.2.1 | none => ⟨0, 0, 0, 0⟩
noncomputable def dId : Str := match dictOf pw.main.body with | some d => d.2.2.2.2.2 | none => ⟨#[]⟩
noncomputable def rest0 : List Stmt := pw.main.body.drop 3
noncomputable def dSt : Stmt := .Assign [.Name dId dPn] (.Dict dKs dVs dZ) dPa
theorem body_is : behindTheImports pw = pw.main.body.take 2 ++ (dSt :: rest0) := by kernel_rfl
noncomputable def R0 : List (Int × Str) := (rowsOf dKs dVs).getD []
theorem rows_is : rowsOf dKs dVs = some R0 := by kernel_rfl
theorem rows_len : R0.length = 650 := by kernel_rfl
theorem rows_nodup : (R0.map fun d => hashInt d.1).Nodup := asc_nodup _ (by kernel_rfl)

abbrev ann0 : Option Value := some (.ref 6)
abbrev p00 : Pos := ⟨0, 0, 0, 0⟩
noncomputable def S0 (w : World) (os : OsState) : Shared := ⟨boot_heap w.params, Array.mk [], boot_drawn, boot_toks, os⟩
noncomputable def cE : Code := .body (behindTheImports pw) env0
noncomputable def Sa (w : World) (os : OsState) : Shared := match topGo treeTable pw w 11 ann0 12 (S0 w os) (topStub pw) with | some (s, _) => s | none => S0 w os
theorem ea (w : World) (os : OsState) : topGo treeTable pw w 11 ann0 12 (S0 w os) (topStub pw) = some (Sa w os, ⟨denote treeTable cE, cE, p00, [topFrame p00]⟩) := by kernel_rfl
theorem eb (w : World) (os : OsState) : segRun treeTable pw w 11 ann0 1 1 (Sa w os) (blockOf (behindTheImports pw) env0 cE p00 [topFrame p00]) = some (.next, Sa w os, cE, p00) := by kernel_rfl
noncomputable def Sb (w : World) (os : OsState) : Shared := match segRun treeTable pw w 11 ann0 1 39 (Sa w os) (piecesOf (pw.main.body.take 2) env0 cE p00 [topFrame p00]) with | some (_, s, _) => s | none => Sa w os
theorem ec (w : World) (os : OsState) : segRun treeTable pw w 11 ann0 1 39 (Sa w os) (piecesOf (pw.main.body.take 2) env0 cE p00 [topFrame p00]) = some (.next, Sb w os, cE, ⟨4, 0, 4, 8⟩) := by kernel_rfl
theorem sb_size (w : World) (os : OsState) : (Sb w os).heap.objs.size = 22 := by kernel_rfl
theorem sb_toks (w : World) (os : OsState) : (Sb w os).toks = 196 := by kernel_rfl
noncomputable def Sc (w : World) (os : OsState) : Shared := { Sb w os with heap := app (Sb w os).heap (mainD 196 (kk + 1) R0 :: subsD 196 (kk + 1) R0), toks := 196 + 3 * 650 }
noncomputable def tailT : Thread := ⟨(assignStores env0 (.ref 22) none ((assignEach [.Name dId dPn] env0).map (·.2))).wrap (fun f => match f with | .next => (execs rest0 env0).wrap doneF (leaveH env0) id id | f => doneF f) (leaveH env0) id id, cE, dZ, [topFrame p00]⟩
noncomputable def nD : Nat := 1 + (1 + (223 + 330 * kk + (19 * (R0.length - 17 * (kk + 1)) + 6)))
theorem chain (w : World) (os : OsState) (N : Nat) (r : Shared) (h : topRun treeTable pw w 11 ann0 N (Sc w os) tailT = some r) :
    topRun treeTable pw w 11 ann0 (12 + (1 + (39 + (nD + N)))) (S0 w os) (topStub pw) = some r := by
  refine go_top (ea w os) ?_
  refine piece_block (eb w os) ?_
  rw [body_is]
  have e := ec w os
  refine piece_app (s' := Sb w os) (p' := ⟨4, 0, 4, 8⟩) e ?_
  unfold restOf
  rw [execs_cons_wrap]
  unfold dSt
  rw [exec_dict, Sem.bind_eq_wrap', Sem.wrap_wrap]
  have g := goes_Dict (p := pw) (w := w) (n₀ := 11) (z := dZ) (env := env0) (h := (Sb w os).heap) (by rw [sb_size]; decide) (by decide) (s := Sb w os) (q := dPa) (R := R0) kk rfl rows_is (by rw [rows_len]; decide) (by rw [rows_len]; decide) (by rw [rows_len]; decide) rows_nodup
  rw [sb_size, sb_toks, rows_len] at g
  have g2 : Goes pw w 11 nD (Sb w os) ⟨4, 0, 4, 8⟩ (do standAt dPa; eval (.Dict dKs dVs dZ) env0) (.ref 22) (Sc w os) dZ := Goes.bind (n := 1) (.at .pure) g
  exact g2.top _ _ _ _ _ _ _ _ h
end Mine
end

section
open PySem PySem.W PyProof.Rows
set_option maxRecDepth 100000
namespace Mine
noncomputable def qv : Program := view pw [0,3,5,6,7,11,12,13,14,15,16]
noncomputable def Rr (w : World) (os : OsState) : Option Shared := topRun treeTable pw w 11 ann0 2000 (Sc w os) tailT
theorem nD_le : nD ≤ 30000 := by unfold nD; rw [rows_len]; decide
theorem more (w : World) (os : OsState) (r : Shared) (m : Nat) (hm : m ≤ 30000) (h : topRun treeTable pw w 11 ann0 (12 + (1 + (39 + (m + 2000)))) (S0 w os) (topStub pw) = some r) :
    topRun treeTable pw w 11 ann0 40000 (S0 w os) (topStub pw) = some r := by
  have t := topRun_mono (37948 - m) _ _ _ _ h
  rw [show 12 + (1 + (39 + (m + 2000))) + (37948 - m) = 40000 by omega] at t
  exact t
theorem left_of {loose : List Str} {Xt : Shared → Bool} {α : Type} {Yf : Shared → α} {Ya : World → α}
    (E : ∀ w : World, (fun os => (Rr w os).map (fun s => (staticsOk (importedModules pw.main.body) (boot_heap w.params) s.heap && namesBound pw s.heap && gensDone s && laidKept (boot_heap w.params) s.heap,
      openSeen qv loose (importedModules pw.main.body) Xt true s, Yf s))) = fun _ => some (true, openGood qv loose, Ya w)) : LeftO pw qv loose Xt Yf Ya 40000 true := fun w => by
  have hb := boot_open (p := pw) (N := 40000) (by kernel_rfl) rfl (fun _ => rfl) w
  obtain ⟨⟨h, gs, d, k, os⟩, e, e'⟩ := Option.map_eq_some_iff.mp hb
  obtain ⟨rfl, rfl, rfl, rfl⟩ : h = boot_heap w.params ∧ gs = Array.mk [] ∧ d = boot_drawn ∧ k = boot_toks := by simpa using e'
  obtain ⟨r, hr, hq⟩ := Option.map_eq_some_iff.mp (congrFun (E w) os)
  obtain ⟨q1, q2, q3⟩ : _ ∧ _ ∧ _ := by simpa only [Prod.mk.injEq] using hq
  have t := more w os r nD nD_le (chain w os 2000 r hr)
  have f : topFrom treeTable pw w 40000 ⟨boot_heap w.params, Array.mk [], boot_drawn, boot_toks, os⟩ = some r := by
    unfold topFrom
    dsimp only
    rw [show ((boot_heap w.params).isNs mainGlobals && (Array.mk ([] : List GenState)).size == 0) = true by kernel_rfl, show (boot_heap w.params).objs.size = 11 by kernel_rfl, show (boot_heap w.params).nsMap mainGlobals "__annotations__" = ann0 by kernel_rfl]
    have t' : topRun treeTable pw w 11 ann0 40000 ⟨boot_heap w.params, Array.mk [], boot_drawn, boot_toks, os⟩ (topStub pw) = some r := t
    rw [t']
    show (match staticsOk (importedModules pw.main.body) (boot_heap w.params) r.heap && namesBound pw r.heap && gensDone r && laidKept (boot_heap w.params) r.heap with | true => some r | false => none) = _
    rw [q1]
  unfold openEnds
  rw [e]
  show ((topFrom treeTable pw w 40000 ⟨boot_heap w.params, Array.mk [], boot_drawn, boot_toks, os⟩).map _) = _
  rw [f]
  show some (openSeen qv loose (importedModules pw.main.body) Xt true r, Yf r) = _
  rw [q2, q3]
end Mine
end

section
open PySem PySem.W PyProof.Rows
namespace Mine
local macro_rules | `(tactic| o_head $H) => `(tactic| (
  refine holds_open (q := qv) (loose := [Str.ofString "b3_exceptions", Str.ofString "Whitespace"]) (Xt := fun s => xlAt qv [] s && recOk (RowW.records (PySem.Challenge.rw_st0044_01).row.toRowW) s) (XP := XL qv []) (Yf := Hook.obs $H) (Ya := Hook.val $H) (YP := Hook.says $H) (N := 40000) ?hl (Hook.of $H) (Hook.keeps $H) (fun s e => xl_of s (Bool.and_eq_true_iff.mp e).1) XL.keeps (by rfl) (by rfl) (by rfl) (fun s e => recFacts_of (Bool.and_eq_true_iff.mp e).2) (by first | rfl | fail "open_line: no head takes a call that writes beside a table") (by first | assumption | decide +kernel) (by decide +kernel) ⟨rfl, rfl, rfl, rfl, rfl, by decide +kernel⟩ ?hw ?hc))
set_option maxRecDepth 100000 in
theorem said0 : OpenLaw.wellSaid PySem.Challenge.rw_st0044_01 = true := by
  simp -zeta only [OpenLaw.wellSaid, OpenRow.wellSaid, OpenRow.partSaid, looksOpen, Bool.and_eq_true]
  and_intros <;> decide +kernel
local macro_rules | `(tactic| o_law) => `(tactic| (refine holds_law said0 fun said => ?_))
set_option maxRecDepth 100000 in
set_option maxHeartbeats 8000000 in
noncomputable def hd : (Q : Prop) ×' (P : Prop) ×' (PLift Q → PLift P → PySem.Challenge.rw_st0044_01.Holds) := by
  refine' ⟨_, _, fun hq hp => _⟩
  rotate_left 2
  · w_on
    o_law
    k_head
    (case hw => w_witness2)
    (case hl => exact hq.down)
    exact hp.down
set_option maxRecDepth 100000 in
set_option maxHeartbeats 8000000 in
noncomputable def hl2 : (A : Prop) ×' (B : Prop) ×' (PLift A → PLift B → hd.1) := by
  refine' ⟨_, _, fun ha hb => _⟩
  rotate_left 2
  · refine left_of ?_
    refine byRow2 "special-get-raises" (fun w => ?a) (fun w => ?b)
    case a => revert w; exact ha.down
    case b => revert w; exact hb.down
set_option maxRecDepth 100000 in
theorem hA : hl2.1 := by intro w; kernel_rfl
set_option maxRecDepth 100000 in
theorem hB : hl2.2.1 := by intro w; kernel_rfl
theorem hdw : hd.2.1 → PySem.Challenge.rw_st0044_01.Holds := fun h => hd.2.2 ⟨hl2.2.2 ⟨hA⟩ ⟨hB⟩⟩ ⟨h⟩
end Mine
end

section
open PySem PySem.W PyProof.Rows
namespace MineW
theorem sub_refl {α : Type} {m : List α} : ∀ q ∈ m, q ∈ m := fun _ h => h
theorem sub_tail {α : Type} {m l : List α} {a : α} (h : ∀ q ∈ m, q ∈ l) : ∀ q ∈ m, q ∈ a :: l := fun q hq => .tail _ (h q hq)
theorem sub_left {α : Type} {m l r : List α} (h : ∀ q ∈ m, q ∈ l) : ∀ q ∈ m, q ∈ l ++ r := fun q hq => List.mem_append_left _ (h q hq)
theorem sub_right {α : Type} {m l r : List α} (h : ∀ q ∈ m, q ∈ r) : ∀ q ∈ m, q ∈ l ++ r := fun q hq => List.mem_append_right _ (h q hq)
def sp (n : Nat) : List Nat := List.replicate n 32
def lineL (a : Nat) (core : List Nat) (b : Nat) : List Nat := sp a ++ core ++ sp b
def line (a : Nat) (core : List Nat) (b : Nat) : Str := ⟨(lineL a core b).toArray⟩
theorem line_len (a b : Nat) (core : List Nat) : (line a core b).length = a + core.length + b := by
  simp [line, lineL, sp, Str.length, Nat.add_assoc]
theorem sp_add (m n : Nat) : sp (m + n) = sp m ++ sp n := by simp [sp, List.replicate_append_replicate]
theorem slice_line {a b p q : Nat} {core : List Nat} {i j : Int} (hi : i = p) (hp : p ≤ a) (hj : j = ((a + core.length + q : Nat) : Int)) (hq : q ≤ b) :
    Txt.slice (line a core b) (some i) (some j) = line (a - p) core q := by
  subst hi hj
  show StrLaws.sliceText (line a core b) (some _) (some _) = _
  have hl : (line a core b).cps.toList.length = a + core.length + b := by simp [line, lineL, sp, Nat.add_assoc]
  rw [StrLaws.sliceText_nat _ (by omega) (by have := line_len a b core; omega)]
  obtain ⟨a', rfl⟩ : ∃ a', a = p + a' := ⟨a - p, by omega⟩
  obtain ⟨b', rfl⟩ : ∃ b', b = q + b' := ⟨b - q, by omega⟩
  have e1 : (line (p + a') core (q + b')).cps.toList = sp p ++ ((sp a' ++ core ++ sp q) ++ sp b') := by
    simp [line, lineL, sp_add, List.append_assoc]
  rw [e1, show p + a' - p = a' by omega]
  rw [show (sp p ++ ((sp a' ++ core ++ sp q) ++ sp b')).drop p = (sp a' ++ core ++ sp q) ++ sp b' by
    have : p = (sp p).length := by simp [sp]
    conv => lhs; arg 1; rw [this]
    rw [List.drop_left]]
  rw [show p + a' + core.length + q - p = (sp a' ++ core ++ sp q).length by simp [sp]; omega, List.take_left]
  rfl
theorem rev_line (a b : Nat) (core : List Nat) (u : Tok) : Txt.sliceBy (line a core b) none none (-1, u) = line b core.reverse a := by
  have h := step_rev_list (line a core b) u
  have h2 : (Txt.sliceBy (line a core b) none none (-1, u)).cps.toList = (line b core.reverse a).cps.toList := by
    rw [h]
    have e : (line b core.reverse a).cps.toList = (lineL a core b).reverse := by simp [line, lineL, sp, List.append_assoc]
    rw [e]
    apply List.ext_getElem
    · simp [line_len, lineL, sp]; omega
    · intro n h1 h2
      have hn : n < (lineL a core b).length := by simpa using h2
      simp only [List.getElem_map, List.getElem_range, List.getElem_reverse]
      rw [show (line a core b).length = (lineL a core b).length by simp [line, Str.length]]
      simp only [line, Array.getD_eq_getD_getElem?, List.getElem?_toArray]
      rw [List.getElem?_eq_getElem (by omega)]
      rfl
  cases hx : Txt.sliceBy (line a core b) none none (-1, u) with | mk c => 
    cases hy : line b core.reverse a with | mk d =>
      rw [hx, hy] at h2
      congr 1
      exact Array.toList_inj.mp h2

section
variable {prog : Program} {w : World} {A : Around} {E : Value → Shared → Prop} {s : Shared} {value slice : PySem.Expr} {x : PySem.Str} {t u : Tok} {i : Int} {Q : Value → Shared → Prop}
theorem item_line {a b : Nat} {core : List Nat} (h0 : 0 ≤ i) (h1 : i < ((a + core.length + b : Nat) : Int)) (hn : a + core.length + b ≤ 1000)
    (h : Q (.str (Txt.item (line a core b) i) s.toks) { s with toks := s.toks + 1 })
    (hs : subscripted slice false (.str (line a core b) t) (.int i u) = operate [.str (line a core b) t, .int i u] (getItem (.str (line a core b) t) (.int i u)) := by with_unfolding_all rfl)
    (ht : ∀ r, letTemporaryGo value (.str (line a core b) t) r = pure () := by intro _; with_unfolding_all rfl) :
    wpAny (model prog w) A (subscriptTail value slice (.str (line a core b) t) (.int i u)) Q E s :=
  item_str (fitsSsize_of (N := 9223372036854775808) (by omega) (by omega) (Int.le_refl _)) (by rw [line_len]; omega) (by rw [line_len]; exact h1) (fun _ => h) hs ht
theorem slice_line_r {a b p q : Nat} {core : List Nat} {j : Int} {ui uj : Tok} {h₀ : Heap} {L : Addr} {m : Str → Option Value} {news : List (Addr × Obj)} (hi : i = p) (hp : p ≤ a) (hj : j = ((a + core.length + q : Nat) : Int)) (hq : q ≤ b) (hn : a + core.length + b ≤ 1000)
    (hF : Fr h₀ L s.heap m) (hN : News h₀ L s.heap news) (h : ∀ h' t' k, Fr h₀ L h' m → News h₀ L h' news → Q (.str (line (a - p) core q) t') { s with heap := h', toks := k })
    (hs : subscripted slice false (.str (line a core b) t) (.ref s.heap.objs.size) = operate [.ref s.heap.objs.size, .str (line a core b) t] (getItem (.str (line a core b) t) (.ref s.heap.objs.size)) := by with_unfolding_all rfl)
    (ht : ∀ r, letTemporaryGo value (.str (line a core b) t) r = pure () := by intro _; with_unfolding_all rfl) :
    wpAny (model prog w) A (subscriptTail value slice (.str (line a core b) t) (.ref s.heap.objs.size)) Q E { s with heap := s.heap.push { cls := .type "slice", data := .fields #[.int i ui, .int j uj, .none] } } :=
  slice_strN_ss hF hN (fun h' t' k F N => by rw [slice_line hi hp hj hq]; exact h h' t' k F N) hs ht (by rw [line_len]; unfold sizeLine; omega)
theorem slice_rev_r {a b : Nat} {core : List Nat} {uk : Tok} {h₀ : Heap} {L : Addr} {m : Str → Option Value} {news : List (Addr × Obj)} (hn : a + core.length + b ≤ 1000)
    (hF : Fr h₀ L s.heap m) (hN : News h₀ L s.heap news) (h : ∀ h' t' k, Fr h₀ L h' m → News h₀ L h' news → Q (.str (line b core.reverse a) t') { s with heap := h', toks := k })
    (hs : subscripted slice false (.str (line a core b) t) (.ref s.heap.objs.size) = operate [.ref s.heap.objs.size, .str (line a core b) t] (getItem (.str (line a core b) t) (.ref s.heap.objs.size)) := by with_unfolding_all rfl)
    (ht : ∀ r, letTemporaryGo value (.str (line a core b) t) r = pure () := by intro _; with_unfolding_all rfl) :
    wpAny (model prog w) A (subscriptTail value slice (.str (line a core b) t) (.ref s.heap.objs.size)) Q E { s with heap := s.heap.push { cls := .type "slice", data := .fields #[.none, .none, .int (-1) uk] } } :=
  slice_strK_nn hF hN (by decide) (fun h' t' k F N => by rw [rev_line]; exact h h' t' k F N) hs ht (by rw [line_len]; unfold sizeLine; omega)
theorem len_line {a b : Nat} {core : List Nat} (hn : a + core.length + b ≤ 1000)
    (h : Q (.int ((a + core.length + b : Nat) : Int) (s.toks + 1)) { s with toks := s.toks + 1 + 1 }) :
    wpAny (model prog w) A (call (.builtin "len") [.str (line a core b) t]) Q E s :=
  P.len_str (by rw [line_len]; omega) (by rw [line_len]; exact h)
end

theorem item_at (x : Str) (i : Nat) (c : Nat) (h : x.cps[i]? = some c) : Txt.item x i = ⟨#[c]⟩ := by
  have hi : i < x.length := by
    have := Array.getElem?_eq_some_iff.mp h
    exact this.1
  unfold Txt.item Txt.charAt
  have e : seqIndex? (i : Int) x.length = some i := by
    unfold seqIndex?
    have h1 : ¬ ((i : Int) < 0) := by omega
    simp only [h1, if_false]
    rw [if_pos (by simp; omega)]
    simp
  rw [e]
  simp [h]
theorem sp_get (n i : Nat) (h : i < n) : (sp n)[i]? = some 32 := by simp [sp, h]
theorem line_get1 {a b : Nat} {core : List Nat} {i : Nat} (h : i < a) : (line a core b).cps[i]? = some 32 := by
  simp only [line, lineL, List.getElem?_toArray, List.append_assoc]
  rw [List.getElem?_append_left (by simp [sp]; exact h)]
  exact sp_get a i h
theorem line_get2 {a b : Nat} {core : List Nat} {i : Nat} (h : a ≤ i) (h2 : i < a + core.length) : (line a core b).cps[i]? = core[i - a]? := by
  simp only [line, lineL, List.getElem?_toArray, List.append_assoc]
  rw [List.getElem?_append_right (by simp [sp]; exact h), List.getElem?_append_left (by simp [sp]; omega)]
  simp [sp]
theorem line_get3 {a b : Nat} {core : List Nat} {i : Nat} (h : a + core.length ≤ i) (h2 : i < a + core.length + b) : (line a core b).cps[i]? = some 32 := by
  simp only [line, lineL, List.getElem?_toArray]
  rw [List.getElem?_append_right (by simp [sp]; exact h)]
  exact sp_get b _ (by simp [sp]; omega)
theorem blank_left {a b : Nat} {core : List Nat} {i : Int} (hc : core ≠ []) (h0 : core.head? ≠ some 32) (hi : 0 ≤ i) (hia : i ≤ a) :
    (Txt.item (line a core b) i == Str.ofString " ") = decide (i < a) := by
  obtain ⟨k, rfl⟩ := Int.eq_ofNat_of_zero_le hi
  by_cases h : k < a
  · rw [item_at _ k 32 (line_get1 h), decide_eq_true (by omega)]; decide +kernel
  · have hk : k = a := by omega
    subst hk
    cases core with
    | nil => exact absurd rfl hc
    | cons x r =>
      rw [item_at _ k x (by rw [line_get2 (by omega) (by simp)]; simp), decide_eq_false (by omega)]
      rw [show Str.ofString " " = ⟨#[32]⟩ by decide +kernel]
      simp only [beq_eq_false_iff_ne, ne_eq, Str.mk.injEq]
      intro q
      simp at q
      exact h0 (by simp [q])
theorem blank_right {a b : Nat} {core : List Nat} {i : Int} (hc : core ≠ []) (h0 : core.getLast? ≠ some 32) (hi : a + core.length - 1 ≤ i) (hia : i < a + core.length + b) :
    (Txt.item (line a core b) i == Str.ofString " ") = decide (a + core.length ≤ i) := by
  have hl : 1 ≤ core.length := by cases core with | nil => exact absurd rfl hc | cons _ _ => simp
  obtain ⟨k, rfl⟩ := Int.eq_ofNat_of_zero_le (show 0 ≤ i by omega)
  by_cases h : a + core.length ≤ k
  · rw [item_at _ k 32 (line_get3 h (by omega)), decide_eq_true (by omega)]; decide +kernel
  · have hk : k = a + core.length - 1 := by omega
    subst hk
    have e : core[core.length - 1]? = core.getLast? := by rw [List.getLast?_eq_getElem?]
    obtain ⟨x, hx⟩ : ∃ x, core.getLast? = some x := by cases core with | nil => exact absurd rfl hc | cons y r => exact ⟨_, List.getLast?_eq_some_getLast (by simp)⟩
    rw [item_at _ (a + core.length - 1) x (by rw [line_get2 (by omega) (by omega), show a + core.length - 1 - a = core.length - 1 by omega, e, hx]), decide_eq_false (by omega)]
    rw [show Str.ofString " " = ⟨#[32]⟩ by decide +kernel]
    simp only [beq_eq_false_iff_ne, ne_eq, Str.mk.injEq]
    intro q
    simp at q
    exact h0 (by rw [hx, q])
theorem char_line {p b c : Nat} {core : List Nat} {pre post : List Int} (hc : core ≠ []) (ec : KStt.codes (line p core b) = pre ++ (c : Int) :: post) (hp : pre.length ≤ p) :
    (pre.length < p ∧ c = 32) ∨ (pre.length = p ∧ core.head? = some c) := by
  have h : (KStt.codes (line p core b))[pre.length]? = some (c : Int) := by rw [ec]; simp
  have h2 : (line p core b).cps[pre.length]? = some c := by
    simp only [KStt.codes, List.getElem?_map, Array.getElem?_toList, Option.map_eq_some_iff] at h
    obtain ⟨d, hd, e⟩ := h
    rw [hd]; congr 1; omega
  rcases Nat.lt_or_eq_of_le hp with h3 | h3
  · rw [line_get1 h3] at h2
    exact .inl ⟨h3, (Option.some.inj h2).symm⟩
  · refine .inr ⟨h3, ?_⟩
    cases core with
    | nil => exact absurd rfl hc
    | cons x r =>
      rw [line_get2 (by omega) (by simp; omega), h3] at h2
      simpa using h2
theorem one_beq (c d : Nat) (x : Str) (h : x = ⟨#[d]⟩) : ((⟨#[c]⟩ : Str) == x) = decide (c = d) := by
  subst h
  by_cases e : c = d
  · subst e; simp
  · simp [e]
end MineW
end

section
open PySem PySem.W PyProof.Rows in
local macro_rules | `(tactic| k_memK) => `(tactic| first | exact List.Mem.head _ | exact MineW.sub_refl | (refine' List.Mem.tail _ ?_; k_memK) | (refine' List.mem_append_left _ ?_; k_memK) | (refine' List.mem_append_right _ ?_; k_memK) | exact List.forall_mem_nil _ | (refine' List.forall_mem_cons.mpr ⟨?a, ?b⟩; (case a => k_memK); (case b => k_memK)) | (refine' List.forall_mem_append.mpr ⟨?a, ?b⟩; (case a => k_memK); (case b => k_memK)) | (refine' MineW.sub_tail ?_; k_memK) | (refine' MineW.sub_left ?_; k_memK) | (refine' MineW.sub_right ?_; k_memK))

section
theorem MineW.fresh1 : True := by
  w_top off
  trivial
open PySem PySem.W PyProof.Rows
namespace MineW
noncomputable abbrev LO : List Str := looseW Mine.qv [Str.ofString "b3_exceptions", Str.ofString "Whitespace"]
section
variable {prog : Program} {w : World} {A : Around} {E : Value → Shared → Prop} {Q : Flow → Shared → Prop} {s : Shared} {env : Env} {h₀ : Heap} {L : Addr}
theorem while_pure {σ : Type} {test : PySem.Expr} {body : List Stmt} {pos : Pos} {m₀ : Str → Option Value} (Led : σ → List (Addr × Obj)) (ps : σ → List (Str × Value)) (P : σ → Prop) (μ : σ → Nat) (C : σ → Prop) [∀ c, Decidable (C c)] (c₀ : σ)
    (F : Fr h₀ L s.heap m₀) (N : News h₀ L s.heap (Led c₀)) (hk : ∀ p ∈ ps c₀, m₀ p.1 = some p.2) (hp : P c₀)
    (htest : ∀ (c : σ) h tk (Q' : Bool → Shared → Prop), P c → Fr h₀ L h (kstB m₀ (ps c)) → News h₀ L h (Led c) →
      (∀ b h' tk', b = decide (C c) → Fr h₀ L h' (kstB m₀ (ps c)) → News h₀ L h' (Led c) → Q' b { s with heap := h', toks := tk' }) →
      wpAny (model prog w) A (isTrue test env (eval test env)) Q' E { s with heap := h, toks := tk })
    (hbody : ∀ (c : σ) h tk, P c → C c → Fr h₀ L h (kstB m₀ (ps c)) → News h₀ L h (Led c) → wpAny (model prog w) A (execs body env) (KswPost h₀ L s Led ps (fun _ => True) [] m₀ P μ Q c) E { s with heap := h, toks := tk })
    (hdone : ∀ (c : σ) h tk, P c → ¬ C c → Fr h₀ L h (kstB m₀ (ps c)) → News h₀ L h (Led c) → Q .next { s with heap := h, toks := tk })
    (hE : PassesOwn (model prog w) A env E := by passes_own) :
    wpAny (model prog w) A (exec (.While test body [] pos) env) Q E s := by
  refine ksw_while Led ps (fun _ => True) [] P μ c₀ F N trivial hk hp (fun c u h tk _ hP F' N' => ?_) hE
  have em : (fun z => if ([] : List Str).contains z = true then u z else m₀ z) = m₀ := by funext z; simp
  rw [em] at F'
  refine htest c h tk _ hP F' N' fun b h' tk' hb F'' N'' => ?_
  by_cases hc : C c
  · rw [hb, decide_eq_true hc, if_pos rfl]; exact hbody c h' tk' hP hc F'' N''
  · rw [hb, decide_eq_false hc, if_neg (by decide)]; exact hdone c h' tk' hP hc F'' N''
end
local macro_rules | `(tactic| walk_at "subscriptTail Name Name str int") => `(tactic| (k_here; with_reducible refine' item_line ?k1 ?k2 ?k3 ?_; (case k1 => omega); (case k2 => omega); (case k3 => omega)))
local macro_rules | `(tactic| walk_at "call builtin:len") => `(tactic| (k_here; with_reducible refine' len_line ?k3 ?_; (case k3 => omega)))

set_option maxRecDepth 100000 in
set_option maxHeartbeats 8000000 in
theorem strip_spec (w : World) (mean : ExcName → Option Value) (mg mb : Str → Option Value) (news : List (Addr × Obj)) (core : List Nat) (a b : Nat) (j : Int) (t u : Tok)
   (hc : core ≠ []) (h0 : core.head? ≠ some 32) (h1 : core.getLast? ≠ some 32) (ha : a ≤ 100) (hb : b ≤ 100) (hl : core.length ≤ 100) (hj : 0 ≤ j) (hj2 : j ≤ 1000) :
   CbClaim PySem.Challenge.rw_st0044_01.row.prog w (Mine.hd.heap_1 w.params) Mine.qv LO mean mg mb 81 news [] True [.str (line a core b) t, .int j u]
     (fun t => .str (line (a - j.toNat) core (min b (a + b - j.toNat))) t) := by
  k_fill
  dsimp only [CbClaim, CbLists, CbRet]
  intros; rename_i hret
  have hcl : 1 ≤ core.length := by cases core with | nil => exact absurd rfl hc | cons _ _ => simp
  refine wpAny_call ?_
  k_dflt cell_enter
  (iterate 6 (walk_at "W"))
  rename Fr _ _ _ _ => lF
  rename News _ _ _ _ => lN
  with_unfolding_all refine' while_pure (σ := Int × Tok × Int × Tok) (fun _ => news) (fun c => [(Str.ofString "lpos", .int c.1 c.2.1), (Str.ofString "amount", .int c.2.2.1 c.2.2.2)]) (fun c => 0 ≤ c.1 ∧ 0 ≤ c.2.2.1 ∧ c.1 + c.2.2.1 = j ∧ c.1 ≤ a) (fun c => c.2.2.1.toNat) (fun c => c.2.2.1 ≠ 0 ∧ c.1 < a) (0, _, j, _) lF lN (List.forall_mem_cons.mpr ⟨rfl, List.forall_mem_cons.mpr ⟨rfl, List.forall_mem_nil _⟩⟩) ?kp ?_ ?_ ?_
  · dsimp only; omega
  · clear lF lN
    rintro ⟨lp, t1, am, t2⟩ kH kTk Q' ⟨i1, i2, i3, i4⟩ kFr kNews hQ
    dsimp only at i1 i2 i3 i4
    (iterate 5 (walk_at "W"))
    · (iterate 10 (walk_at "W"))
      · walk_at "W"
        refine hQ _ _ _ ?_ (by assumption) (by assumption)
        rename_i hz hx
        rw [blank_left hc h0 (by dsimp only; omega) (by dsimp only; omega)] at hx
        exact (decide_eq_true ⟨hz, by simpa using hx⟩).symm
      · refine hQ _ _ _ ?_ (by assumption) (by assumption)
        rename_i hz hx
        rw [blank_left hc h0 (by dsimp only; omega) (by dsimp only; omega)] at hx
        exact (decide_eq_false (fun q => by simp at hx; have := q.2; dsimp only at this; omega)).symm
    · refine hQ _ _ _ ?_ (by assumption) (by assumption)
      rename_i hz; exact (decide_eq_false (fun q => q.1 hz)).symm
  · clear lF lN
    rintro ⟨lp, t1, am, t2⟩ kH kTk ⟨i1, i2, i3, i4⟩ ⟨c1, c2⟩ kFr kNews
    dsimp only at i1 i2 i3 i4 c1 c2
    (iterate 14 (walk_at "W"))
    rename Fr _ _ _ _ => lF
    rename News _ _ _ _ => lN
    refine' ksw_end (lp + 1, _, am - 1, _) lF lN ?e1 ?e2 ?e3 ?e4 ?e5 ?e6
    case e1 => kst_in
    case e2 => kst_facts
    case e3 => kst_all
    case e4 => (intro z h2 h3; simp only [List.forall_mem_cons, List.not_mem_nil, false_implies, implies_true, and_true, ne_eq] at h2; simp [h2, kstB])
    case e5 => (dsimp only; omega)
    case e6 => (dsimp only; omega)
  · clear lF lN
    rintro ⟨lp, t1, am, t2⟩ kH kTk ⟨i1, i2, i3, i4⟩ c1 kFr kNews
    dsimp only at i1 i2 i3 i4 c1
    (iterate 15 (walk_at "W"))
    rename Fr _ _ _ _ => lF
    rename News _ _ _ _ => lN
    with_unfolding_all refine' while_pure (σ := Int × Tok × Int × Tok) (fun _ => news) (fun c => [(Str.ofString "rpos", .int c.1 c.2.1), (Str.ofString "amount", .int c.2.2.1 c.2.2.2)]) (fun c => 0 ≤ c.2.2.1 ∧ c.1 ≤ a + core.length + b - 1 ∧ (a + core.length + b - 1 - c.1) + c.2.2.1 = am ∧ a + core.length - 1 ≤ c.1) (fun c => c.2.2.1.toNat) (fun c => c.2.2.1 ≠ 0 ∧ a + core.length ≤ c.1) (((a + core.length + b : Nat) : Int) - 1, _, am, _) lF lN (List.forall_mem_cons.mpr ⟨rfl, List.forall_mem_cons.mpr ⟨rfl, List.forall_mem_nil _⟩⟩) ?kp2 ?_ ?_ ?_
    · dsimp only; omega
    · clear lF lN
      rintro ⟨rp, t3, am2, t4⟩ kH kTk Q' ⟨q1, q2, q3, q4⟩ kFr kNews hQ
      dsimp only at q1 q2 q3 q4
      (iterate 5 (walk_at "W"))
      · (iterate 10 (walk_at "W"))
        · walk_at "W"
          refine hQ _ _ _ ?_ (by assumption) (by assumption)
          rename_i hz hx
          rw [blank_right hc h1 (by dsimp only; omega) (by dsimp only; omega)] at hx
          exact (decide_eq_true ⟨hz, by simpa using hx⟩).symm
        · refine hQ _ _ _ ?_ (by assumption) (by assumption)
          rename_i hz hx
          rw [blank_right hc h1 (by dsimp only; omega) (by dsimp only; omega)] at hx
          exact (decide_eq_false (fun q => by simp at hx; have := q.2; dsimp only at this; omega)).symm
      · refine hQ _ _ _ ?_ (by assumption) (by assumption)
        rename_i hz; exact (decide_eq_false (fun q => q.1 hz)).symm
    · clear lF lN
      rintro ⟨rp, t3, am2, t4⟩ kH kTk ⟨q1, q2, q3, q4⟩ ⟨c1, c2⟩ kFr kNews
      dsimp only at q1 q2 q3 q4 c1 c2
      (iterate 14 (walk_at "W"))
      rename Fr _ _ _ _ => lF
      rename News _ _ _ _ => lN
      refine' ksw_end (rp - 1, _, am2 - 1, _) lF lN ?f1 ?f2 ?f3 ?f4 ?f5 ?f6
      case f1 => kst_in
      case f2 => kst_facts
      case f3 => kst_all
      case f4 => (intro z h2 h3; simp only [List.forall_mem_cons, List.not_mem_nil, false_implies, implies_true, and_true, ne_eq] at h2; simp [h2, kstB])
      case f5 => (dsimp only; omega)
      case f6 => (dsimp only; omega)
    · clear lF lN
      rintro ⟨rp, t3, am2, t4⟩ kH kTk ⟨q1, q2, q3, q4⟩ c2 kFr kNews
      dsimp only at q1 q2 q3 q4 c2
      (iterate 13 (walk_at "W"))
      rename Fr _ _ _ _ => lF
      rename News _ _ _ _ => lN
      k_here
      with_unfolding_all refine' slice_line_r (s := ⟨_, _, _, _, _⟩) (p := lp.toNat) (q := (rp + 1 - (a + core.length)).toNat) ?g1 ?g2 ?g3 ?g4 ?g5 lF lN ?_
      case g1 => (dsimp only; omega)
      case g2 => omega
      case g3 => (dsimp only; omega)
      case g4 => omega
      case g5 => omega
      clear lF lN
      intro h' t' k lF lN
      walk_at "W"
      have e : line (a - lp.toNat) core (rp + 1 - (a + core.length)).toNat = line (a - j.toNat) core (min b (a + b - j.toNat)) := by
        rw [show a - lp.toNat = a - j.toNat by omega, show (rp + 1 - (a + core.length : Int)).toNat = min b (a + b - j.toNat) by omega]
      rw [e]
      exact hret _ _ _ (by assumption) (by assumption)
end MineW
end

section
theorem MineW.fresh2 : True := by
  w_top off
  trivial
open PySem PySem.W PyProof.Rows
namespace MineW
abbrev wsE (w : World) (k : Str) (t : Tok) (v : Value) : DictEntry := ⟨PyData.keyHash w.params k, .str k t, v⟩
abbrev wsDict (w : World) (x : Str) (p : Int) (E : Addr) (k1 k2 k3 k4 k5 t1 t2 t3 : Tok) : Obj :=
  dictOf [wsE w (Str.ofString "raw") k1 (.str x t1), wsE w (Str.ofString "n") k2 (.int p t2), wsE w (Str.ofString "nt") k3 (.int 0 t3), wsE w (Str.ofString "norm") k4 (.ref E), wsE w (Str.ofString "is_simple") k5 (.bool true)] 5
abbrev tupOf (l : List Value) : Obj := { cls := .type "tuple", data := .seq l.toArray }
abbrev WsClaim (prog : Program) (w : World) (K : Frag) (p : Program) (loose : List Str) (mean : ExcName → Option Value) (mg mb : Str → Option Value) (f : Addr) (news : List (Addr × Obj)) (x : Str) (t : Tok) (n : Nat) : Prop :=
  ∀ (dp un : Nat) (gd : Option (List Code)) (cn : Str) (cs : Scope) (a : Addr) (ccd : Value) (cl : List (Str × Addr)) (outer : List Env) (A₀ : Around) (base h₀ : Heap) (L : Addr) (m : Str → Option Value) (s : Shared) (Q E : Value → Shared → Prop),
    Below A₀ base outer h₀ → Fr h₀ L s.heap m → K.In h₀ → News h₀ L s.heap news → Top p loose mean mg mb h₀ → cs.kind = .function →
    dp + 1 < recursionLimit → un + 8 < cLine →
    (∀ (x' d E' D : Addr) (k1 k2 k3 k4 k5 t1 t2 t3 t4 : Tok) (h' : Heap) (tk' : Nat), Fr h₀ L h' m →
       News h₀ L h' ((E', tupOf [.ref D, .int n t4]) :: (D, tupOf []) :: (x', instObj f d) :: (d, wsDict w x n E' k1 k2 k3 k4 k5 t1 t2 t3) :: news) → Q (.ref x') { s with heap := h', toks := tk' }) →
      wpAny (model prog w) (ktrTop dp un gd cn cs L a ccd cl outer) (call (.ref f) [.str x t]) Q E s
local macro_rules | `(tactic| walk_at "call ref") => `(tactic| (k_here; k_dflt (refine' call_cls ?k1 ?k2 ?k3 ?k4 ?k5 ?k6 ?_; (case k1 => k_asm); (case k2 => k_asm); (case k3 => k_asm); (case k4 => k_is); (case k5 => k_is); (case k6 => k_is); k_whole; intro x' d' h' F' N' l1 l2; (try k_lt l1); (try k_lt2 l2); (try k_sweep); cell_enter)))
set_option maxRecDepth 100000 in
set_option maxHeartbeats 8000000 in
theorem ws_spec (w : World) (mean : ExcName → Option Value) (mg mb : Str → Option Value) (news : List (Addr × Obj)) (core : List Nat) (p b : Nat) (t : Tok)
   (hc : core ≠ []) (h0 : core.head? ≠ some 32) (h1 : core.head? ≠ some 9) (ha : p ≤ 100) (hb : b ≤ 100) (hl : core.length ≤ 100) :
   WsClaim PySem.Challenge.rw_st0044_01.row.prog w (Mine.hd.heap_1 w.params) Mine.qv LO mean mg mb 143 news (line p core b) t p := by
  k_fill
  dsimp only [WsClaim]
  intro dp un gd cn cs a' ccd cl outer A₀ base h₀ L m s Q E b1 b2 b3 b4 b5 b6 b7 b8 hret
  have hfull : ∀ (x' d E' D l D2 : Addr) (k1 k2 k3 k4 k5 t1 t2 t3 t4 t5 t6 : Tok) (h' : Heap) (tk' : Nat), Fr h₀ L h' m →
       News h₀ L h' ((E', tupOf [.ref D, .int p t4]) :: (D, tupOf []) :: (l, listOf #[] 0) :: (D2, tupOf [.str (Str.ofString " ") t5, .str (Str.ofString "\t") t6]) :: (x', instObj 143 d) :: (d, wsDict w (line p core b) p E' k1 k2 k3 k4 k5 t1 t2 t3) :: news) → Q (.ref x') { s with heap := h', toks := tk' } := by
    intro x' d E' D l D2 k1 k2 k3 k4 k5 t1 t2 t3 t4 t5 t6 h' tk' F N
    refine hret x' d E' D k1 k2 k3 k4 k5 t1 t2 t3 t4 h' tk' F (cb_drop N ?_)
    intro q hq
    simp only [List.mem_cons] at hq ⊢
    rcases hq with h | h | h | h | h
    · exact .inl h
    · exact .inr (.inl h)
    · exact .inr (.inr (.inr (.inr (.inl h))))
    · exact .inr (.inr (.inr (.inr (.inr (.inl h)))))
    · exact .inr (.inr (.inr (.inr (.inr (.inr h)))))
  (iterate 50 (walk_at "W"))
  rename Fr _ _ _ _ => lF
  rename News _ _ _ _ => lN
  k_here
  with_unfolding_all refine' KStt.kst_text (σ := Int × Tok × Int × Tok) (fun _ => _) (fun c => [(Str.ofString "n", .int c.1 c.2.1), (Str.ofString "b", .int c.2.2.1 c.2.2.2)]) (fun _ => True) [] (fun pre c => c.1 = pre.length ∧ c.2.2.1 = pre.length ∧ pre.length ≤ p) (0, _, 0, _) (by rfl) lF lN trivial (List.forall_mem_cons.mpr ⟨rfl, List.forall_mem_cons.mpr ⟨rfl, List.forall_mem_nil _⟩⟩) ⟨rfl, rfl, Nat.zero_le _⟩ ?_ ?_
  · clear lF lN
    rintro ⟨n, t1, bb, t2⟩ pre post c tc u kH kTk own ec hoff - ⟨i1, i2, i3⟩ kFr kNews
    dsimp only at i1 i2 i3
    (iterate 8 (walk_at "W"))
    · have hq := char_line hc ec i3
      rename_i hx
      rw [one_beq c 32 _ (by decide +kernel), decide_eq_true_eq] at hx
      have hq : pre.length < p := by rcases hq with q | q; exact q.1; exact absurd (hx ▸ q.2) h0
      (iterate 17 (walk_at "W"))
      rename Fr _ _ _ _ => lF
      rename News _ _ _ _ => lN
      refine' kst_end (n + 1, _, bb + 1, _) lF lN (fun q hq => List.mem_append_left _ hq) (fun q hq => List.mem_append_right _ hq) (by rfl) trivial ?hk1 ?hr1 ?hp1
      case hk1 => kst_all
      case hr1 => (intro z h1 h2 h3; simp only [List.forall_mem_cons, List.not_mem_nil, false_implies, implies_true, and_true, ne_eq] at h2; simp [h1, h2, kstB])
      case hp1 => (dsimp only; rw [List.length_append]; simp only [List.length_cons, List.length_nil]; omega)
    · have hq := char_line hc ec i3
      rename_i hx
      rw [one_beq c 32 _ (by decide +kernel), decide_eq_false_iff_not] at hx
      have hq : pre.length = p ∧ core.head? = some c := by rcases hq with q | q; exact absurd q.2 hx; exact q
      (iterate 8 (walk_at "W"))
      · rename_i hy
        rw [one_beq c 9 _ (by decide +kernel), decide_eq_true_eq] at hy
        exact absurd (hy ▸ hq.2) h1
      · rename News _ _ _ _ => lN
        have lN2 := cb_drop lN (fun q hq => List.mem_append_left _ hq)
        clear lN
        (iterate 49 (walk_at "W"))
        rename Fr _ _ _ _ => lF
        rename News _ _ _ _ => lN
        have e1 : n = p := by omega
        have e2 : bb = p := by omega
        dsimp only at lN
        subst e1 e2
        with_unfolding_all exact hfull _ _ _ _ _ _ _ _ _ _ _ _ _ _ _ _ _ _ _ lF lN
  · clear lF lN
    rintro ⟨n, t1, bb, t2⟩ u kH kTk - ⟨i1, i2, i3⟩ kFr kNews
    exfalso
    rw [KStt.codes_length, line_len] at i3
    have : 1 ≤ core.length := by cases core with | nil => exact absurd rfl hc | cons _ _ => simp
    omega
end MineW
end

section
open PySem PySem.W PyProof.Rows
open Sem (wp)
namespace MineW
section
variable {M : Model} {A : Around} {R : GenEnd} {Y : Protocol} {n : Nat} {s₀ : Shared} {c : Code} {fs : List Frame} {s : Shared} {env : Env}
  {K : Flow → Sem Fin} {H : Value → Sem Fin} {gd : Bool → Bool} {lv : List Value → List Value}
def NoE : Value → Shared → Prop := fun _ _ => False
theorem seg_stmt {st : Stmt} (h : wpAny M (A.over c fs) (exec st env) (fun f s' => Seg M A R Y n s₀ c (K f) fs s') NoE s) :
    Seg M A R Y n s₀ c ((exec st env).wrap K H gd lv) fs s :=
  seg_wrap (wpAny_mono h (fun _ _ x => x) fun _ _ x => x.elim)

theorem seg_For {target iter : PySem.Expr} {body orelse : List Stmt} {pos : Pos} (hs : ∀ x, foldedSetIterable iter env x = pure x)
    (h : wpAny M (A.over c fs) (eval iter env) (fun x s₁ => wpAny M (A.over c fs) (pyIter x) (fun it s₂ =>
      ∀ p, Seg M A R Y n s₀ (.forLoop target it body orelse env) (M.den (.forLoop target it body orelse env))
      (.ret (fun r => ((match r with | .ok f => (.pure f : Sem Flow) | .error e => .raise e).onRaise fun (x : Value) => do
        if (← field x 1) == Value.none then unsupported "frame.own-activation:exception-without-traceback"
        setFlight x env.frame).wrap K H gd lv) none (gd false) (lv []) c p [] :: fs) s₂) NoE s₁) NoE s) :
    Seg M A R Y n s₀ c ((exec (.For target iter body orelse pos) env).wrap K H gd lv) fs s := by
  rw [exec_For]
  refine seg_at ?_
  show Seg M A R Y n s₀ c (((eval iter env) >>= fun y => foldedSetIterable iter env y >>= fun x => (standAt iter.pos >>= fun _ => (holding [x] (pyIter x) >>= fun it => runOwn (.forLoop target it body orelse env) env))).wrap K H gd lv) fs s
  rw [Sem.bind_eq_wrap' (eval iter env), Sem.wrap_wrap]
  refine seg_wrap (wpAny_mono h (fun x s₁ h₁ => ?_) fun _ _ x => x.elim)
  rw [hs x]
  show Seg M A R Y n s₀ c ((standAt iter.pos >>= fun _ => (holding [x] (pyIter x) >>= fun it => runOwn (.forLoop target it body orelse env) env)).wrap K H gd lv) fs s₁
  refine seg_at ?_
  show Seg M A R Y n s₀ c ((holding [x] (pyIter x) >>= fun it => runOwn (.forLoop target it body orelse env) env).wrap K H gd lv) fs s₁
  rw [Sem.bind_eq_wrap' (holding [x] (pyIter x)), Sem.wrap_wrap]
  refine seg_wrap (wpAny_holding (wpAny_mono h₁ (fun it s₂ h₂ => ?_) fun _ _ x => x.elim))
  exact seg_call h₂
end
section
variable {prog : Program} {w : World} {A : Around} {R : GenEnd} {Y : Protocol} {n : Nat} {s₀ : Shared} {fs : List Frame} {s : Shared} {env : Env}
theorem seg_forLoop {target : PySem.Expr} {it : Value} {body orelse : List Stmt} (ht : ∀ v, letOwnedTupleGo target it v = pure ())
    (h : wpAny (model prog w) (A.over (.forLoop target it body orelse env) fs) (pyNext it) (fun r s₁ => match r with
      | none => Seg (model prog w) A R Y n s₀ (.block orelse env) ((model prog w).den (.block orelse env)) fs s₁
      | some v => wpAny (model prog w) (A.over (.forLoop target it body orelse env) fs) (assign target env v) (fun _ s₂ =>
          Seg (model prog w) A R Y n s₀ (.forLoop target it body orelse env) ((execs body env).wrap (fun f => match f with
            | .next | .cont => .pure (.again (.forLoop target it body orelse env))
            | .brk => .pure (.done .next)
            | .ret v => .pure (.done (.ret v))) (fun e => (do noteFrame e env; theTreesLotGoes e : Sem Unit).wrap (fun _ => .raise e) .raise id id) id id) fs s₂) NoE s₁) NoE s) :
    Seg (model prog w) A R Y n s₀ (.forLoop target it body orelse env) ((model prog w).den (.forLoop target it body orelse env)) fs s := by
  show Seg _ A R Y n s₀ _ ((forTurn target it body orelse env).onRaise (fun x => do noteFrame x env; theTreesLotGoes x)) fs s
  unfold forTurn
  rw [Sem.onRaise_eq_wrap]
  refine seg_at ?_
  show Seg _ A R Y n s₀ _ (((pyNext it).onRaise (fun _ => standAt { target.pos with line := 0 }) >>= _).wrap _ _ _ _) fs s
  rw [Sem.bind_eq_wrap', Sem.wrap_wrap]
  refine seg_wrap (wpAny_onRaise (wpAny_mono h (fun r s₁ h₁ => ?_) fun _ _ x => x.elim))
  cases r with
  | none => exact seg_again rfl h₁
  | some v =>
    show Seg _ A R Y n s₀ _ ((letOwnedTupleGo target it v >>= fun _ => (assign target env v >>= fun _ => (execs body env >>= _))).wrap _ _ _ _) fs s₁
    rw [ht v]
    show Seg _ A R Y n s₀ _ ((assign target env v >>= fun _ => (execs body env >>= _)).wrap _ _ _ _) fs s₁
    rw [Sem.bind_eq_wrap' (assign target env v), Sem.wrap_wrap]
    refine seg_wrap (wpAny_mono h₁ (fun _ s₂ h₂ => ?_) fun _ _ x => x.elim)
    rw [Sem.bind_eq_wrap' (execs body env), Sem.wrap_wrap]
    rw [Sem.wrap_congr (execs body env) _ _ (K' := fun f => match f with
            | .next | .cont => .pure (.again (.forLoop target it body orelse env))
            | .brk => .pure (.done .next)
            | .ret v => .pure (.done (.ret v))) (H' := (fun e => (do noteFrame e env; theTreesLotGoes e : Sem Unit).wrap (fun _ => .raise e) .raise id id))
        (fun f => by cases f <;> rfl)
        (fun e => by first | exact Sem.bind_eq_wrap _ _ | (show (do noteFrame e env; theTreesLotGoes e : Sem Unit).bind (fun _ => .raise e) = _; rw [Sem.bind_eq_wrap]))]
    exact h₂
end
section
variable {prog : Program} {w : World} {A : Around} {E : Value → Shared → Prop} {s : Shared}
/-- one step of a generator function's object, the state left being bare -/
theorem pyNext_genQ {a : Addr} {g n : Nat} {gs : GenState} {P : Nat → Shared → Shared → Prop} {Y : Protocol} {Q : Option Value → Shared → Prop} (hh : A.handled = none)
    (hl : s.heap.NoLimit) (hroom : A.depth < recursionLimit) (hg : s.heap.IsGen a g) (hgs : s.gens[g]? = some gs)
    (hgo : gs.Goes (model prog w) A.in1 (fun n s₀ r s₁ => r = .ok (.ret .none) ∧ P n s₀ s₁) Y n (.send .none) (s.setGen g .running))
    (hY : ∀ v s₁ gs', gs'.bare = true → Y (n - 1) (s.setGen g .running) v s₁ (fun r' s'' => match n with
        | 0 => False
        | m + 1 => gs'.Goes (model prog w) A.in1 (fun n s₀ r s₁ => r = .ok (.ret .none) ∧ P n s₀ s₁) Y m r' s'') → Q (some v) (s₁.setGen g gs'))
    (hP : ∀ s₁, P n (s.setGen g .running) s₁ → ∀ h', (∀ b o, s₁.heap.get? b = some o → h'.get? b = some o) → Q none { s₁.setGen g .finished with heap := h' }) :
    wpAny (model prog w) A (pyNext (.ref a)) Q E s := by
  have hgo' : gs ≠ .running ∧ gs ≠ .finished := ⟨fun e => by subst e; exact hgo.elim, fun e => by subst e; exact hgo.elim⟩
  unfold pyNext
  refine wpAny_bind (wpAny_attempt (wpAny_callSpecial?_slot (name := Str.ofString "__next__") hg.typeIs slot_gen_next
    (wpAny_call_entry slot_gen_next hg.typeIs entry_gen_next ?_ (args_gen_next _))))
  show wpAny _ A.in1 (Builtin.Generator.genWake (.ref a) (.send .none)) _ _ s
  unfold Builtin.Generator.genWake
  refine wpAny_bind (wpAny_holding (wpAny_genNumber hg (wpAny_bind (wpAny_genState hgs ?_))))
  have woken : ∀ (k : GenResult → Sem Fin) (Q' : Fin → Shared → Prop) (E' : Value → Shared → Prop),
      (∀ v s', Q (some v) s' → wpAny (model prog w) A.in1 (k (.yielded v)) Q' E' s') →
      (∀ s₁, P n (s.setGen g .running) s₁ → wpAny (model prog w) A.in1 (k (.returned .none)) Q' E' (s₁.setGen g .finished)) →
      wpAny (model prog w) A.in1 (.resume g (.send .none) [] k) Q' E' s := fun k Q' E' hy hr =>
    wpAny_resumeQ hgs hgo (fun x s₁ hx => by rw [hx.1]; exact hr s₁ hx.2) fun v s₁ gs' hb hv => hy v _ (hY v s₁ gs' hb hv)
  cases gs with
  | running => exact absurd rfl hgo'.1
  | finished => exact absurd rfl hgo'.2
  | _ =>
    refine wpAny_bind (wpAny_roomToWake hl hroom (woken _ _ _ (fun v s' hq => wpAny_pure ⟨v, rfl, wpAny_pure hq⟩) fun s₁ hp => ?_))
    show wpAny _ _ (newExc (.type "StopIteration") [] >>= _) _ _ _
    simp only [newExc, newTuple, raiseNew]
    refine wpAny_bind (wpAny_bind (wpAny_newObj_type ?_ (by size_fits)))
    refine wpAny_bind (m := firstArgMember _ _) (wpAny_of_eq (a := Value.none) (by first | rfl | (simp only [firstArgMember]; rfl)) (wpAny_newObj_type ?_ (by size_fits)))
    refine wpAny_bind (wpAny_bind (wpAny_handled ?_))
    rw [show A.in1.handled = none from hh]
    exact wpAny_throw (wpAny_bind (wpAny_isInstance (T := "StopIteration") (b := true) ⟨_, Heap.get?_push_size _ rfl, rfl⟩ isSubtype_stop (wpAny_pure (hP s₁ hp _ fun b o hb => Heap.get?_push_of_some _ (Heap.get?_push_of_some _ hb)))))
end
end MineW
end

section
open PySem PySem.W PyProof.Rows
namespace MineW
abbrev Ents := List (Addr × Obj)
/-- the generator object `a` (number g) in the state `gs` yields just `xs` and stops; what it uses beyond `h₀` are the entries `its` -/
def GenLeft (prog : Program) (w : World) (A : Around) (h₀ : Heap) (a : Addr) (g : Nat) : List Int → Ents → GenState → Prop
  | [], its, gs => ∀ (s : Shared) (Q : Option Value → Shared → Prop) (E : Value → Shared → Prop), s.heap.IsGen a g → (∀ p ∈ its, s.heap.get? p.1 = some p.2) → (∀ b o, h₀.get? b = some o → s.heap.get? b = some o) → s.gens[g]? = some gs →
      (∀ h' tk', (∀ b o, b ∉ its.map (·.1) → s.heap.get? b = some o → h'.get? b = some o) → Q none { s with heap := h', toks := tk', gens := s.gens.setIfInBounds g .finished }) → wpAny (model prog w) A (pyNext (.ref a)) Q E s
  | x :: r, its, gs => ∀ (s : Shared) (Q : Option Value → Shared → Prop) (E : Value → Shared → Prop), s.heap.IsGen a g → (∀ p ∈ its, s.heap.get? p.1 = some p.2) → (∀ b o, h₀.get? b = some o → s.heap.get? b = some o) → s.gens[g]? = some gs →
      (∀ t h' tk' gs' its', gs'.bare = true → GenLeft prog w A h₀ a g r its' gs' → (∀ p ∈ its', h'.get? p.1 = some p.2 ∧ (p.1 ∈ its.map (·.1) ∨ s.heap.get? p.1 = none)) →
        (∀ b o, b ∉ its.map (·.1) → s.heap.get? b = some o → h'.get? b = some o) → Q (some (.int x t)) { s with heap := h', toks := tk', gens := s.gens.setIfInBounds g gs' }) → wpAny (model prog w) A (pyNext (.ref a)) Q E s

theorem AllBare.set {G : Array GenState} {g : Nat} {gs : GenState} (B : AllBare G) (h : gs.bare = true) : AllBare (G.setIfInBounds g gs) := fun y hy => by
  rcases Array.mem_or_eq_of_mem_setIfInBounds hy with h1 | h1
  · exact B y h1
  · exact h1 ▸ h

section
variable {prog : Program} {w : World} {A : Around} {E : Value → Shared → Prop} {s : Shared} {env : Env} {h₀ : Heap} {R : Result → Shared → Prop}
theorem loop_gen {x : Str} {px : Pos} {body : List Stmt} {a : Addr} {g : Nat} {go : Obj} (adr : List Addr) (J : List Int → (Str → Option Value) → Ents → Prop)
    (hgo : ∀ h : Heap, h.get? a = some go → h.IsGen a g)
    (hx : env.kindOf x = some .local) (hp : (env.scope.kind == .class || (env.scope.kind == .module && env.locals != env.globals)) = false)
    (turn : ∀ z r m₁ nx t h tk G own, OwnOff own adr → nx.map (·.1) = adr → J (z :: r) m₁ nx → Fr h₀ env.locals h (fun y => if y = x then some (.int z t) else m₁ y) → News h₀ env.locals h (nx ++ own) → AllBare G →
      wpAny (model prog w) A (execs body env) (InvPostN h₀ env.locals (J r) own adr { s with heap := h, toks := tk, gens := G } fun f s' => R (.ok f) s') NoE { s with heap := h, toks := tk, gens := G })
    (done : ∀ m₁ nx h tk G, J [] m₁ nx → Fr h₀ env.locals h m₁ → News h₀ env.locals h nx → AllBare G → R (.ok .next) { s with heap := h, toks := tk, gens := G })
    {xs : List Int} {its : Ents} {gs : GenState} {m : Str → Option Value} {nx : Ents} (GL : GenLeft prog w A h₀ a g xs its gs) (hJ : J xs m nx) (hadr : nx.map (·.1) = adr)
    (F : Fr h₀ env.locals s.heap m) (N : News h₀ env.locals s.heap (nx ++ ((a, go) :: its))) (ho : OwnOff ((a, go) :: its) adr) (ha : ∀ p ∈ its, p.1 ≠ a) (hg : s.gens[g]? = some gs) (hB : AllBare s.gens) :
    codeAny (model prog w) A (.forLoop (.Name x px) (.ref a) body [] env) R s := by
  refine codeAny_forLoop (fun n s' => ∃ xs its gs m nx h tk G, n = xs.length ∧ s' = { s with heap := h, toks := tk, gens := G } ∧ GenLeft prog w A h₀ a g xs its gs ∧ J xs m nx ∧ nx.map (·.1) = adr ∧
      Fr h₀ env.locals h m ∧ News h₀ env.locals h (nx ++ ((a, go) :: its)) ∧ OwnOff ((a, go) :: its) adr ∧ (∀ p ∈ its, p.1 ≠ a) ∧ G[g]? = some gs ∧ AllBare G) ?_ _ ⟨xs, its, gs, m, nx, s.heap, s.toks, s.gens, rfl, rfl, GL, hJ, hadr, F, N, ho, ha, hg, hB⟩
  rintro n s' ⟨xs, its, gs, m, nx, h, tk, G, rfl, rfl, GL, hJ, hadr, F, N, ho, ha, hg, hB⟩
  have hgen : h.IsGen a g := hgo h (N (a, go) (List.mem_append_right _ (.head _))).1
  have hits : ∀ p ∈ its, h.get? p.1 = some p.2 := fun p hp => (N p (List.mem_append_right _ (.tail _ hp))).1
  have hold : ∀ (h' : Heap), (∀ b o, b ∉ its.map (·.1) → h.get? b = some o → h'.get? b = some o) → Fr h₀ env.locals h' m ∧ News h₀ env.locals h' (nx ++ [(a, go)]) := by
    intro h' hk
    refine ⟨⟨F.ns.at' fun o e => hk _ o (fun q => ?_) e, fun b o e => hk b o (fun q => ?_) (F.keep b o e), F.above⟩, fun p hp => ⟨hk _ _ (fun q => ?_) (N p ?_).1, (N p ?_).2⟩⟩
    · obtain ⟨p, hp, e⟩ := List.mem_map.mp q
      exact (N p (List.mem_append_right _ (.tail _ hp))).2.1 e
    · obtain ⟨p, hp, rfl⟩ := List.mem_map.mp q
      have := (N p (List.mem_append_right _ (.tail _ hp))).2.2
      rw [this] at e; cases e
    · obtain ⟨p', hp', e⟩ := List.mem_map.mp q
      rcases List.mem_append.mp hp with h1 | h1
      · exact ho p' (.tail _ hp') p.1 (hadr ▸ List.mem_map_of_mem h1) e
      · rw [List.mem_singleton.mp h1] at e; exact ha p' hp' e
    all_goals
      rcases List.mem_append.mp hp with h1 | h1
      · exact List.mem_append_left _ h1
      · exact List.mem_append_right _ (List.mem_singleton.mp h1 ▸ .head _)
  cases xs with
  | nil =>
    refine GL _ _ _ hgen hits (fun b o e => F.keep b o e) hg fun h' tk' hk => ?_
    obtain ⟨F', N'⟩ := hold h' hk
    exact wpAny_execs_nil (done m nx h' tk' _ hJ F' (fun p hp => N' p (List.mem_append_left _ hp)) (AllBare.set hB rfl))
  | cons z r =>
    refine GL _ _ _ hgen hits (fun b o e => F.keep b o e) hg fun t h' tk' gs' its' hb GL' hi' hk => ?_
    obtain ⟨F', N'⟩ := hold h' hk
    have hN' : News h₀ env.locals h' (nx ++ ((a, go) :: its')) := by
      intro p hp
      rcases List.mem_append.mp hp with h1 | h1
      · exact N' p (List.mem_append_left _ h1)
      · rcases List.mem_cons.mp h1 with rfl | h1
        · exact N' _ (List.mem_append_right _ (.head _))
        · refine ⟨(hi' p h1).1, fun e => ?_, ?_⟩
          · rcases (hi' p h1).2 with q | q
            · obtain ⟨p', hp', e'⟩ := List.mem_map.mp q
              exact (N p' (List.mem_append_right _ (.tail _ hp'))).2.1 (e'.trans e)
            · obtain ⟨o, _, _, hL, _⟩ := F.ns
              rw [e] at q
              rw [show h.get? env.locals = none from q] at hL; cases hL
          · rcases (hi' p h1).2 with q | q
            · obtain ⟨p', hp', e'⟩ := List.mem_map.mp q
              have := (N p' (List.mem_append_right _ (.tail _ hp'))).2.2
              rw [e'] at this; exact this
            · cases e : h₀.get? p.1 with
              | none => rfl
              | some o => have := F.keep _ _ e; rw [show h.get? p.1 = none from q] at this; cases this
    have ho' : OwnOff ((a, go) :: its') adr := by
      intro p hp b hb
      rcases List.mem_cons.mp hp with rfl | h1
      · exact ho _ (.head _) b hb
      · rcases (hi' p h1).2 with q | q
        · obtain ⟨p', hp', e'⟩ := List.mem_map.mp q
          exact e' ▸ ho p' (.tail _ hp') b hb
        · intro e
          rw [← hadr] at hb
          obtain ⟨p', hp', e'⟩ := List.mem_map.mp hb
          have := (N p' (List.mem_append_left _ hp')).1
          rw [e', ← e, show h.get? p.1 = none from q] at this; cases this
    have ha' : ∀ p ∈ its', p.1 ≠ a := by
      intro p h1 e
      rcases (hi' p h1).2 with q | q
      · obtain ⟨p', hp', e'⟩ := List.mem_map.mp q
        exact ha p' hp' (e'.trans e)
      · have := (N (a, go) (List.mem_append_right _ (.head _))).1
        rw [← e, show h.get? p.1 = none from q] at this; cases this
    refine wpAny_assign_Name (wpAny_storeName_local hx F'.ns (fun h₂ hn₂ hs₂ => ?_) hp)
    have F₂ := F'.set hn₂ hs₂
    refine wpAny_mono (turn z r m nx t h₂ (tk' + 1) (G.setIfInBounds g gs') ((a, go) :: its') ho' hadr hJ F₂ (hN'.set hs₂) (AllBare.set hB hb)) (fun f s₃ h₃ => ?_) fun _ _ x => x.elim
    have hgs : (G.setIfInBounds g gs')[g]? = some gs' := by
      have hlt : g < G.size := (Array.getElem?_eq_some_iff.mp hg).1
      simp [hlt]
    have fin : InvEndN h₀ env.locals (J r) ((a, go) :: its') adr { s with heap := h₂, toks := tk' + 1, gens := G.setIfInBounds g gs' } s₃ →
        ∃ n', n' < (z :: r).length ∧ ∃ xs its gs m nx h tk G, n' = xs.length ∧ s₃ = { s with heap := h, toks := tk, gens := G } ∧ GenLeft prog w A h₀ a g xs its gs ∧ J xs m nx ∧ nx.map (·.1) = adr ∧
          Fr h₀ env.locals h m ∧ News h₀ env.locals h (nx ++ ((a, go) :: its)) ∧ OwnOff ((a, go) :: its) adr ∧ (∀ p ∈ its, p.1 ≠ a) ∧ G[g]? = some gs ∧ AllBare G := by
      rintro ⟨h₃', tk₃, m₃, news₃, nx₃, rfl, F₃, N₃, hs1, hs2, had, hJ₃⟩
      refine ⟨r.length, Nat.lt_succ_self _, r, its', gs', m₃, nx₃, h₃', tk₃, _, rfl, rfl, GL', hJ₃, had, F₃, fun p hp => ?_, ho', ha', hgs, AllBare.set hB hb⟩
      rcases List.mem_append.mp hp with h1 | h1
      · exact N₃ p (hs1 p h1)
      · exact N₃ p (hs2 p h1)
    cases f with
    | ret v => exact h₃
    | brk => exact h₃
    | cont => exact fin h₃
    | next => exact fin h₃
end
end MineW
end

section
open PySem PySem.W PyProof.Rows
namespace MineW
/-- a yield: the item that is due, the frame Lg and the list's iterator I as they then stand, all else as it was -/
def YI (h₀ : Heap) (Lg I l : Addr) (lo : Obj) (xs : List Int) : Protocol := fun n s₀ v s' kap =>
  ∃ t h' tk' o' io, v = .int (xs.getD (xs.length - 1 - n) 0) t ∧ s' = { s₀ with heap := h', toks := tk' } ∧ h'.get? Lg = some o' ∧ h'.get? I = some io ∧ h'.get? l = some lo ∧
    (∀ b o, b ≠ Lg → b ≠ I → s₀.heap.get? b = some o → h'.get? b = some o) ∧
    ∀ s'' : Shared, s''.heap.get? Lg = some o' → s''.heap.get? I = some io → s''.heap.get? l = some lo → (∀ b o, h₀.get? b = some o → s''.heap.get? b = some o) → kap (.send .none) s''
def PI (Lg I : Addr) (n : Nat) (s₀ s₁ : Shared) : Prop :=
  n = 0 ∧ ∃ h' tk', s₁ = { s₀ with heap := h', toks := tk' } ∧ ∀ b o, b ≠ Lg → b ≠ I → s₀.heap.get? b = some o → h'.get? b = some o
def RI (Lg I : Addr) : GenEnd := fun n s₀ r s₁ => r = .ok (.ret .none) ∧ PI Lg I n s₀ s₁
section
variable {prog : Program} {w : World} {A : Around} {h₀ : Heap} {a Lg I l : Addr} {g : Nat} {lo : Obj} {xs : List Int}
theorem gl_step (hh : A.handled = none) (hl : h₀.NoLimit) (hroom : A.depth < recursionLimit) {s : Shared} {Q : Option Value → Shared → Prop} {E : Value → Shared → Prop} {z : Int} {r : List Int} {gs : GenState} {its : Ents}
    (hx : xs.drop (xs.length - (r.length + 1)) = z :: r) (hle : r.length + 1 ≤ xs.length)
    (hg : s.heap.IsGen a g) (hk : ∀ b o, h₀.get? b = some o → s.heap.get? b = some o) (hgs : s.gens[g]? = some gs) (hLi : Lg ∈ its.map (·.1)) (hIi : I ∈ its.map (·.1) ∨ s.heap.get? I = none) (hli : l ∈ its.map (·.1))
    (hgo : gs.Goes (model prog w) A.in1 (RI Lg I) (YI h₀ Lg I l lo xs) (r.length + 1) (.send .none) (s.setGen g .running))
    (next : ∀ gs' o' io, (∀ s'' : Shared, s''.heap.get? Lg = some o' → s''.heap.get? I = some io → s''.heap.get? l = some lo → (∀ b o, h₀.get? b = some o → s''.heap.get? b = some o) →
        gs'.Goes (model prog w) A.in1 (RI Lg I) (YI h₀ Lg I l lo xs) r.length (.send .none) s'') → GenLeft prog w A h₀ a g r [(Lg, o'), (I, io), (l, lo)] gs')
    (hQ : ∀ t h' tk' gs' its', gs'.bare = true → GenLeft prog w A h₀ a g r its' gs' → (∀ p ∈ its', h'.get? p.1 = some p.2 ∧ (p.1 ∈ its.map (·.1) ∨ s.heap.get? p.1 = none)) →
        (∀ b o, b ∉ its.map (·.1) → s.heap.get? b = some o → h'.get? b = some o) → Q (some (.int z t)) { s with heap := h', toks := tk', gens := s.gens.setIfInBounds g gs' }) :
    wpAny (model prog w) A (pyNext (.ref a)) Q E s := by
  refine pyNext_genQ (P := PI Lg I) (Y := YI h₀ Lg I l lo xs) (n := r.length + 1) hh (hl.keeps hk) hroom hg hgs hgo ?_ ?_
  · rintro v s₁ gs' hb ⟨t, h', tk', o', io, rfl, rfl, e1, e2, e3, hf, hn⟩
    have ez : xs.getD (xs.length - 1 - (r.length + 1 - 1)) 0 = z := by
      have e : xs.length - 1 - (r.length + 1 - 1) = xs.length - (r.length + 1) := by omega
      rw [e]
      have h2 : (xs.drop (xs.length - (r.length + 1)))[0]? = some z := by rw [hx]; rfl
      rw [List.getElem?_drop] at h2
      rw [List.getD_eq_getElem?_getD, show xs.length - (r.length + 1) = xs.length - (r.length + 1) + 0 by omega, h2]; rfl
    rw [ez]
    have eg : ({ s.setGen g .running with heap := h', toks := tk' } : Shared).setGen g gs' = { s with heap := h', toks := tk', gens := s.gens.setIfInBounds g gs' } := by
      simp [Shared.setGen]
    rw [eg]
    refine hQ t h' tk' gs' [(Lg, o'), (I, io), (l, lo)] hb (next gs' o' io hn) ?_ ?_
    · intro p hp
      simp only [List.mem_cons, List.not_mem_nil, or_false] at hp
      rcases hp with rfl | rfl | rfl
      · exact ⟨e1, .inl hLi⟩
      · exact ⟨e2, hIi⟩
      · exact ⟨e3, .inl hli⟩
    · intro b o hb' e
      refine hf b o (fun q => hb' (q ▸ hLi)) (fun q => ?_) e
      rcases hIi with h1 | h1
      · exact hb' (q ▸ h1)
      · rw [q] at e; rw [h1] at e; cases e
  · rintro s₁ ⟨h0, _⟩
    cases h0

theorem gl_end (hh : A.handled = none) (hl : h₀.NoLimit) (hL0 : h₀.get? Lg = none) (hI0 : h₀.get? I = none) (hroom : A.depth < recursionLimit) {s : Shared} {Q : Option Value → Shared → Prop} {E : Value → Shared → Prop} {gs : GenState} {its : Ents}
    (hg : s.heap.IsGen a g) (hk : ∀ b o, h₀.get? b = some o → s.heap.get? b = some o) (hgs : s.gens[g]? = some gs) (hLi : Lg ∈ its.map (·.1)) (hIi : I ∈ its.map (·.1) ∨ s.heap.get? I = none)
    (hgo : gs.Goes (model prog w) A.in1 (RI Lg I) (YI h₀ Lg I l lo xs) 0 (.send .none) (s.setGen g .running))
    (hQ : ∀ h' tk', (∀ b o, b ∉ its.map (·.1) → s.heap.get? b = some o → h'.get? b = some o) → Q none { s with heap := h', toks := tk', gens := s.gens.setIfInBounds g .finished }) :
    wpAny (model prog w) A (pyNext (.ref a)) Q E s := by
  refine pyNext_genQ (P := PI Lg I) (Y := YI h₀ Lg I l lo xs) (n := 0) hh (hl.keeps hk) hroom hg hgs hgo ?_ ?_
  · rintro v s₁ gs' hb ⟨t, h', tk', o', io, rfl, rfl, e1, e2, e3, hf, hn⟩
    exact (hn { s with heap := h' } e1 e2 e3 fun b o e => hf b o (fun q => by rw [q, hL0] at e; cases e) (fun q => by rw [q, hI0] at e; cases e) (hk b o e)).elim
  · rintro s₁ ⟨_, h', tk', rfl, hf⟩ h'' hk'
    have eg : ({ ({ s.setGen g .running with heap := h', toks := tk' } : Shared).setGen g .finished with heap := h'' } : Shared) = { s with heap := h'', toks := tk', gens := s.gens.setIfInBounds g .finished } := by
      simp [Shared.setGen]
    rw [eg]
    refine hQ h'' tk' fun b o hb' e => hk' b o (hf b o (fun q => hb' (q ▸ hLi)) (fun q => ?_) e)
    rcases hIi with h1 | h1
    · exact hb' (q ▸ h1)
    · rw [q] at e; rw [h1] at e; cases e
theorem gl_rest (hh : A.handled = none) (hl : h₀.NoLimit) (hroom : A.depth < recursionLimit) (hL0 : h₀.get? Lg = none) (hI0 : h₀.get? I = none) :
    ∀ (r : List Int) (gs : GenState) (o io : Obj), xs.drop (xs.length - r.length) = r → r.length ≤ xs.length →
      (∀ s : Shared, s.heap.get? Lg = some o → s.heap.get? I = some io → s.heap.get? l = some lo → (∀ b o, h₀.get? b = some o → s.heap.get? b = some o) →
        gs.Goes (model prog w) A.in1 (RI Lg I) (YI h₀ Lg I l lo xs) r.length (.send .none) s) → GenLeft prog w A h₀ a g r [(Lg, o), (I, io), (l, lo)] gs
  | [], gs, o, io, _, _, G => by
    intro s Q E hg hi hk hgs hQ
    have m1 := hi (Lg, o) (.head _)
    have m2 := hi (I, io) (.tail _ (.head _))
    have m3 := hi (l, lo) (.tail _ (.tail _ (.head _)))
    exact gl_end (its := [(Lg, o), (I, io), (l, lo)]) hh hl hL0 hI0 hroom hg hk hgs (.head _) (.inl (.tail _ (.head _))) (G (s.setGen g .running) m1 m2 m3 hk) hQ
  | z :: r, gs, o, io, hx, hle, G => by
    intro s Q E hg hi hk hgs hQ
    have m1 := hi (Lg, o) (.head _)
    have m2 := hi (I, io) (.tail _ (.head _))
    have m3 := hi (l, lo) (.tail _ (.tail _ (.head _)))
    have hx' : xs.drop (xs.length - r.length) = r := by
      have hle' : r.length + 1 ≤ xs.length := hle
      have h2 := congrArg (List.drop 1) hx
      rw [List.drop_drop] at h2
      rw [show xs.length - r.length = xs.length - (z :: r).length + 1 by simp only [List.length_cons]; omega]
      exact h2
    exact gl_step (its := [(Lg, o), (I, io), (l, lo)]) hh hl hroom hx hle hg hk hgs (.head _) (.inl (.tail _ (.head _))) (.tail _ (.tail _ (.head _))) (G (s.setGen g .running) m1 m2 m3 hk)
      (fun gs' o' io' G' => gl_rest hh hl hroom hL0 hI0 r gs' o' io' hx' (Nat.le_of_succ_le hle) G') hQ
/-- a generator that has not begun -/
theorem gl_fresh (hh : A.handled = none) (hl : h₀.NoLimit) (hroom : A.depth < recursionLimit) (hL0 : h₀.get? Lg = none) {o : Obj} {c : Code} {z : Int} {r : List Int} (hx : xs = z :: r)
    (G : ∀ s : Shared, s.heap.get? Lg = some o → s.heap.get? l = some lo → (∀ b o, h₀.get? b = some o → s.heap.get? b = some o) →
        Seg (model prog w) A.in1 (RI Lg s.heap.objs.size) (YI h₀ Lg s.heap.objs.size l lo xs) xs.length s c ((model prog w).den c) [] s) :
    GenLeft prog w A h₀ a g xs [(Lg, o), (l, lo)] (.fresh c) := by
  subst hx
  intro s Q E hg hi hk hgs hQ
  have m1 := hi (Lg, o) (.head _)
  have m3 := hi (l, lo) (.tail _ (.head _))
  have hI : s.heap.get? s.heap.objs.size = none := by simp [Heap.get?]
  have hI0 : h₀.get? s.heap.objs.size = none := by
    cases e : h₀.get? s.heap.objs.size with
    | none => rfl
    | some o => have := hk _ _ e; rw [hI] at this; cases this
  exact gl_step (xs := z :: r) (its := [(Lg, o), (l, lo)]) hh hl hroom (by simp) (Nat.le_refl _) hg hk hgs (.head _) (.inr hI) (.tail _ (.head _)) ⟨rfl, G (s.setGen g .running) m1 m3 hk⟩
      (fun gs' o' io' G' => gl_rest hh hl hroom hL0 hI0 r gs' o' io' (by simp) (Nat.le_succ _) G') hQ
end
end MineW
end

section
open PySem PySem.W PyProof.Rows
namespace MineW
section
variable {prog : Program} {w : World} {A : Around} {K : Frag} {h₀ : Heap} {L : Addr} {m : Str → Option Value} {s : Shared} {news : Ents} {p : Program} {loose : List Str} {mean : ExcName → Option Value} {mg mb : Str → Option Value}
theorem gen_def {R : Result → Shared → Prop} {name qual : Str} {params : Arguments} {body : List Stmt} {scope : Scope} {dV kV doc pm cdv ct oc : Value} {an od : Option Addr} {osl : Array (Option Value)} {f : Addr} {args : Args} {binds : List (Str × Value)}
    (F : Fr h₀ L s.heap m) (X₀ : K.In h₀) (N : News h₀ L s.heap news) (T : Top p loose mean mg mb h₀)
    (ho : K.lookup f = some ⟨oc, od, .func (fnOf name qual params body scope dV kV doc pm an cdv ct), osl⟩) (hcd : codeIn K cdv qual = true) (hroom : A.depth < recursionLimit)
    (hbind : BindsTo s (fnOf name qual params body scope dV kV doc pm an cdv ct) args binds) (hloc : ∀ y ∈ binds, scope.names.lookup y.1 = some .local)
    (hco : scope.isCoroutine = false) (hgen : scope.isGenerator = true) (hk : scope.kind = .function) (hcell : ∀ x ∈ scope.names, x.2 ≠ .cell)
    (h : ∀ (Lg a : Addr) (h₁ : Heap) (o go : Obj) (tk : Nat), (∀ h' : Heap, h'.get? a = some go → h'.IsGen a s.gens.size) → Fr h₀ L h₁ m → Fr h₀ Lg h₁ (fun y => binds.reverse.lookup y) → News h₀ L h₁ ((a, go) :: (Lg, o) :: news) →
      a ≠ Lg → (∀ q ∈ news, q.1 ≠ a ∧ q.1 ≠ Lg) → R (.ok (.ret (.ref a))) { s with heap := h₁, toks := tk, gens := s.gens.push (.fresh (.func body (envOf qual scope Lg f cdv))) }) :
    codeAny (model prog w) A (.call (.ref f) args) R s := by
  refine codeAny_call_generator (body := body) hroom ((X₀.keeps F.keep) _ _ ho) rfl hco hgen rfl (codeRec_of (X₀.keeps F.keep) hcd) (hbind _ _ _ _ ?_)
  refine wpAny_newFunctionEnv hcell hloc (fun h₁ hns hsb => ?_) hk
  have hkeep : ∀ b o, s.heap.get? b = some o → h₁.get? b = some o := fun b o e => hsb.extBut b o (Nat.ne_of_lt (Heap.lt_size e)) (Heap.get?_push_of_some _ e)
  have hlim : s.heap.NoLimit := T.nolimit.keeps F.keep
  refine ⟨hlim.keeps hkeep, ?_⟩
  obtain ⟨o, es, ep, hL, hd, hsk, hf⟩ := id hns
  have hLL : L < s.heap.objs.size := F.ns.lt
  have hLg : s.heap.get? s.heap.objs.size = none := by simp [Heap.get?]
  have hLg0 : h₀.get? s.heap.objs.size = none := by
    cases e : h₀.get? s.heap.objs.size with
    | none => rfl
    | some o => have := F.keep _ _ e; rw [hLg] at this; cases this
  have hlt : s.heap.objs.size < h₁.objs.size := Heap.lt_size hL
  have ha0 : s.heap.get? h₁.objs.size = none := by
    simp only [Heap.get?]
    rw [Array.getElem?_eq_none (by omega)]
  have ha00 : h₀.get? h₁.objs.size = none := by
    cases e : h₀.get? h₁.objs.size with
    | none => rfl
    | some o => have := F.keep _ _ e; rw [ha0] at this; cases this
  refine h s.heap.objs.size h₁.objs.size _ o { cls := .type "generator", data := .fields #[.int s.gens.size 0, .str name (s.toks + binds.length), .str qual (s.toks + binds.length + 1)] } _ ?hgo ?f1 ?f2 ?n1 (fun e => by rw [e] at hlt; exact Nat.lt_irrefl _ hlt) ?n2
  case hgo => exact fun h' e => ⟨_, _, _, e, rfl, rfl, rfl⟩
  case f1 => exact (F.keeps hkeep).keeps fun b o e => Heap.get?_push_of_some _ e
  case f2 => exact ⟨hns.at' fun o e => Heap.get?_push_of_some _ e, fun b o e => Heap.get?_push_of_some _ (hkeep b o (F.keep b o e)), Nat.le_trans F.above (Nat.le_of_lt hLL)⟩
  case n1 =>
    intro q hq
    rcases List.mem_cons.mp hq with rfl | hq
    · exact ⟨Heap.get?_push_size _ rfl, Nat.ne_of_gt (Nat.lt_trans hLL hlt), ha00⟩
    · rcases List.mem_cons.mp hq with rfl | hq
      · exact ⟨Heap.get?_push_of_some _ hL, Nat.ne_of_gt hLL, hLg0⟩
      · exact ⟨Heap.get?_push_of_some _ (hkeep _ _ (N q hq).1), (N q hq).2⟩
  case n2 =>
    intro q hq
    have := Heap.lt_size (N q hq).1
    exact ⟨Nat.ne_of_lt (Nat.lt_trans this hlt), Nat.ne_of_lt this⟩
end
end MineW
end

section
open PySem PySem.W PyProof.Rows
namespace MineW
theorem fr_moved {g1 h h' : Heap} {Lg : Addr} {m : Str → Option Value} {o : Obj} (F : Fr g1 Lg h m) (e : h.get? Lg = some o) (e' : h'.get? Lg = some o) (hk : ∀ b o, g1.get? b = some o → h'.get? b = some o) : Fr g1 Lg h' m :=
  ⟨F.ns.at' fun o' eo => by rw [e] at eo; rw [← eo]; exact e', hk, F.above⟩
section
variable {prog : Program} {w : World} {A : Around} {g1 : Heap} {Lg I l : Addr} {lo : Obj} {vs : List Value} {xs tail : List Int} {env : Env}
theorem gen_loop {x : Str} {px : Pos} {st1 st2 st3 : Stmt} {e : PySem.Expr} {ypos pos2 : Pos} (mp : Value → Option Value → Str → Option Value) {c : Code} {k : Result → Sem Fin} {hd' : Option Value} {gg : Bool} {ll : List Value} {p : Pos} {n₀ : Nat}
    (hlo : lo = listOf vs.toArray n₀) (hvs : IntsAre vs (xs ++ tail)) (ht : tail = [] ∨ ∃ r, tail = 127 :: r) (hx : ∀ y ∈ xs, y ≠ 0 ∧ y ≠ 127)
    (hxk : env.kindOf x = some .local) (hp : (env.scope.kind == .class || (env.scope.kind == .module && env.locals != env.globals)) = false) (hloc : env.locals = Lg)
    (h1 : ∀ z t lv iv (s : Shared), z ≠ 127 → Fr g1 Lg s.heap (fun y => if y = x then some (.int z t) else mp lv iv y) →
      wpAny (model prog w) (A.in1.over (.forLoop (.Name x px) (.ref I) [st1, st2, .Expr (.Yield (some e) ypos) pos2, st3] [] env) [.ret k hd' gg ll c p []]) (exec st1 env) (fun f s' => f = .next ∧ ∃ tk, s' = { s with toks := tk }) NoE s)
    (h1' : ∀ t lv iv (s : Shared), Fr g1 Lg s.heap (fun y => if y = x then some (.int 127 t) else mp lv iv y) →
      wpAny (model prog w) (A.in1.over (.forLoop (.Name x px) (.ref I) [st1, st2, .Expr (.Yield (some e) ypos) pos2, st3] [] env) [.ret k hd' gg ll c p []]) (exec st1 env) (fun f s' => f = .ret .none ∧ ∃ tk, s' = { s with toks := tk }) NoE s)
    (h2 : ∀ z t lv iv (s : Shared), z ≠ 0 → Fr g1 Lg s.heap (fun y => if y = x then some (.int z t) else mp lv iv y) →
      wpAny (model prog w) (A.in1.over (.forLoop (.Name x px) (.ref I) [st1, st2, .Expr (.Yield (some e) ypos) pos2, st3] [] env) [.ret k hd' gg ll c p []]) (exec st2 env) (fun f s' => f = .next ∧ ∃ tk, s' = { s with toks := tk }) NoE s)
    (he : ∀ z t lv iv (s : Shared), Fr g1 Lg s.heap (fun y => if y = x then some (.int z t) else mp lv iv y) →
      wpAny (model prog w) (A.in1.over (.forLoop (.Name x px) (.ref I) [st1, st2, .Expr (.Yield (some e) ypos) pos2, st3] [] env) [.ret k hd' gg ll c p []]) (eval e env) (fun v s' => v = .int z t ∧ ∃ tk, s' = { s with toks := tk }) NoE s)
    (h3 : ∀ z t lv iv (s : Shared), Fr g1 Lg s.heap (fun y => if y = x then some (.int z t) else mp lv iv y) →
      wpAny (model prog w) (A.in1.over (.forLoop (.Name x px) (.ref I) [st1, st2, .Expr (.Yield (some e) ypos) pos2, st3] [] env) [.ret k hd' gg ll c p []]) (exec st3 env)
        (fun f s' => f = .next ∧ ∃ h' tk, s' = { s with heap := h', toks := tk } ∧ Heap.SameBut Lg s.heap h' ∧ h'.Ns Lg (mp (.int z t) (some (.int z t)))) NoE s)
    (hco : env.scope.isCoroutine = false) (hi : interactive env = false) (hsp : splitAtGen [Frame.ret k hd' gg ll c p []] = none) (hgu : ([Frame.ret k hd' gg ll c p []]).any Frame.guarded = false)
    (hh : (A.in1.over (.forLoop (.Name x px) (.ref I) [st1, st2, .Expr (.Yield (some e) ypos) pos2, st3] [] env) [.ret k hd' gg ll c p []]).handled = none)
    (hk : ∀ f s₀ s, f = .next ∨ f = .ret .none → PI Lg I 0 s₀ s → Seg (model prog w) A.in1 (RI Lg I) (YI g1 Lg I l lo xs) 0 s₀ c (k (.ok f)) [] s)
    (nI : I ≠ Lg) (nIl : l ≠ I) (nl : l ≠ Lg) (hI0 : g1.get? I = none) :
    ∀ (r d : List Int) (lv : Value) (iv : Option Value) (s₀ s : Shared), xs = d ++ r → Fr g1 Lg s.heap (mp lv iv) → s.heap.IsListIter I l d.length → s.heap.get? l = some lo → (∃ h tk, s = { s₀ with heap := h, toks := tk }) →
      (∀ b o, b ≠ Lg → b ≠ I → s₀.heap.get? b = some o → s.heap.get? b = some o) →
      Seg (model prog w) A.in1 (RI Lg I) (YI g1 Lg I l lo xs) r.length s₀ (.forLoop (.Name x px) (.ref I) [st1, st2, .Expr (.Yield (some e) ypos) pos2, st3] [] env)
        ((model prog w).den (.forLoop (.Name x px) (.ref I) [st1, st2, .Expr (.Yield (some e) ypos) pos2, st3] [] env)) [.ret k hd' gg ll c p []] s := by
  have hlist : ∀ (h : Heap), h.get? l = some lo → h.IsList l vs.toArray := fun h e => ⟨lo, e, by rw [hlo], n₀, by rw [hlo]⟩
  have nLg : ∀ b o, g1.get? b = some o → ∀ (h : Heap) (m : Str → Option Value), Fr g1 Lg h m → b ≠ Lg := fun b o e h m F q => by
    have h1 := Heap.lt_size e
    have h2 := F.above
    rw [q] at h1
    exact Nat.lt_irrefl _ (Nat.lt_of_lt_of_le h1 h2)
  have nIg : ∀ b o, g1.get? b = some o → b ≠ I := fun b o e q => by rw [q, hI0] at e; cases e
  -- the store of the loop's name
  have store : ∀ (s s₀ : Shared) (z : Int) (t : Tok) (lv : Value) (iv : Option Value) (Q : Unit → Shared → Prop), Fr g1 Lg s.heap (mp lv iv) →
      (∀ h', Fr g1 Lg h' (fun y => if y = x then some (.int z t) else mp lv iv y) → Heap.SameBut Lg s.heap h' → Q () { s with heap := h', toks := s.toks + 1 }) →
      wpAny (model prog w) (A.in1.over (.forLoop (.Name x px) (.ref I) [st1, st2, .Expr (.Yield (some e) ypos) pos2, st3] [] env) [.ret k hd' gg ll c p []]) (assign (.Name x px) env (.int z t)) Q NoE s := by
    intro s s₀ z t lv iv Q F hQ
    exact wpAny_assign_Name (wpAny_storeName_local hxk (hloc ▸ F.ns) (fun h' hn hs => hQ h' (F.set (hloc ▸ hn) (hloc ▸ hs)) (hloc ▸ hs)) hp)
  intro r
  induction r with
  | nil =>
    rintro d lv iv s₀ s hd F hit hl ⟨hs0, tk0, es0⟩ hmv
    rw [List.append_nil] at hd
    subst hd
    refine seg_forLoop (fun _ => rfl) ?_
    rcases ht with rfl | ⟨tr, rfl⟩
    · refine wpAny_pyNext_list_end hh hit (hlist _ hl) ?_ fun h' hx' => ?_
      · have := hvs.length
        simp only [List.append_nil] at this
        simp [this]
      · show Seg _ _ _ _ _ _ _ (leafOf (.ok .next)) _ _
        refine seg_leaf (.ok .next) (hk _ _ _ (.inl rfl) ⟨rfl, h', s.toks, by rw [es0], fun b o h1 h2 e => hx' b o h2 (hmv b o h1 h2 e)⟩)
    · obtain ⟨t, hx0⟩ := hvs.get xs.length 127 (by simp)
      refine wpAny_pyNext_list_item hit (hlist _ hl) (x := .int 127 t) (by simpa using hx0) fun h' hit' hs' => ?_
      have F' : Fr g1 Lg h' (mp lv iv) := ⟨F.ns.sameBut hs' nI.symm, fun b o e => (hs'.2 b (nIg b o e)).trans (F.keep b o e), F.above⟩
      refine store { s with heap := h' } s₀ 127 t lv iv _ F' fun h2 F2 hs2 => ?_
      refine seg_execs_cons (seg_stmt (wpAny_mono (h1' t lv iv _ F2) (fun f s' hf => ?_) fun _ _ x => x))
      obtain ⟨rfl, tk, rfl⟩ := hf
      refine seg_leaf (.ok (.ret .none)) (hk _ _ _ (.inr rfl) ⟨rfl, h2, tk, by rw [es0], fun b o h1 h3 e => (hs2.2 b h1).trans ((hs'.2 b h3).trans (hmv b o h1 h3 e))⟩)
  | cons z r ih =>
    rintro d lv iv s₀ s hd F hit hl ⟨hs0, tk0, es0⟩ hmv
    have hz := hx z (hd ▸ List.mem_append_right _ (.head _))
    refine seg_forLoop (fun _ => rfl) ?_
    obtain ⟨t, hx0⟩ := hvs.get d.length z (by rw [hd]; simp)
    refine wpAny_pyNext_list_item hit (hlist _ hl) (x := .int z t) (by simpa using hx0) fun h' hit' hs' => ?_
    have F' : Fr g1 Lg h' (mp lv iv) := ⟨F.ns.sameBut hs' nI.symm, fun b o e => (hs'.2 b (nIg b o e)).trans (F.keep b o e), F.above⟩
    refine store { s with heap := h' } s₀ z t lv iv _ F' fun hq2 F2 hs2 => ?_
    refine seg_execs_cons (seg_stmt (wpAny_mono (h1 z t lv iv _ hz.2 F2) (fun f s' hf => ?_) fun _ _ x => x))
    obtain ⟨rfl, tk1, rfl⟩ := hf
    refine seg_execs_cons (seg_stmt (wpAny_mono (h2 z t lv iv { s with heap := hq2, toks := tk1 } hz.1 F2) (fun f s' hf => ?_) fun _ _ x => x))
    obtain ⟨rfl, tk2, rfl⟩ := hf
    refine seg_execs_cons (seg_Expr_Yield hsp rfl hgu (wpAny_mono (he z t lv iv { s with heap := hq2, toks := tk2 } F2) (fun v s' hv => ?_) fun _ _ x => x.elim) hco hi)
    obtain ⟨rfl, tk3, rfl⟩ := hv
    intro kap hkap
    obtain ⟨oL, esL, epL, hL1, hL2, hL3, hL4⟩ := id F2.ns
    obtain ⟨oI, hI1, hI2, hI3⟩ := hit'
    have hI2' : hq2.get? I = some oI := (hs2.2 I nI).trans hI1
    have hl2 : hq2.get? l = some lo := (hs2.2 l nl).trans ((hs'.2 l nIl).trans hl)
    refine ⟨t, hq2, tk3, oL, oI, ?_, by rw [es0], hL1, hI2', hl2, fun b o h1 h3 e => (hs2.2 b h1).trans ((hs'.2 b h3).trans (hmv b o h1 h3 e)), fun s'' q1 q2 q3 q4 => hkap .none s'' ?_⟩
    · congr 1
      rw [hd]
      simp only [List.length_append, List.length_cons]
      rw [show d.length + (r.length + 1) - 1 - r.length = d.length by omega]
      simp
    · show Seg _ _ _ _ _ _ _ _ _ _
      have F3 : Fr g1 Lg s''.heap (fun y => if y = x then some (.int z t) else mp lv iv y) := fr_moved F2 hL1 q1 q4
      refine seg_execs_cons (seg_stmt (wpAny_mono (h3 z t lv iv s'' F3) (fun f s' hf => ?_) fun _ _ x => x))
      obtain ⟨rfl, h4, tk4, rfl, hs4, hn4⟩ := hf
      refine seg_execs_nil (seg_again rfl ?_)
      refine ih (d ++ [z]) (.int z t) (some (.int z t)) s'' _ (by rw [hd]; simp) (F3.set hn4 hs4) ?_ ((hs4.2 l nl).trans q3) ⟨h4, tk4, rfl⟩ fun b o h1 _ e => (hs4.2 b h1).trans e
      rw [List.length_append]
      exact ⟨oI, (hs4.2 I nI).trans q2, hI2, hI3⟩
end
end MineW
end

section
theorem MineW.fresh3 : True := by
  w_top off
  trivial
open PySem PySem.W PyProof.Rows
namespace MineW
def marksOf (l : List Int) : List Int := l.foldl (fun acc z => acc ++ [acc.getLastD 0 + z]) [0]
theorem marksOf_pos (l : List Int) : 1 ≤ (marksOf l).length := by
  rcases List.eq_nil_or_concat l with rfl | ⟨r, z, rfl⟩
  · simp [marksOf]
  · simp [marksOf, List.foldl_append]
theorem marksOf_len (l : List Int) : (marksOf l).length = l.length + 1 := by
  have : ∀ (l acc : List Int), (l.foldl (fun (acc : List Int) z => acc ++ [acc.getLastD 0 + z]) acc).length = l.length + acc.length := by
    intro l
    induction l with
    | nil => intro acc; simp
    | cons z r ih => intro acc; rw [List.foldl_cons, ih]; simp; omega
  exact this l [0]
theorem marksOf_snoc (l : List Int) (z : Int) : marksOf (l ++ [z]) = marksOf l ++ [(marksOf l).getLastD 0 + z] := by simp [marksOf, List.foldl_append]
theorem allLt_ne {D : Addr} {l : Ents} : AllLt D l → ∀ p ∈ l, p.1 ≠ D := by
  induction l with
  | nil => intro _ p hp; cases hp
  | cons q r ih =>
    intro h p hp
    rcases List.mem_cons.mp hp with e | hp
    · rw [e]; exact Nat.ne_of_lt h.1
    · exact ih h.2 p hp
theorem ints_snoc {vs : List Value} {ns : List Int} {z : Int} {t : Tok} (h : IntsAre vs ns) : IntsAre (vs ++ [.int z t]) (ns ++ [z]) := by
  induction h with
  | nil => exact .cons _ _ .nil
  | cons x u _ ih => exact .cons x u ih
theorem frame_iv {g h : Heap} {L : Addr} {a b : Str} (hab : b ≠ a) {v : Value} {m0 : Str → Option Value} (h0 : m0 b = none) (F : Fr g L h (fun y => if y = a then some v else m0 y)) :
    ∃ base : Str → Option Value, Fr g L h (fun y => if y = a then some v else if y = b then none else base y) := by
  refine ⟨m0, ?_⟩
  have e : (fun y => if y = a then some v else if y = b then none else m0 y) = fun y => if y = a then some v else m0 y := by
    funext y
    by_cases h1 : y = b
    · subst h1; simp [hab, h0]
    · simp [h1]
  rw [e]; exact F
abbrev MkClaim (prog : Program) (w : World) (K : Frag) (p : Program) (loose : List Str) (mean : ExcName → Option Value) (mg mb : Str → Option Value) (f : Addr) (news : Ents) (l : Addr) (xs tail : List Int) : Prop :=
  ∀ (dp un : Nat) (gd : Option (List Code)) (cn : Str) (cs : Scope) (a : Addr) (ccd : Value) (cl : List (Str × Addr)) (outer : List Env) (A₀ : Around) (base h₀ : Heap) (L : Addr) (m : Str → Option Value) (s : Shared) (Q E : Value → Shared → Prop) (vs : List Value) (n : Nat),
    Below A₀ base outer h₀ → Fr h₀ L s.heap m → K.In h₀ → News h₀ L s.heap ((l, listOf vs.toArray n) :: news) → Top p loose mean mg mb h₀ → cs.kind = .function →
    dp + 1 < recursionLimit → un + 8 < cLine → IntsAre vs (xs ++ tail) → AllBare s.gens → (∀ p ∈ news, p.1 ≠ l) →
    (∀ (D : Addr) (vs' : List Value) (n' : Nat) (h' : Heap) (tk' : Nat) (G : Array GenState), IntsAre vs' (marksOf xs) → AllBare G → Fr h₀ L h' m →
       News h₀ L h' ((D, listOf vs'.toArray n') :: news) → Q (.ref D) { s with heap := h', toks := tk', gens := G }) →
      wpAny (model prog w) (ktrTop dp un gd cn cs L a ccd cl outer) (call (.ref f) [.ref l]) Q E s
set_option maxRecDepth 100000 in
set_option maxHeartbeats 8000000 in
theorem marks_spec (w : World) (mean : ExcName → Option Value) (mg mb : Str → Option Value) (news : Ents) (l : Addr) (z : Int) (xr tail : List Int)
   (hx : ∀ y ∈ z :: xr, y ≠ 0 ∧ y ≠ 127) (hm : ∀ y ∈ z :: xr, 0 ≤ y ∧ y ≤ 10) (ht : tail = [] ∨ ∃ r, tail = 127 :: r) (hlen : xr.length ≤ 50) :
   MkClaim PySem.Challenge.rw_st0044_01.row.prog w (Mine.hd.heap_1 w.params) Mine.qv LO mean mg mb 166 news l (z :: xr) tail := by
  k_fill
  dsimp only [MkClaim]
  intro dp un gd cn cs a' ccd cl outer A₀ base h₀ L m s Q E vs n b1 b2 b3 b4 b5 b6 b7 b8 hvs hBare hnl hret
  refine wpAny_call ?_
  k_dflt cell_enter
  rename_i g1 L1 hh1 FG F0 N0 B1 X1 T1
  (iterate 11 (walk_at "W"))
  rename_i tk0 D hA l1 hB lF lN
  k_here
  with_unfolding_all refine' wpAny_For ?_ (by intro _; rfl)
  (iterate 7 (walk_at "W"))
  k_here
  rename Frag.In _ _ => lX
  rename Top _ _ _ _ _ _ => lT
  refine wpAny_call ?_
  refine' gen_def lF lX lN lT ?ho ?hcd ?hroom ?hbind ?hloc ?hco ?hgen ?hk ?hcell ?_
  case ho => k_is
  case hcd => k_is
  case hroom => ktr_room
  case hbind => exact BindsTo.of_eq rfl
  case hloc => exact locs rfl
  case hco => exact rfl
  case hgen => exact rfl
  case hk => exact rfl
  case hcell => decide
  clear lF lN
  intro Lg ga h₁ o go tk2 hgo lF lFg lN hne hoff
  refine wpAny_pyIter_gen (hgo _ (lN _ (.head _)).1) ?_
  have hDl : D ≠ l := (Nat.ne_of_lt l1.1).symm
  with_unfolding_all refine' loop_gen (h₀ := _) (go := go) (its := [(Lg, o), (l, listOf vs.toArray n)]) (xs := z :: xr) (nx := (D, listOf [Value.int 0 tk0].toArray 0) :: news) (D :: news.map (·.1)) (fun r m nx => ∃ (d : List Int) (vs : List Value) (n : Nat), z :: xr = d ++ r ∧ IntsAre vs (marksOf d) ∧ nx = (D, listOf vs.toArray n) :: news ∧ ∃ mr : Str → Option Value, ∀ z, z ≠ Str.ofString "size" → m z = if z = Str.ofString "marks" then some (.ref D) else mr z) hgo ?hx ?hp ?turn ?done ?GL ?hJ ?hadr lF ?N ?ho2 ?ha ?hg ?hB
  case hx => rfl
  case hp => rfl
  case hadr => rfl
  case N =>
    refine cb_drop lN ?_
    k_memK
  case ho2 =>
    intro q hq b hb
    simp only [List.mem_cons, List.not_mem_nil, or_false] at hq hb
    have hin : b = l ∨ (b ≠ l ∧ ∃ q, q ∈ (D, listOf #[Value.int 0 tk0] 0) :: (l, listOf vs.toArray n) :: news ∧ b = q.1) := by
      rcases hb with rfl | hb
      · exact .inr ⟨hDl, _, .head _, rfl⟩
      · obtain ⟨q', hq', rfl⟩ := List.mem_map.mp hb
        exact .inr ⟨hnl q' hq', q', .tail _ (.tail _ hq'), rfl⟩
    have hbl : b ≠ l := by
      rcases hb with rfl | hb
      · exact hDl
      · obtain ⟨q', hq', rfl⟩ := List.mem_map.mp hb
        exact hnl q' hq'
    rcases hin with h | ⟨_, q', hq', rfl⟩
    · exact absurd h hbl
    · have hd := hoff _ hq'
      rcases hq with rfl | rfl | rfl
      · exact hd.1.symm
      · exact hd.2.symm
      · exact hbl.symm
  case ha =>
    intro q hq
    simp only [List.mem_cons, List.not_mem_nil, or_false] at hq
    rcases hq with rfl | rfl
    · exact hne.symm
    · exact (hoff _ (.tail _ (.head _))).1
  case hg => exact Array.getElem?_push_size
  case hB => exact AllBare.push hBare rfl
  case hJ => exact ⟨[], [.int 0 tk0], 0, rfl, by repeat constructor, rfl, _, fun _ _ => rfl⟩
  case done =>
    clear lF lFg lN
    rintro m₁ nx h tk G ⟨d, vs', n', e, hi, rfl, mr, hm⟩ lF lN hG
    have em : m₁ = fun y => if y = Str.ofString "marks" then some (.ref D) else if y = Str.ofString "size" then m₁ (Str.ofString "size") else mr y := by
      funext y
      by_cases h1 : y = Str.ofString "size"
      · subst h1; simp [show Str.ofString "size" ≠ Str.ofString "marks" by decide +kernel]
      · rw [hm y h1]; simp [h1]
    rw [em] at lF
    dsimp only
    (iterate 4 (walk_at "W"))
    rw [List.append_nil] at e
    exact hret D vs' n' h tk G (by rw [e]; exact hi) hG (by assumption) (by assumption)
  case turn =>
    clear lF lFg lN
    rintro y r m₁ nx t h tk G own ho hnx ⟨d, vs', n', e, hi, rfl, mr, hm⟩ lF lN hG
    have em : (fun y' => if y' = Str.ofString "size" then some (Value.int y t) else m₁ y') = fun y' => if y' = Str.ofString "size" then some (Value.int y t) else if y' = Str.ofString "marks" then some (.ref D) else mr y' := by
      funext z
      by_cases h1 : z = Str.ofString "size"
      · simp [h1]
      · simp [h1, hm z h1]
    rw [em] at lF
    have hpos := marksOf_pos d
    have hneg : ∀ (A : Around) (h' : Heap) (Q : Value → Shared → Prop) (E : Value → Shared → Prop) (value slice : PySem.Expr) (u : Tok) (s : Shared), s.heap.get? D = some (listOf vs'.toArray n') → (∀ t, Q (.int ((marksOf d).getLastD 0) t) s) →
        (subscripted slice false (.ref D) (.int (-1) u) = operate [.ref D, .int (-1) u] (getItem (.ref D) (.int (-1) u))) → (∀ r, letTemporaryGo value (.ref D) r = pure ()) → wpAny (model PySem.Challenge.rw_st0044_01.row.prog w) A (subscriptTail value slice (.ref D) (.int (-1) u)) Q E s := by
      intro A h' Q E value slice u s hD hQ h1 h2
      refine item_list_ints_neg (l := D) (vs := vs') (ns := marksOf d) ⟨_, hD, rfl, _, rfl⟩ hi (by decide) (by omega) (by decide) ?_ h1 h2
      intro t
      have e2 : (marksOf d).getD (-1 + ((marksOf d).length : Int)).toNat 0 = (marksOf d).getLastD 0 := by
        rw [show (-1 + ((marksOf d).length : Int)).toNat = (marksOf d).length - 1 by omega, List.getD_eq_getElem?_getD, ← List.getLast?_eq_getElem?, List.getLastD_eq_getLast?]
      rw [e2]; exact hQ t
    (iterate 13 (walk_at "W"))
    k_here
    refine hneg _ h _ _ _ _ _ _ (lN _ (.head _)).1 ?_ (by with_unfolding_all rfl) (by intro _; with_unfolding_all rfl)
    intro t2
    (iterate 3 (walk_at "W"))
    k_here
    have hl2 : vs'.length = (marksOf d).length := hi.length
    have hdl : d.length + (r.length + 1) = xr.length + 1 := by
      have := congrArg List.length e
      simp only [List.length_cons, List.length_append] at this
      omega
    have hml : (marksOf d).length = d.length + 1 := marksOf_len d
    have hsz : vs'.toArray.size ≤ sizeLine := by
      rw [List.size_toArray, hl2, hml]; unfold sizeLine; omega
    with_unfolding_all refine' append_K (D := D) lF lN (Upd.head ?hoth) ?_ hsz
    case hoth =>
      intro p hp
      rcases List.mem_append.mp hp with h1 | h1
      · exact allLt_ne l1.2 p h1
      · exact ho p h1 D (.head _)
    clear lF lN
    intro h' lF lN
    (iterate 2 (walk_at "W"))
    rename Fr _ _ _ _ => lF
    rename News _ _ _ _ => lN
    dsimp only [InvPostN]
    obtain ⟨tv, lN⟩ : ∃ tv, News _ _ _ ((D, listOf (vs'.toArray.push (.int ((marksOf d).getLastD 0 + y) tv)) (n' + 1)) :: news ++ own) := ⟨_, lN⟩
    rw [List.push_toArray] at lN
    refine InvEndN.intro (nx := (D, listOf (vs' ++ [Value.int ((marksOf d).getLastD 0 + y) tv]).toArray (n' + 1)) :: news) lF lN ⟨d ++ [y], vs' ++ [Value.int ((marksOf d).getLastD 0 + y) tv], n' + 1, by rw [e]; simp, by rw [marksOf_snoc]; exact ints_snoc hi, rfl, mr, fun z hz => by simp [hz]⟩ rfl (fun q hq => List.mem_append_left _ hq) (fun q hq => List.mem_append_right _ hq)
  case GL =>
    clear lF
    have hl : (listOf vs.toArray n) = listOf vs.toArray n := rfl
    have hN0 := (lN (Lg, o) (.tail _ (.head _)))
    have hl0 := (lN (l, listOf vs.toArray n) (.tail _ (.tail _ (.tail _ (.head _)))))
    refine gl_fresh (l := l) rfl (Top.nolimit lT) (by ktr_room) hN0.2.2 rfl ?_
    intro s' hs1 hs2 hs3
    obtain ⟨oL, es, ep, hL, hd1, hd2, hd3⟩ := lFg.ns
    obtain rfl : o = oL := Option.some.inj (hN0.1.symm.trans hL)
    have lF : Fr g1 Lg s'.heap _ := ⟨⟨o, es, ep, hs1, hd1, hd2, hd3⟩, hs3, lFg.above⟩
    have lN2 : News g1 Lg s'.heap [(l, listOf vs.toArray n)] := by
      intro q hq
      rw [List.mem_singleton.mp hq]
      exact ⟨hs2, fun e => (hoff _ (.tail _ (.head _))).2 e, hl0.2.2⟩
    refine seg_func (seg_execs_cons (seg_stmt ?_))
    clear lN
    (iterate 2 (walk_at "W"))
    k_here
    refine wpAny_storeName_local (by rfl) lF.ns (fun h2 hn hs => ?_) (by rfl)
    have lF := lF.set hn hs
    have lN : News g1 Lg h2 [(l, listOf vs.toArray n)] := lN2.set hs
    clear lN2
    have hsz : h2.objs.size = s'.heap.objs.size := hs.1
    refine seg_execs_cons (seg_For (by intro _; rfl) ?_)
    walk_at "W"
    k_here
    have hIl : l < h2.objs.size := Heap.lt_size (lN _ (.head _)).1
    have hILg : Lg < h2.objs.size := lF.ns.lt
    have hI0 : h2.get? h2.objs.size = none := by simp [Heap.get?]
    have hI1 : g1.get? h2.objs.size = none := by
      cases e : g1.get? h2.objs.size with
      | none => rfl
      | some o => have := lF.keep _ _ e; rw [hI0] at this; cases this
    refine wpAny_pyIter_list ⟨_, (lN _ (.head _)).1, rfl, _, rfl⟩ ?_
    obtain ⟨base, lFb⟩ := frame_iv (b := Str.ofString "interval") (by decide +kernel) (by rfl) lF
    intro p
    rw [← hsz]
    with_unfolding_all refine' gen_loop (fun lv iv y => if y = Str.ofString "last_interval" then some lv else if y = Str.ofString "interval" then iv else base y) (tail := tail) rfl hvs ht hx rfl rfl rfl ?h1 ?h1' ?h2 ?he ?h3 rfl rfl rfl rfl rfl ?hk ?nI ?nIl ?nl hI1 (z :: xr) [] .none none s' _ rfl ?F ?hit ?hl ⟨_, _, rfl⟩ ?mv
    case nI => exact Nat.ne_of_gt hILg
    case nIl => exact Nat.ne_of_lt hIl
    case nl => exact fun e => (hoff _ (.tail _ (.head _))).2 e
    case F => exact lFb.keeps fun b o e => Heap.get?_push_of_some _ e
    case hit => exact ⟨_, Heap.get?_push_size _ rfl, rfl, rfl⟩
    case hl => exact Heap.get?_push_of_some _ (lN _ (.head _)).1
    case mv => exact fun b o h1 h2' e => Heap.get?_push_of_some _ ((hs.2 b h1).trans e)
    case hk =>
      intro f s₀ s' hf hP
      rcases hf with rfl | rfl
      · exact seg_end (.ok (.ret .none)) ⟨rfl, hP⟩
      · exact seg_end (.ok (.ret .none)) ⟨rfl, hP⟩
    case h1 =>
      clear lF lFb lN
      intro z t lv iv s hz lF
      have lN : News g1 Lg s.heap [] := fun _ h => nomatch h
      (iterate 7 (walk_at "W"))
      · rename_i hq; exact absurd hq hz
      · first | exact ⟨rfl, _, rfl⟩ | (walk_at "W"; exact ⟨rfl, _, rfl⟩) | ((iterate 2 (walk_at "W")); exact ⟨rfl, _, rfl⟩) | ((iterate 3 (walk_at "W")); exact ⟨rfl, _, rfl⟩)
    case h1' =>
      clear lF lFb lN
      intro t lv iv s lF
      have lN : News g1 Lg s.heap [] := fun _ h => nomatch h
      (iterate 9 (walk_at "W"))
      exact ⟨rfl, _, rfl⟩
    case h2 =>
      clear lF lFb lN
      intro z t lv iv s hz lF
      have lN : News g1 Lg s.heap [] := fun _ h => nomatch h
      (iterate 7 (walk_at "W"))
      · rename_i hq; exact absurd hq hz
      · first | exact ⟨rfl, _, rfl⟩ | (walk_at "W"; exact ⟨rfl, _, rfl⟩) | ((iterate 2 (walk_at "W")); exact ⟨rfl, _, rfl⟩) | ((iterate 3 (walk_at "W")); exact ⟨rfl, _, rfl⟩)
    case he =>
      clear lF lFb lN
      intro z t lv iv s lF
      have lN : News g1 Lg s.heap [] := fun _ h => nomatch h
      walk_at "W"
      exact ⟨rfl, _, rfl⟩
    case h3 =>
      clear lF lFb lN
      intro z t lv iv s lF
      have lN : News g1 Lg s.heap [] := fun _ h => nomatch h
      (iterate 2 (walk_at "W"))
      k_here
      refine wpAny_storeName_local (by rfl) lF.ns (fun h' hn hs => ?_) (by rfl)
      refine ⟨rfl, h', _, rfl, hs, ?_⟩
      have e : (fun y => if y = Str.ofString "last_interval" then some (.int z t) else if y = Str.ofString "interval" then some (.int z t) else base y) =
          (fun x => if x = Str.ofString "last_interval" then some (.int z t) else (fun y => if y = Str.ofString "interval" then some (.int z t) else if y = Str.ofString "last_interval" then some lv else if y = Str.ofString "interval" then iv else base y) x) := by
        funext y
        by_cases h1 : y = Str.ofString "last_interval"
        · simp [h1]
        · by_cases h2 : y = Str.ofString "interval" <;> simp [h1, h2]
      rw [e]; exact hn
end MineW
end

section
theorem MineW.fresh4 : True := by
  w_top off
  trivial
open PySem PySem.W PyProof.Rows PyProof.V
namespace MineW
/-- what the table of exceptions and lower() make of one sign -/
def b3 (D : List (Int × PyData)) (c : Nat) : Str := match KTD.datumAt (c : Int) D with | some (.str x) => x | _ => Txt.lower ⟨#[c]⟩
def b3ok (D : List (Int × PyData)) (c : Nat) : Prop := match KTD.datumAt (c : Int) D with | some (.str _) => True | none => True | _ => False
section
variable {prog : Program} {w : World} {A : Around} {E : Value → Shared → Prop} {s : Shared} {h₀ : Heap} {a : Addr} {D : List (Int × PyData)} {k : Int} {tk : Tok}
theorem get_hit {Q : Value → Shared → Prop} {x : Str} (K : KTD.Keyed h₀ a D) (hk : ∀ b o, h₀.get? b = some o → s.heap.get? b = some o) (hx : KTD.datumAt k D = some (.str x)) (h : ∀ t, Q (.str x t) { s with toks := s.toks + 1 }) :
    wpAny (model prog w) A (call (.builtin "dict.get") [.ref a, .int k tk]) Q E s :=
  call_get1_intTab (K.keep hk prog w) fun v hv => by
    rw [KTD.lookup_keyed, hx] at hv
    obtain ⟨t, rfl⟩ := Flat.str_inv hv
    exact h t
theorem get_miss {Q : Value → Shared → Prop} (K : KTD.Keyed h₀ a D) (hk : ∀ b o, h₀.get? b = some o → s.heap.get? b = some o) (hx : KTD.datumAt k D = none) (h : Q .none { s with toks := s.toks + 1 }) :
    wpAny (model prog w) A (call (.builtin "dict.get") [.ref a, .int k tk]) Q E s :=
  call_get1_intTab (K.keep hk prog w) fun v hv => by
    rw [KTD.lookup_keyed, hx] at hv
    have hv' : Flat v .none := hv
    rw [hv'.none_inv]
    exact h
end
set_option maxRecDepth 100000 in
set_option maxHeartbeats 8000000 in
theorem b3_spec (w : World) (mean : ExcName → Option Value) (mg mb : Str → Option Value) (news : List (Addr × Obj)) (D : List (Int × PyData)) (hD : KTD.keyedLook (fun b => (Mine.hd.heap_1 w.params).lookup b) 22 D = true) (c : Nat) (t : Tok) (hok : b3ok D c) :
   CbClaim PySem.Challenge.rw_st0044_01.row.prog w (Mine.hd.heap_1 w.params) Mine.qv LO mean mg mb 67 news [] True [.str ⟨#[c]⟩ t]
     (fun t => .str (b3 D c) t) := by
  k_fill
  dsimp only [CbClaim, CbLists, CbRet]
  intro dp un gd cn cs a' ccd cl outer A₀ base h₀ L m s Q E q1 q2 q3 q4 q5 q6 q7 q8 q9 hret
  refine wpAny_call ?_
  k_dflt cell_enter
  rename_i g1 L1 hh1 FG F0 N0 B1 X1 T1
  have hKey : KTD.Keyed g1 22 D := kt_keyed_in X1 hD
  (iterate 15 (walk_at "W"))
  k_here
  rename KTD.Keyed _ _ _ => hKey
  rename Fr _ _ _ _ => lF
  cases hat : KTD.datumAt (c : Int) D with
  | some v =>
    cases v with
    | str x =>
      with_unfolding_all refine get_hit (D := D) (x := x) hKey lF.keep hat ?_
      intro t1
      (iterate 14 (walk_at "W"))
      have e : b3 D c = x := by simp [b3, hat]
      rw [← e]
      exact hret _ _ _ (by assumption) (by assumption)
    | _ => exact absurd hok (by simp [b3ok, hat])
  | none =>
    with_unfolding_all refine get_miss (D := D) hKey lF.keep hat ?_
    (iterate 17 (walk_at "W"))
    k_here
    refine SCL.lower (by show 1 ≤ 5592405; decide) ?_
    intro t1
    have e : b3 D c = Txt.lower ⟨#[c]⟩ := by simp [b3, hat]
    rw [← e]
    walk_at "W"
    exact hret _ _ _ (by assumption) (by assumption)
end MineW
end

section
theorem MineW.fresh5 : True := by
  w_top off
  trivial
open PySem PySem.W PyProof.Rows
namespace MineW
def codesT : List Int := [64257, 64258, 64262, 8470, 8480, 8482, 8360, 13171, 13173, 13184, 13185, 13187, 13188, 13189, 13190, 13191, 13194, 13195, 13200, 13236, 13240, 13243, 13251, 13256, 13257, 13259, 13262, 13271, 13274, 13276, 13277]
def textsT : List Str := [Str.ofString "fi", Str.ofString "fl", Str.ofString "st", Str.ofString "no", Str.ofString "sm", Str.ofString "tm", Str.ofString "rs", Str.ofString "au", Str.ofString "ov", Str.ofString "pa", Str.ofString "na", Str.ofString "ma", Str.ofString "ka", Str.ofString "kb", Str.ofString "mb", Str.ofString "gb", Str.ofString "pf", Str.ofString "nf", Str.ofString "hz", Str.ofString "pv", Str.ofString "kv", Str.ofString "nw", Str.ofString "bq", Str.ofString "db", Str.ofString "gy", Str.ofString "hp", Str.ofString "km", Str.ofString "ph", Str.ofString "pr", Str.ofString "sv", Str.ofString "wb"]
def codeAt (seed : Int) : Nat := (codesT.getD (seed.fmod 31).toNat 0).toNat
def textAt (seed : Int) : Str := textsT.getD (seed.fmod 31).toNat Str.empty
abbrev PrClaim (prog : Program) (w : World) (K : Frag) (p : Program) (loose : List Str) (mean : ExcName → Option Value) (mg mb : Str → Option Value) (f : Addr) (news : Ents) (seed : Int) (t : Tok) : Prop :=
  ∀ (dp un : Nat) (gd : Option (List Code)) (cn : Str) (cs : Scope) (a : Addr) (ccd : Value) (cl : List (Str × Addr)) (outer : List Env) (A₀ : Around) (base h₀ : Heap) (L : Addr) (m : Str → Option Value) (s : Shared) (Q E : Value → Shared → Prop),
    Below A₀ base outer h₀ → Fr h₀ L s.heap m → K.In h₀ → News h₀ L s.heap news → Top p loose mean mg mb h₀ → cs.kind = .function →
    dp + 1 < recursionLimit → un + 8 < cLine →
    (∀ (T : Addr) (t1 t2 : Tok) (h' : Heap) (tk' : Nat), AllLt T news → Fr h₀ L h' m → News h₀ L h' ((T, tupOf [.str ⟨#[codeAt seed]⟩ t1, .str (textAt seed) t2]) :: news) → Q (.ref T) { s with heap := h', toks := tk' }) →
      wpAny (model prog w) (ktrTop dp un gd cn cs L a ccd cl outer) (call (.ref f) [.int seed t]) Q E s
theorem words_texts : Txt.words (Str.ofString "fi fl st no sm tm rs au ov pa na ma ka kb mb gb pf nf hz pv kv nw bq db gy hp km ph pr sv wb") = textsT := by decide +kernel
set_option maxRecDepth 100000 in
set_option maxHeartbeats 8000000 in
theorem pair_spec (w : World) (mean : ExcName → Option Value) (mg mb : Str → Option Value) (news : Ents) (seed : Int) (t : Tok) :
   PrClaim PySem.Challenge.rw_st0044_01.row.prog w (Mine.hd.heap_1 w.params) Mine.qv LO mean mg mb 154 news seed t := by
  k_fill
  dsimp only [PrClaim]
  intro dp un gd cn cs a' ccd cl outer A₀ base h₀ L m s Q E q1 q2 q3 q4 q5 q6 q8 q9 hret
  have hfull : ∀ (T : Addr) (t1 t2 : Tok) (X Y : Addr × Obj) (h' : Heap) (tk' : Nat), (X.1 < T ∧ Y.1 < T ∧ AllLt T news) → Fr h₀ L h' m → News h₀ L h' ((T, tupOf [.str ⟨#[codeAt seed]⟩ t1, .str (textAt seed) t2]) :: X :: Y :: news) → Q (.ref T) { s with heap := h', toks := tk' } := by
    intro T t1 t2 X Y h' tk' hA F N
    refine hret T t1 t2 h' tk' hA.2.2 F (cb_drop N fun q hq => ?_)
    rcases List.mem_cons.mp hq with rfl | hq
    · exact .head _
    · exact .tail _ (.tail _ (.tail _ hq))
  refine wpAny_call ?_
  k_dflt cell_enter
  rename_i g1 L1 hh1 FG F0 N0 B1 X1 T1
  (iterate 94 (walk_at "W"))
  k_here
  have hm0 : 0 ≤ seed.fmod 31 := Int.fmod_nonneg_of_pos seed (by decide)
  have hm1 : seed.fmod 31 < 31 := Int.fmod_lt_of_pos seed (by decide)
  have hb : 0 ≤ codesT.getD (seed.fmod 31).toNat 0 ∧ codesT.getD (seed.fmod 31).toNat 0 ≤ 1114111 := by
    have : ∀ i, i < 31 → 0 ≤ codesT.getD i 0 ∧ codesT.getD i 0 ≤ 1114111 := by decide +kernel
    exact this _ (by omega)
  refine chr_of_range hb.1 hb.2 ?_
  dsimp only
  (iterate 7 (walk_at "W"))
  k_here
  rename StrsAre _ _ => hSt
  rename List.map _ _ = Txt.words _ => hW
  rw [words_texts] at hW
  rw [hW] at hSt
  obtain ⟨t3, hx⟩ := hSt.get (seed.fmod 31).toNat (textAt seed) (by
    have : ∀ i, i < 31 → textsT[i]? = some (textsT.getD i Str.empty) := by decide +kernel
    exact this _ (by omega))
  rename News _ _ _ _ => lN
  rename Fr _ _ _ _ => lF
  refine item_litK ⟨_, (lN _ (.head _)).1, rfl, _, rfl⟩ hm0 (by omega) hx ?_ (by with_unfolding_all rfl)
  (iterate 3 (walk_at "W"))
  rename News _ _ _ _ => lN
  rename Fr _ _ _ _ => lF
  with_unfolding_all exact hfull _ _ _ _ _ _ _ (by assumption) lF lN
end MineW
end

section
open PySem PySem.W PyProof.Rows
namespace MineW
section
variable {prog : Program} {w : World} {A : Around} {E : Value → Shared → Prop} {s : Shared} {h₀ : Heap} {L D b : Addr} {m : Str → Option Value} {its its2 : Array Value} {n n2 : Nat}
theorem iadd_call {M : Model} {a b : Value} {Q : Value → Shared → Prop} (ha : s.TypeIs a "list") (hb : s.TypeIs b "list") (hc : wpAny M A (call (.builtin "list.__iadd__") [a, b]) Q E s) : wpAny M A (inplaceOp .Add a b) Q E s := by
  have hl := PySem.F.slot_list_iadd.lookup
  have hq : isSeqSlot (some (.builtin "list.__iadd__")) = true := by decide +kernel
  have hfi : fillsInplaceSlot (.type "list") "add" (Operator.Add == .Add) = pure false := by
    unfold fillsInplaceSlot
    show (typeLookup (.type "list") (dunderI "add") >>= fun fi => pure (fi.isSome && !isSeqSlot fi)) = pure false
    rw [hl]
    show pure (true && !isSeqSlot (some (.builtin "list.__iadd__"))) = (pure false : Sem Bool)
    rw [hq]; rfl
  unfold inplaceOp
  refine wpAny_holding (wpAny_bind (wpAny_typeOf ha (wpAny_bind (wpAny_of_eq hfi ?_))))
  show wpAny M A (if false = true then _ else _) Q E s
  rw [if_neg Bool.false_ne_true]
  refine wpAny_bind (wpAny_binaryOp1_none (nm := "add") ha hb noFill_list_add ?_)
  refine wpAny_bind (wpAny_of_eq (PySem.seqSlot_of hl hq) ?_)
  exact wpAny_bind (wpAny_rule hc)
/-- `left += right` of two lists of the call's own -/
theorem iadd_lists {rest : List (Addr × Obj)} {Q : Value → Shared → Prop} (F : Fr h₀ L s.heap m) (N : News h₀ L s.heap ((D, listOf its n) :: rest)) (hoff : ∀ p ∈ rest, p.1 ≠ D) (hb : (b, listOf its2 n2) ∈ rest)
    (h1 : its.size ≤ 1000) (h2 : its2.size ≤ 1000) (h : ∀ h' n', Fr h₀ L h' m → News h₀ L h' ((D, listOf (its ++ its2) n') :: rest) → Q (.ref D) { s with heap := h' }) :
    wpAny (model prog w) A (inplaceOp .Add (.ref D) (.ref b)) Q E s := by
  have z := N (D, listOf its n) (.head _)
  have zb := N _ (.tail _ hb)
  have hne : ¬(!its.isEmpty && Builtin.List.listTooLong (its.size + its2.size)) = true := by
    have : Builtin.List.listTooLong (its.size + its2.size) = false := by
      unfold Builtin.List.listTooLong
      simp [sizeLine]; omega
    rw [this]; simp
  refine iadd_call ⟨_, z.1, rfl⟩ ⟨_, zb.1, rfl⟩ (call_meets (T := "list") PySem.F.slot_list_iadd ⟨_, z.1, rfl⟩ PySem.F.entry_list_iadd (PySem.F.args_list_iadd_2 _ _)
    (PySem.AutoSeq1.list___iadd___list_list_0 D its n b its2 n2 hne (by unfold sizeLine; omega) (by unfold sizeLine; omega)) ⟨z.1, zb.1, ?_⟩)
  have q := PySem.IsL.update z.1 (fun x => x ++ its2)
  show Q (.ref D) _
  have hN : ∀ k : Nat, ((s.heap.update D (Obj.mapSeq fun x => x ++ its2)).get? D = some (listOf (its ++ its2) k)) → News h₀ L (s.heap.update D (Obj.mapSeq fun x => x ++ its2)) ((D, listOf (its ++ its2) k) :: rest) := by
    intro k q p hp
    rcases List.mem_cons.mp hp with rfl | hp'
    · exact ⟨q, z.2⟩
    · have zp := N p (.tail _ hp')
      exact ⟨((Heap.SameBut.update ..).2 _ (hoff p hp')).trans zp.1, zp.2⟩
  exact h _ _ (F.change (Heap.SameBut.update ..) z.2.1 z.2.2) (hN _ q)
theorem iadd_lists2 {rest : List (Addr × Obj)} {Q : Value → Shared → Prop} (F : Fr h₀ L s.heap m) (N : News h₀ L s.heap ((b, listOf its2 n2) :: (D, listOf its n) :: rest)) (hne : b ≠ D) (hoff : ∀ p ∈ rest, p.1 ≠ D)
    (h1 : its.size ≤ 1000) (h2 : its2.size ≤ 1000) (h : ∀ h' n', Fr h₀ L h' m → News h₀ L h' ((D, listOf (its ++ its2) n') :: rest) → Q (.ref D) { s with heap := h' }) :
    wpAny (model prog w) A (inplaceOp .Add (.ref D) (.ref b)) Q E s := by
  refine iadd_lists (n := n) (rest := (b, listOf its2 n2) :: rest) F (fun q hq => N q ?_) (fun q hq => ?_) (.head _) h1 h2 fun h' n' F' N' => h h' n' F' (fun q hq => N' q ?_)
  · rcases List.mem_cons.mp hq with rfl | hq
    · exact .tail _ (.head _)
    · rcases List.mem_cons.mp hq with rfl | hq
      · exact .head _
      · exact .tail _ (.tail _ hq)
  · rcases List.mem_cons.mp hq with rfl | hq
    · exact hne
    · exact hoff q hq
  · rcases List.mem_cons.mp hq with rfl | hq
    · exact .head _
    · exact .tail _ (.tail _ hq)
end
end MineW
end

section
theorem MineW.fresh6 : True := by
  w_top off
  trivial
open PySem PySem.W PyProof.Rows
namespace MineW
def movesOf (a b : Nat) : List (Nat × Nat) :=
  (List.range a).map (fun j => (a - (j + 1), b)) ++ (List.range b).map (fun j => (a, b - (j + 1))) ++ (List.range (min a b)).map (fun j => (a - (j + 1), b - (j + 1)))
abbrev MvClaim (prog : Program) (w : World) (K : Frag) (p : Program) (loose : List Str) (mean : ExcName → Option Value) (mg mb : Str → Option Value) (f : Addr) (news : Ents) (core : List Nat) (a b : Nat) (t ta tb : Tok) : Prop :=
  ∀ (dp un : Nat) (gd : Option (List Code)) (cn : Str) (cs : Scope) (a' : Addr) (ccd : Value) (cl : List (Str × Addr)) (outer : List Env) (A₀ : Around) (base h₀ : Heap) (L : Addr) (m : Str → Option Value) (s : Shared) (Q E : Value → Shared → Prop),
    Below A₀ base outer h₀ → Fr h₀ L s.heap m → K.In h₀ → News h₀ L s.heap news → Top p loose mean mg mb h₀ → cs.kind = .function →
    dp + 2 < recursionLimit → un + 16 < cLine →
    (∀ (D : Addr) (vs : List Value) (n : Nat) (h' : Heap) (tk' : Nat), StrsAre vs ((movesOf a b).map fun p => line p.1 core p.2) → (∀ p ∈ news, p.1 ≠ D) → Fr h₀ L h' m → News h₀ L h' ((D, listOf vs.toArray n) :: news) → Q (.ref D) { s with heap := h', toks := tk' }) →
      wpAny (model prog w) (ktrTop dp un gd cn cs L a' ccd cl outer) (call (.ref f) [.str (line a core b) t, .int a ta, .int b tb]) Q E s
local macro_rules | `(tactic| walk_at "subscriptTail Name Slice str ref") => `(tactic| (k_here; with_unfolding_all refine' slice_rev_r (s := ⟨_, _, _, _, _⟩) ?g5 ?gF ?gN ?_; (case gF => k_asm); (case gN => k_asm); (case g5 => ((try simp only [List.length_reverse]); omega)); intro _ _ _ kF kN))
local macro_rules | `(tactic| walk_at "subscriptTail Call Name cons nil Slice str ref") => `(tactic| (k_here; with_unfolding_all refine' slice_rev_r (s := ⟨_, _, _, _, _⟩) ?g5 ?gF ?gN ?_; (case gF => k_asm); (case gN => k_asm); (case g5 => ((try simp only [List.length_reverse]); omega)); intro _ _ _ kF kN))
theorem off1_mem {D : Addr} {l : Ents} : LCg.Off1 D l → ∀ p ∈ l, p.1 ≠ D := by
  induction l with
  | nil => intro _ p hp; cases hp
  | cons q r ih =>
    intro h p hp
    rcases List.mem_cons.mp hp with e | hp
    · rw [e]; exact h.1
    · exact ih h.2 p hp
theorem moves_list (a b : Nat) (core : List Nat) : (rangeKs 1 a).map (fun k => line (a - k.toNat) core b) ++ (rangeKs 1 b).map (fun k => line a core (b - k.toNat)) ++ (rangeKs 1 (min a b)).map (fun k => line (a - k.toNat) core (b - k.toNat)) =
    (movesOf a b).map fun p => line p.1 core p.2 := by
  have e : ∀ i : Nat, ((1 : Int) + (i : Int)).toNat = i + 1 := fun i => by omega
  simp only [movesOf, rangeKs, List.map_append, List.map_map]
  congr 1
  · congr 1 <;> (apply List.map_congr_left; intro i _; simp only [Function.comp_apply, e])
  · apply List.map_congr_left; intro i _; simp only [Function.comp_apply, e]
theorem mn_in {a b K : Nat} (ha : K ≤ a) : min b (a + b - K) = b := Nat.min_eq_left (by omega)
theorem mn_left {a b K : Nat} (ha : K ≤ a) (hb : K ≤ b) : min (a - K) (min b (a + b - K) + (a - K) - K) = a - K := by
  rw [mn_in ha]; exact Nat.min_eq_left (by omega)
theorem mn_mid {a b K : Nat} (ha : K ≤ a) : min b (a + b - K) - K = b - K := by rw [mn_in ha]
theorem rng1 (n : Nat) : Builtin.Range.rangeSize 1 ((n : Int) + 1) 1 = ((n : Nat) : Int) := by simp [Builtin.Range.rangeSize]; omega
theorem rng2 (a b : Nat) : Builtin.Range.rangeSize 1 ((if (b : Int) < (a : Int) then (b : Int) else (a : Int)) + 1) 1 = ((min a b : Nat) : Int) := by
  have e : (if (b : Int) < (a : Int) then (b : Int) else (a : Int)) = ((min a b : Nat) : Int) := by split <;> omega
  rw [e]; exact rng1 _
theorem rev_ne {l : List Nat} (h : l ≠ []) : l.reverse ≠ [] := by simpa using h
theorem rev_head {l : List Nat} (h : l.getLast? ≠ some 32) : l.reverse.head? ≠ some 32 := by simpa using h
theorem rev_last {l : List Nat} (h : l.head? ≠ some 32) : l.reverse.getLast? ≠ some 32 := by simpa using h
set_option maxRecDepth 100000 in
set_option maxHeartbeats 8000000 in
theorem moves_spec (w : World) (mean : ExcName → Option Value) (mg mb : Str → Option Value) (news : Ents) (core : List Nat) (a b : Nat) (t ta tb : Tok)
   (hc : core ≠ []) (h0 : core.head? ≠ some 32) (h1 : core.getLast? ≠ some 32) (ha : a ≤ 20) (hb : b ≤ 20) (hl : core.length ≤ 20) :
   MvClaim PySem.Challenge.rw_st0044_01.row.prog w (Mine.hd.heap_1 w.params) Mine.qv LO mean mg mb 171 news core a b t ta tb := by
  k_fill
  dsimp only [MvClaim]
  intro dp un gd cn cs a' ccd cl outer A₀ base h₀ L m s Q E q1 q2 q3 q4 q5 q6 q8 q9 hret
  refine wpAny_call ?_
  k_dflt (refine' code_defC ?k1 ?k2 ?k3 ?k4 ?k5 ?kA ?kF ?kK ?k6 ?k7 ?k8 ?k9 ?kB ?kD ?_ ?c2 ?c3 ?c4; (case kA => exact rfl); (case kF => exact rfl); (case kK => assumption); (case k1 => k_asm); (case k2 => k_asm); (case k3 => k_asm); (case k4 => k_asm); (case k5 => k_asm); (case k6 => k_is); (case k7 => k_is); (case k8 => ktr_room); (case k9 => exact BindsTo.of_eq rfl); (case kB => exact rfl); (case kD => decide +kernel); (case c2 => exact rfl); (case c3 => exact rfl); (case c4 => exact rfl); k_whole; intro g' L' h' tk' cells' FG' F' N' Y' B' X' T' l1; (try k_lt l1); k_cells Y'; (try simp only [List.cons_append, List.nil_append] at N'); (try dsimp only); (try k_lift B'); (try k_fold))
  (iterate 14 (walk_at "W"))
  k_here
  rename Fr _ _ _ _ => lF
  rename News _ _ _ _ => lN
  rename IsRange _ _ _ _ _ _ _ _ => lR
  refine LCg.CompSrc.range (n := a) (by rfl) lF lN lR ?sm ?hn ?sz ?_
  case sm => exact small_one (by omega) (by omega) (by omega) (by omega)
  case hn => exact rng1 a
  case sz => unfold sizeLine; omega
  intro g2
  refine' kct_range (fun k => line (a - k.toNat) core b) (fun k t1 I oI C oC D m2 ys h tk E' hk1 hk2 hC hx lF lN off ne mk => ?_) ?_
  · (iterate 10 (walk_at "W"))
    k_here
    with_unfolding_all refine' strip_spec w _ _ _ _ core a b k _ _ hc h0 h1 ?_ ?_ ?_ ?_ ?_ _ _ _ _ _ _ _ _ _ _ _ _ _ _ _ _ _ (by k_asm) lF (by k_asm) lN (by k_asm) rfl trivial (by ktr_room) (by ktr_units) ?_
    any_goals omega
    clear lF lN
    intro t2 h2 tk2 lF lN
    have e : line (a - k.toNat) core (min b (a + b - k.toNat)) = line (a - k.toNat) core b := by rw [show min b (a + b - k.toNat) = b by omega]
    rw [e]
    exact ⟨h2, tk2, _, rfl, lF, lN, off, trivial, rfl, t2, rfl⟩
  · (iterate 18 (walk_at "W"))
    k_here
    clear lF lR
    rename_i ca1 ca2 D1 x1 x2 xF xN o1 e3 e4 e5 e6 e7 lR lF lN e8
    clear xF xN
    have hS1 := ca1.strsOf
    have hL1 := hS1.length
    rw [List.length_map, ca2] at hL1
    refine LCg.CompSrc.range (n := b) (by rfl) lF lN lR ?sm2 (rng1 b) ?sz2 ?_
    case sm2 => exact small_one (by omega) (by omega) (by omega) (by omega)
    case sz2 => unfold sizeLine; omega
    intro g3
    refine' kct_range (fun k => line a core (b - k.toNat)) (fun k t1 I oI C oC D m2 ys h tk E' hk1 hk2 hC hx lF lN off ne mk => ?_) ?_
    · (iterate 20 (walk_at "W"))
      k_here
      rename Fr _ _ _ _ => lF
      rename News _ _ _ _ => lN
      with_unfolding_all refine' strip_spec w _ _ _ _ core.reverse b a k _ _ (rev_ne hc) (rev_head h1) (rev_last h0) ?_ ?_ ?_ ?_ ?_ _ _ _ _ _ _ _ _ _ _ _ _ _ _ _ _ _ (by k_asm) lF (by k_asm) lN (by k_asm) rfl trivial (by ktr_room) (by ktr_units) ?_
      any_goals ((try simp only [List.length_reverse]); omega)
      clear lF lN
      intro t2 h2 tk2 lF lN
      dsimp only
      (iterate 9 (walk_at "W"))
      k_here
      clear lF lN
      rename Fr _ _ _ _ => lF
      rename News _ _ _ _ => lN
      have e : line (min a (b + a - k.toNat)) core.reverse.reverse (b - k.toNat) = line a core (b - k.toNat) := by rw [show min a (b + a - k.toNat) = a by omega, List.reverse_reverse]
      rw [e]
      exact ⟨_, _, _, rfl, lF, lN, off, trivial, rfl, _, rfl⟩
    · (iterate 2 (walk_at "W"))
      k_here
      rename_i c1 c2 D2 f1 f2 lF lN o2
      have hS2 := c1.strsOf
      have hL2 := hS2.length
      rw [List.length_map, c2] at hL2
      with_unfolding_all refine' iadd_lists2 lF lN o2.1.symm ?off1 ?sz3 ?sz4 ?_
      case sz3 => rw [List.size_toArray, hL1]; omega
      case sz4 => rw [List.size_toArray, hL2]; omega
      case off1 =>
        intro q hq
        rcases List.mem_cons.mp hq with rfl | hq
        · exact o1.1
        · exact off1_mem o1.2 q hq
      clear lF lN
      intro h3 n3 lF lN
      (iterate 26 (walk_at "W"))
      k_here
      rename_i y1 y2 y3 lR lF lN y7
      refine LCg.CompSrc.range (n := min a b) (by rfl) lF lN lR ?sm5 (rng2 a b) ?sz5 ?_
      case sm5 => exact small_one (by omega) (by omega) (by split <;> omega) (by split <;> omega)
      case sz5 => unfold sizeLine; omega
      intro g5
      refine' kct_range (fun k => line (a - k.toNat) core (b - k.toNat)) (fun k t1 I oI C oC D m2 ys h tk E' hk1 hk2 hC hx lF lN off ne mk => ?_) ?_
      · have hka : k.toNat ≤ a := by omega
        have hkb : k.toNat ≤ b := by omega
        (iterate 16 (walk_at "W"))
        k_here
        with_unfolding_all refine' strip_spec w _ _ _ _ core a b k _ _ hc h0 h1 ?_ ?_ ?_ ?_ ?_ _ _ _ _ _ _ _ _ _ _ _ _ _ _ _ _ _ (by k_asm) lF (by k_asm) lN (by k_asm) rfl trivial (by ktr_room) (by ktr_units) ?_
        any_goals omega
        clear lF lN
        intro t2 h2 tk2 lF lN
        dsimp only
        (iterate 12 (walk_at "W"))
        k_here
        clear lF lN
        rename Fr _ _ _ _ => lF
        rename News _ _ _ _ => lN
        with_unfolding_all refine' strip_spec w _ _ _ _ core.reverse (min b (a + b - k.toNat)) (a - k.toNat) k _ _ (rev_ne hc) (rev_head h1) (rev_last h0) ?_ ?_ ?_ ?_ ?_ _ _ _ _ _ _ _ _ _ _ _ _ _ _ _ _ _ (by k_asm) lF (by k_asm) lN (by k_asm) rfl trivial (by ktr_room) (by ktr_units) ?_
        any_goals ((try simp only [List.length_reverse]); first | (rw [mn_left hka hkb, mn_mid hka]; omega) | (rw [mn_in hka]; omega) | omega)
        clear lF lN
        intro t3 h3' tk3 lF lN
        dsimp only
        (iterate 9 (walk_at "W"))
        k_here
        clear lF lN
        rename Fr _ _ _ _ => lF
        rename News _ _ _ _ => lN
        have e : ∀ x, line (min (a - k.toNat) (min b (a + b - k.toNat) + (a - k.toNat) - k.toNat)) core.reverse.reverse (min b (a + b - k.toNat) - k.toNat) = x → x = line (a - k.toNat) core (b - k.toNat) := by
          intro x hx
          rw [← hx, mn_left hka hkb, mn_mid hka, List.reverse_reverse]
        rw [e _ rfl]
        exact ⟨_, _, _, rfl, lF, lN, off, trivial, rfl, _, rfl⟩
      · walk_at "W"
        k_here
        rename_i c1 c2
        have hS3 := c1.strsOf
        have hL3 := hS3.length
        rw [List.length_map, c2] at hL3
        walk_at "W"
        rename_i D3 f1 f2 lF lN o3
        k_here
        with_unfolding_all refine' iadd_lists2 lF lN o3.1.symm ?off3 ?sz6 ?sz7 ?_
        case sz6 => rw [Array.size_append, List.size_toArray, List.size_toArray, hL1, hL2]; omega
        case sz7 => rw [List.size_toArray, hL3]; omega
        case off3 =>
          intro q hq
          rcases List.mem_cons.mp hq with rfl | hq
          · exact o1.1
          · exact off1_mem o1.2 q hq
        clear lF lN
        intro h4 n4 lF lN
        (iterate 6 (walk_at "W"))
        rename Fr _ _ _ _ => lF
        rename News _ _ _ _ => lN
        have hAll := (hS1.append' hS2).append' hS3
        rw [moves_list a b core] at hAll
        rw [List.append_toArray, List.append_toArray] at lN
        exact hret D1 _ _ _ _ hAll (off1_mem o1.2) lF (cb_drop lN fun q hq => by
          rcases List.mem_cons.mp hq with rfl | hq
          · exact .head _
          · exact .tail _ (.tail _ hq))
end MineW
end

section
open PySem PySem.W PyProof.Rows
namespace MineW
section
variable {prog : Program} {w : World} {A : Around} {E : Value → Shared → Prop} {s : Shared} {env : Env} {h₀ : Heap} {x : Str} {body : List Stmt} {Q : Flow → Shared → Prop}
theorem unr_mono {L I : Addr} {it : Obj} {R R' : (Str → Option Value) → List (Addr × Obj) → Prop} {s₁ s₂ : Shared} {f : Flow} (h : ∀ m n, (∀ p ∈ n, p.1 ≠ I) → R m n → R' m n) (p : UnrPost h₀ L s₁ I it R Q f s₂) : UnrPost h₀ L s₁ I it R' Q f s₂ := by
  cases f with
  | ret v => exact p
  | brk => exact p
  | next => obtain ⟨h', tk, m', n', e, F, N, o, r⟩ := p; exact ⟨h', tk, m', n', e, F, N, o, h _ _ o r⟩
  | cont => obtain ⟨h', tk, m', n', e, F, N, o, r⟩ := p; exact ⟨h', tk, m', n', e, F, N, o, h _ _ o r⟩
/-- a for over a list of the call's own, by what holds of the items that are left -/
theorem list_ind {I : Addr} {lp : Addr × Obj} (Inv : List Value → (Str → Option Value) → List (Addr × Obj) → Prop)
    (step : ∀ v r m news it h tk, (∀ p ∈ news, p.1 ≠ I) → Inv (v :: r) m news → it.cls = .type "list_iterator" → Fr h₀ env.locals h (fun y => if y = x then some v else m y) → News h₀ env.locals h ((I, it) :: news) →
      wpAny (model prog w) A (execs body env) (UnrPost h₀ env.locals { s with heap := h, toks := tk } I it (fun m' n' => lp ∈ n' ∧ Inv r m' n') Q) E { s with heap := h, toks := tk })
    (done : ∀ m news, Inv [] m news → ∀ h tk, Fr h₀ env.locals h m → News h₀ env.locals h news → Q .next { s with heap := h, toks := tk }) :
    ∀ (vs : List Value) (m : Str → Option Value) (news : List (Addr × Obj)), (∀ p ∈ news, p.1 ≠ I) → Inv vs m news → ListRest prog w A E h₀ env x body Q s I lp vs m news := by
  intro vs
  induction vs with
  | nil => intro m news _ hi; exact ListRest.zero (done m news hi)
  | cons v r ih =>
    intro m news ho hi
    refine ListRest.succ fun it h tk hc F N => ?_
    exact wpAny_mono (step v r m news it h tk ho hi hc F N) (fun f s₂ p => unr_mono (fun m' n' o q => ⟨q.1, ih m' n' o q.2⟩) p) fun _ _ e => e
theorem range_ind {I : Addr} {a : Int} {n : Nat} (Inv : Nat → (Str → Option Value) → List (Addr × Obj) → Prop)
    (step : ∀ i m news t h tk, i < n → (∀ p ∈ news, p.1 ≠ I) → Inv i m news → Fr h₀ env.locals h (fun y => if y = x then some (.int (a + (i : Int)) t) else m y) → News h₀ env.locals h ((I, itR (a + ((i + 1 : Nat) : Int)) ((n : Int) - ((i + 1 : Nat) : Int))) :: news) →
      wpAny (model prog w) A (execs body env) (UnrPost h₀ env.locals { s with heap := h, toks := tk } I (itR (a + ((i + 1 : Nat) : Int)) ((n : Int) - ((i + 1 : Nat) : Int))) (Inv (i + 1)) Q) E { s with heap := h, toks := tk })
    (done : ∀ m news, Inv n m news → ∀ h tk, Fr h₀ env.locals h m → News h₀ env.locals h news → Q .next { s with heap := h, toks := tk }) :
    ∀ (k i : Nat) (m : Str → Option Value) (news : List (Addr × Obj)), i + k = n → (∀ p ∈ news, p.1 ≠ I) → Inv i m news → RangeRest prog w A E h₀ env x body Q s I a n k i m news := by
  intro k
  induction k with
  | zero => intro i m news e _ hi; exact RangeRest.zero (done m news (by rw [show n = i by omega]; exact hi))
  | succ k ih =>
    intro i m news e ho hi
    refine RangeRest.succ fun t h tk F N => ?_
    exact wpAny_mono (step i m news t h tk (by omega) ho hi F N) (fun f s₂ p => unr_mono (fun m' n' o q => ih (i + 1) m' n' (by omega) o q) p) fun _ _ e => e
end
end MineW
end

section
open PySem PySem.W PyProof.Rows
namespace MineW
section
variable {prog : Program} {w : World} {A : Around} {E : Value → Shared → Prop} {s : Shared} {env : Env} {h₀ : Heap}
/-- a for over a range whose name is captured (a cell): the store is walked with the turn -/
theorem for_range_any {target iter : PySem.Expr} {body : List Stmt} {pos : Pos} {a₀ b₀ : Int} {n : Nat} {Q : Flow → Shared → Prop} (J : Nat → (Str → Option Value) → List (Addr × Obj) → Prop)
    (hh : A.handled = none) (ht : ∀ it v, letOwnedTupleGo target it v = pure ())
    (h : wpAny (model prog w) A (eval iter env) (fun xv s₁ => ∃ r t₀ u₀ v₀ m news, xv = .ref r ∧ IsRange s₁.heap r a₀ b₀ 1 t₀ u₀ v₀ ∧ Builtin.Range.small a₀ b₀ 1 = true ∧ Builtin.Range.rangeSize a₀ b₀ 1 = (n : Int) ∧ Fr h₀ env.locals s₁.heap m ∧ News h₀ env.locals s₁.heap news ∧ J 0 m news ∧
      (∀ I, (∀ p ∈ news, p.1 < I) → (∀ i m nw t h tk, i < n → (∀ p ∈ nw, p.1 ≠ I) → J i m nw → Fr h₀ env.locals h m → News h₀ env.locals h ((I, itR (a₀ + ((i + 1 : Nat) : Int)) ((n : Int) - ((i + 1 : Nat) : Int))) :: nw) →
        wpAny (model prog w) A (assign target env (.int (a₀ + (i : Int)) t)) (fun _ s₂ => wpAny (model prog w) A (execs body env) (UnrPost h₀ env.locals { s₁ with heap := h, toks := tk } I (itR (a₀ + ((i + 1 : Nat) : Int)) ((n : Int) - ((i + 1 : Nat) : Int))) (J (i + 1)) Q) NoE s₂) NoE { s₁ with heap := h, toks := tk })) ∧
      (∀ m nw h tk, J n m nw → Fr h₀ env.locals h m → News h₀ env.locals h nw → Q .next { s₁ with heap := h, toks := tk })) E s)
    (hs : ∀ x, foldedSetIterable iter env x = pure x := by intro _; rfl) :
    wpAny (model prog w) A (exec (.For target iter body [] pos) env) Q E s := by
  refine wpAny_For (wpAny_mono h (fun xv s₁ h₁ => ?_) fun _ _ e => e) hs
  obtain ⟨r, t₀, u₀, v₀, m, news, rfl, hr, hsm, hn, F, N, hJ, turn, done⟩ := h₁
  refine wpAny_pyIter_range hr hsm ?_
  have turn := turn s₁.heap.objs.size fun p hp => Heap.lt_size (N p hp).1
  have W : Walks prog w A s₁.heap.objs.size [s₁.heap.objs.size] [s₁.heap.objs.size] n (fun i v => i < n ∧ ∃ t, v = .int (a₀ + i * 1) t)
      (fun i h => IsRangeIter h s₁.heap.objs.size (a₀ + (i : Nat) * 1) ((n : Int) - (i : Nat)) 1) := (Walks.range hh _ a₀ 1 n).bound
  have hnew := next_is_new F
  have hIL : env.locals ≠ s₁.heap.objs.size := Nat.ne_of_lt F.ns.lt
  refine codeAny_forLoop (fun k s' => ∃ h tk i m nw, k = n - i ∧ i ≤ n ∧ s' = { s₁ with heap := h, toks := tk } ∧ IsRangeIter h s₁.heap.objs.size (a₀ + (i : Nat) * 1) ((n : Int) - (i : Nat)) 1 ∧ Fr h₀ env.locals h m ∧ News h₀ env.locals h nw ∧ (∀ p ∈ nw, p.1 ≠ s₁.heap.objs.size) ∧ J i m nw) ?_ n
    ⟨_, _, 0, m, news, rfl, Nat.zero_le _, rfl, (by show IsRangeIter _ _ _ _ _; rw [hn]; simpa using Heap.get?_push_size _ rfl), F.push _, (fun p hp => ⟨Heap.get?_push_of_some _ (N p hp).1, (N p hp).2⟩), fun p hp => Nat.ne_of_lt (Heap.lt_size (N p hp).1), hJ⟩ (ht _)
  rintro k s' ⟨h, tk, i, m, nw, rfl, hi, rfl, hst, F, N, hoff, hJ⟩
  have hold : ∀ h' : Heap, (∀ b o, b ∉ [s₁.heap.objs.size] → h.get? b = some o → h'.get? b = some o) → Fr h₀ env.locals h' m ∧ News h₀ env.locals h' nw := fun h' hk =>
    ⟨⟨F.ns.at' fun o e => hk _ o (by simpa using hIL) e, fun b o e => hk b o (fun q => by rw [List.mem_singleton.mp q, hnew] at e; cases e) (F.keep b o e), F.above⟩,
      fun p hp => ⟨hk _ _ (by simpa using hoff p hp) (N p hp).1, (N p hp).2⟩⟩
  by_cases hlt : i < n
  · refine W.item i _ _ _ hlt hst fun v h₁ tk₁ hP hst₁ hk₁ => ?_
    obtain ⟨_, t, rfl⟩ := hP
    obtain ⟨F₁, N₁⟩ := hold h₁ hk₁
    have hst' : h₁.get? s₁.heap.objs.size = some (itR (a₀ + ((i + 1 : Nat) : Int)) ((n : Int) - ((i + 1 : Nat) : Int))) := by
      have q : IsRangeIter h₁ s₁.heap.objs.size (a₀ + ((i + 1 : Nat) : Int) * 1) ((n : Int) - ((i + 1 : Nat) : Int)) 1 := hst₁
      rw [Int.mul_one] at q
      exact q
    have N₂ : News h₀ env.locals h₁ ((s₁.heap.objs.size, itR (a₀ + ((i + 1 : Nat) : Int)) ((n : Int) - ((i + 1 : Nat) : Int))) :: nw) := fun p hp => by
      rcases List.mem_cons.mp hp with rfl | hp
      · exact ⟨hst', hIL.symm, hnew⟩
      · exact N₁ p hp
    have e1 : a₀ + (i : Int) * 1 = a₀ + (i : Int) := by rw [Int.mul_one]
    rw [e1]
    refine wpAny_mono (turn i m nw t h₁ tk₁ hlt hoff hJ F₁ N₂) (fun _ s₂ h₂ => wpAny_mono h₂ (fun f s₃ h₃ => ?_) fun _ _ x => x.elim) fun _ _ x => x.elim
    have fin : UnrEnd h₀ env.locals { s₁ with heap := h₁, toks := tk₁ } s₁.heap.objs.size (itR (a₀ + ((i + 1 : Nat) : Int)) ((n : Int) - ((i + 1 : Nat) : Int))) (J (i + 1)) s₃ →
        ∃ k, k < n - i ∧ ∃ h tk i m nw, k = n - i ∧ i ≤ n ∧ s₃ = { s₁ with heap := h, toks := tk } ∧ IsRangeIter h s₁.heap.objs.size (a₀ + (i : Nat) * 1) ((n : Int) - (i : Nat)) 1 ∧ Fr h₀ env.locals h m ∧ News h₀ env.locals h nw ∧ (∀ p ∈ nw, p.1 ≠ s₁.heap.objs.size) ∧ J i m nw := by
      rintro ⟨h', tk', m', nw', rfl, F', N', ho', hJ'⟩
      refine ⟨n - (i + 1), by omega, h', tk', i + 1, m', nw', rfl, hlt, rfl, ?_, F', fun p hp => N' p (.tail _ hp), ho', hJ'⟩
      have q := (N' _ (.head _)).1
      show h'.get? _ = _
      rw [Int.mul_one]
      exact q
    cases f with
    | ret v => exact h₃
    | brk => exact h₃
    | cont => exact fin h₃
    | next => exact fin h₃
  · have hin : i = n := by omega
    subst hin
    refine W.done _ _ _ hst fun h₁ tk₁ hk₁ => wpAny_execs_nil ?_
    obtain ⟨F₁, N₁⟩ := hold h₁ hk₁
    exact done m nw h₁ tk₁ hJ F₁ N₁
end
end MineW
end

section
open PySem PySem.W PyProof.Rows
namespace MineW
section
variable {prog : Program} {w : World} {A : Around} {h₀ : Heap} {L : Addr} {m : Str → Option Value} {env : Env} {ct elt : Expr} {x : Str} {scope : Scope} {cl : List (Str × Addr)} {s : Shared} {S : List (Addr × Obj) → Prop} {P : Nat → Value → Prop} {Fin : List Value → List (Addr × Obj) → Prop}
theorem comp_list {vs : List Value} (Inv : List Value → List Value → List (Addr × Obj) → Prop)
    (turn : ∀ v vr ys news I oI C oC D m₂ h tk (E' : Value → Shared → Prop), Inv (v :: vr) ys news → LCg.NsObj oC m₂ → m₂ x = some v → Fr h₀ L h m → News h₀ L h ((I, oI) :: (C, oC) :: (D, LCg.lst ys) :: news) → LCg.Off3 I C D news → ((@Ne Nat I C) ∧ (@Ne Nat I D) ∧ (@Ne Nat C D)) →
      wpAny (model prog w) A (eval elt (compEnvC scope cl C env)) (LCg.CompEnd h₀ L m { s with heap := h, toks := tk } I oI C oC D (LCg.lst ys) S (fun y news' => Inv vr (ys ++ [y]) news')) E' { s with heap := h, toks := tk })
    (fin : ∀ ys news, Inv [] ys news → Fin ys news) :
    ∀ news, Inv vs [] news → LCg.CompRest prog w A h₀ L m env elt x scope cl s S (fun i v => vs.toArray[i]? = some v) Fin vs.toArray.size 0 [] news := by
  have key : ∀ (j i : Nat) (ys : List Value) (news : List (Addr × Obj)), i + j = vs.length → Inv (vs.drop i) ys news → LCg.CompRest prog w A h₀ L m env elt x scope cl s S (fun i v => vs.toArray[i]? = some v) Fin j i ys news := by
    intro j
    induction j with
    | zero =>
      intro i ys news hi hI
      rw [List.drop_eq_nil_of_le (by omega)] at hI
      exact LCg.CompRest.zero (fin ys news hI)
    | succ j ih =>
      intro i ys news hi hI
      refine LCg.CompRest.succ ?_
      intro v I oI C oC D m₂ h tk E' hv hC hx F N off ne
      have hv' : vs[i]? = some v := by simpa using hv
      have hlt : i < vs.length := by omega
      have e : vs.drop i = v :: vs.drop (i + 1) := by
        rw [List.drop_eq_getElem_cons hlt]
        rw [List.getElem?_eq_getElem hlt] at hv'
        rw [Option.some.inj hv']
      rw [e] at hI
      refine wpAny_mono (turn v _ ys news I oI C oC D m₂ h tk E' hI hC hx F N off ne) (fun y s₂ hq => ?_) fun _ _ e => e
      obtain ⟨h', tk', nw, e, F', N', off', hS, hn⟩ := hq
      exact ⟨h', tk', nw, e, F', N', off', hS, ih (i + 1) _ _ (by omega) hn⟩
  intro news hI
  rw [List.size_toArray]
  exact key vs.length 0 [] news (by omega) hI
theorem comp_range {n : Nat} {a : Int} (Inv : Nat → List Value → List (Addr × Obj) → Prop)
    (turn : ∀ k t ys news I oI C oC D m₂ h tk (E' : Value → Shared → Prop), k < n → Inv k ys news → LCg.NsObj oC m₂ → m₂ x = some (.int (a + (k : Int)) t) → Fr h₀ L h m → News h₀ L h ((I, oI) :: (C, oC) :: (D, LCg.lst ys) :: news) → LCg.Off3 I C D news → ((@Ne Nat I C) ∧ (@Ne Nat I D) ∧ (@Ne Nat C D)) →
      wpAny (model prog w) A (eval elt (compEnvC scope cl C env)) (LCg.CompEnd h₀ L m { s with heap := h, toks := tk } I oI C oC D (LCg.lst ys) S (fun y news' => Inv (k + 1) (ys ++ [y]) news')) E' { s with heap := h, toks := tk })
    (fin : ∀ ys news, Inv n ys news → Fin ys news) :
    ∀ news, Inv 0 [] news → LCg.CompRest prog w A h₀ L m env elt x scope cl s S (fun i v => ∃ t, v = .int (a + (i : Int)) t) Fin n 0 [] news := by
  have key : ∀ (j i : Nat) (ys : List Value) (news : List (Addr × Obj)), i + j = n → Inv i ys news → LCg.CompRest prog w A h₀ L m env elt x scope cl s S (fun i v => ∃ t, v = .int (a + (i : Int)) t) Fin j i ys news := by
    intro j
    induction j with
    | zero =>
      intro i ys news hi hI
      exact LCg.CompRest.zero (fin ys news (by rw [show n = i by omega]; exact hI))
    | succ j ih =>
      intro i ys news hi hI
      refine LCg.CompRest.succ ?_
      intro v I oI C oC D m₂ h tk E' hv hC hx F N off ne
      obtain ⟨t, rfl⟩ := hv
      refine wpAny_mono (turn i t ys news I oI C oC D m₂ h tk E' (by omega) hI hC hx F N off ne) (fun y s₂ hq => ?_) fun _ _ e => e
      obtain ⟨h', tk', nw, e, F', N', off', hS, hn⟩ := hq
      exact ⟨h', tk', nw, e, F', N', off', hS, ih (i + 1) _ _ (by omega) hn⟩
  intro news hI
  exact key n 0 [] news (by omega) hI
theorem comp_listT {vs : List Value} (Inv : List Value → List Value → List (Addr × Obj) → Prop)
    (turn : ∀ v vr ys news I oI C oC D m₂ h tk (E' : Value → Shared → Prop), Inv (v :: vr) ys news → LCg.NsObj oC m₂ → m₂ x = some v → Fr h₀ L h m → News h₀ L h ((I, oI) :: (C, oC) :: (D, LCg.lst ys) :: news) → LCg.Off3 I C D news → ((@Ne Nat I C) ∧ (@Ne Nat I D) ∧ (@Ne Nat C D)) →
      wpAny (model prog w) A (isTrue ct (compEnvC scope cl C env) (eval ct (compEnvC scope cl C env))) (fun ok s' => if ok = true then
        wpAny (model prog w) A (eval elt (compEnvC scope cl C env)) (LCg.CompEnd h₀ L m { s with heap := h, toks := tk } I oI C oC D (LCg.lst ys) S (fun y news' => Inv vr (ys ++ [y]) news')) E' s'
        else LCg.CompEnd h₀ L m { s with heap := h, toks := tk } I oI C oC D (LCg.lst ys) S (fun _ news' => Inv vr ys news') Value.none s') E' { s with heap := h, toks := tk })
    (fin : ∀ ys news, Inv [] ys news → Fin ys news) :
    ∀ news, Inv vs [] news → LCt.CompRestT prog w A h₀ L m env ct elt x scope cl s S (fun i v => vs.toArray[i]? = some v) Fin vs.toArray.size 0 [] news := by
  have key : ∀ (j i : Nat) (ys : List Value) (news : List (Addr × Obj)), i + j = vs.length → Inv (vs.drop i) ys news → LCt.CompRestT prog w A h₀ L m env ct elt x scope cl s S (fun i v => vs.toArray[i]? = some v) Fin j i ys news := by
    intro j
    induction j with
    | zero =>
      intro i ys news hi hI
      rw [List.drop_eq_nil_of_le (by omega)] at hI
      exact LCt.CompRestT.zero (fin ys news hI)
    | succ j ih =>
      intro i ys news hi hI
      refine LCt.CompRestT.succ ?_
      intro v I oI C oC D m₂ h tk E' hv hC hx F N off ne
      have hv' : vs[i]? = some v := by simpa using hv
      have hlt : i < vs.length := by omega
      have e : vs.drop i = v :: vs.drop (i + 1) := by
        rw [List.drop_eq_getElem_cons hlt]
        rw [List.getElem?_eq_getElem hlt] at hv'
        rw [Option.some.inj hv']
      rw [e] at hI
      refine wpAny_mono (turn v _ ys news I oI C oC D m₂ h tk E' hI hC hx F N off ne) (fun ok s₂ hq => ?_) fun _ _ e => e
      split at hq
      · rename_i hok
        simp only [hok, if_true]
        refine wpAny_mono hq (fun y s₃ hq => ?_) fun _ _ e => e
        obtain ⟨h', tk', nw, e, F', N', off', hS, hn⟩ := hq
        exact ⟨h', tk', nw, e, F', N', off', hS, ih (i + 1) _ _ (by omega) hn⟩
      · rename_i hok
        simp only [hok]
        obtain ⟨h', tk', nw, e, F', N', off', hS, hn⟩ := hq
        exact ⟨h', tk', nw, e, F', N', off', hS, ih (i + 1) _ _ (by omega) hn⟩
  intro news hI
  rw [List.size_toArray]
  exact key vs.length 0 [] news (by omega) hI
end
end MineW
end

section
open PySem PySem.W PySem.Calls PyProof.Rows PyProof.Rows.LCg
namespace MineW
section
variable {prog : Program} {w : World} {A : Around} {E : Value → Shared → Prop} {s : Shared} {h₀ : Heap} {L : Addr} {m : Str → Option Value} {env : Env}
/-- a comprehension over an ascii text -/
def SrcS (prog : Program) (w : World) (A : Around) (h₀ : Heap) (L : Addr) (m : Str → Option Value) (env : Env) (elt : Expr) (x : Str) (scope : Scope) (cl : List (Str × Addr)) (Fin : Shared → List Value → List (Addr × Obj) → Prop) (xv : Value) (s₁ : Shared) : Prop :=
  ∃ (z : Str) (t : Tok) (news : List (Addr × Obj)), xv = .str z t ∧ A.handled = none ∧ Fr h₀ L s₁.heap m ∧ News h₀ L s₁.heap news ∧ z.cps.all (· < 128) = true ∧ z.cps.size ≤ sizeLine ∧
    ∀ s₂ : Shared, (∃ h, s₂ = { s₁ with heap := h }) → CompRest prog w A h₀ L m env elt x scope cl s₂ (fun _ => True) (SignAt z) (Fin s₂) z.cps.size 0 [] news
theorem ListComp_S {elt iter : Expr} {x : Str} {px : Pos} {scope : Scope} {cl : List (Str × Addr)} {pos : Pos} {Q : Value → Shared → Prop} (F₀ : Fr h₀ L s.heap m)
    (hclos : closureFor scope env = pure cl) (hcell : ∀ y ∈ scope.names, y.2 ≠ .cell) (hkind : scope.kind = .function)
    (hnames : ∀ y ∈ scope.names, y.2 = .local → scope.names.lookup y.1 = some .local) (hx : scope.names.lookup x = some .local)
    (h : wpAny (model prog w) A (eval iter env) (SrcS prog w A h₀ L m env elt x scope cl (fun s₂ => FinE h₀ L m s₂ Q)) E s)
    (hs : ∀ x, foldedSetIterable iter env x = pure x := by intro _; rfl) :
    wpAny (model prog w) A (eval (.ListComp elt [⟨.Name x px, iter, [], 0⟩] scope pos) env) Q E s := by
  rw [eval_ListComp]
  refine wpAny_comprehension_free (use := none) rfl hs hclos hkind hnames (wpAny_mono h (fun xv s₁ h₁ => ?_) fun _ _ e => e)
  obtain ⟨z, t, news, rfl, hh, F, N, ha, hsz, R⟩ := h₁
  refine wpAny_pyIter_ascii ha ?_
  refine block_U (Walks.strAscii hh s₁.heap.objs.size z t) hsz (fun i h st => by obtain ⟨o, e, _⟩ := st; exact ⟨o, e⟩) (fun i h h' o nw st e e' _ _ _ => by obtain ⟨o2, e2, r⟩ := st; rw [e] at e2; cases e2; exact ⟨o, e', r⟩) hcell hkind hx ⟨_, Heap.get?_push_size _ rfl, rfl, rfl⟩ (fun b hb => ?_)
    (F.keeps fun _ _ e => Heap.get?_push_of_some _ e) (N.grown fun _ _ e => Heap.get?_push_of_some _ e) (Nat.ne_of_lt F.ns.lt) (next_is_new F) (fun p hp => Nat.ne_of_lt (Heap.lt_size (N p hp).1)) trivial (R _ ⟨_, rfl⟩) ?_
  · rw [List.mem_singleton.mp hb]
    show s₁.heap.objs.size < (s₁.heap.push _).objs.size
    rw [Heap.size_push]; exact Nat.lt_succ_self _
  · intro D C h tk m' ys news' F' N' o1 hn hC₀ hD₀ hCL hDL hCD offC fin
    refine ⟨m', hn, fun h'' hs'' => fin D h'' tk (F'.change hs'' hCL hC₀) (fun p hp => ?_) o1⟩
    refine ⟨hs''.extBut _ _ ?_ (N' p hp).1, (N' p hp).2⟩
    rcases List.mem_cons.mp hp with rfl | hp
    · exact Ne.symm hCD
    · exact offC p hp
theorem comp_signs {elt : Expr} {x : Str} {scope : Scope} {cl : List (Str × Addr)} {S : List (Addr × Obj) → Prop} {Fin : List Value → List (Addr × Obj) → Prop} (z : Str) (Inv : Nat → List Value → List (Addr × Obj) → Prop)
    (turn : ∀ k c t ys news I oI C oC D m₂ h tk (E' : Value → Shared → Prop), z.cps[k]? = some c → Inv k ys news → LCg.NsObj oC m₂ → m₂ x = some (.str ⟨#[c]⟩ t) → Fr h₀ L h m → News h₀ L h ((I, oI) :: (C, oC) :: (D, LCg.lst ys) :: news) → LCg.Off3 I C D news → ((@Ne Nat I C) ∧ (@Ne Nat I D) ∧ (@Ne Nat C D)) →
      wpAny (model prog w) A (eval elt (compEnvC scope cl C env)) (LCg.CompEnd h₀ L m { s with heap := h, toks := tk } I oI C oC D (LCg.lst ys) S (fun y news' => Inv (k + 1) (ys ++ [y]) news')) E' { s with heap := h, toks := tk })
    (fin : ∀ ys news, Inv z.cps.size ys news → Fin ys news) :
    ∀ news, Inv 0 [] news → LCg.CompRest prog w A h₀ L m env elt x scope cl s S (SignAt z) Fin z.cps.size 0 [] news := by
  have key : ∀ (j i : Nat) (ys : List Value) (news : List (Addr × Obj)), i + j = z.cps.size → Inv i ys news → LCg.CompRest prog w A h₀ L m env elt x scope cl s S (SignAt z) Fin j i ys news := by
    intro j
    induction j with
    | zero =>
      intro i ys news hi hI
      exact LCg.CompRest.zero (fin ys news (by rw [show z.cps.size = i by omega]; exact hI))
    | succ j ih =>
      intro i ys news hi hI
      refine LCg.CompRest.succ ?_
      intro v I oI C oC D m₂ h tk E' hv hC hx F N off ne
      obtain ⟨c, t, hc, rfl⟩ := hv
      refine wpAny_mono (turn i c t ys news I oI C oC D m₂ h tk E' hc hI hC hx F N off ne) (fun y s₂ hq => ?_) fun _ _ e => e
      obtain ⟨h', tk', nw, e, F', N', off', hS, hn⟩ := hq
      exact ⟨h', tk', nw, e, F', N', off', hS, ih (i + 1) _ _ (by omega) hn⟩
  intro news hI
  exact key z.cps.size 0 [] news (by omega) hI
end
end MineW
end

section
open PySem PySem.W PyProof.Rows in
local macro_rules | `(tactic| k_ne) => `(tactic| (refine neN ?_; (try dsimp only); first | assumption | exact Ne.symm (by assumption) | (intro h; simp only [Nat.add_assoc, Nat.reduceAdd, Nat.add_left_cancel_iff, Nat.reduceEqDiff] at h; done) | omega))
open PySem PySem.W PyProof.Rows in
local macro_rules | `(tactic| k_all) => `(tactic| assumption)

section
open PySem PySem.W PyProof.Rows PyProof.V
namespace MineW
theorem join_flat : ∀ ls : List (List Nat), Txt.join (Str.ofString "") (ls.map fun l => (⟨l.toArray⟩ : Str)) = ⟨ls.flatten.toArray⟩ := by
  intro ls
  rw [show Txt.join (Str.ofString "") (ls.map fun l => (⟨l.toArray⟩ : Str)) = Str.join (Str.ofString "") (ls.map fun l => (⟨l.toArray⟩ : Str)) from StrLaws.glued_eq_join _ _]
  induction ls with
  | nil => rfl
  | cons a r ih =>
    cases r with
    | nil => simp [Str.join]
    | cons b r =>
      show (⟨a.toArray⟩ : Str) ++ Str.ofString "" ++ (Str.ofString "").join (List.map (fun l => (⟨l.toArray⟩ : Str)) (b :: r)) = _
      rw [ih]
      show (⟨(a.toArray ++ (Str.ofString "").cps) ++ ((b :: r).flatten.toArray)⟩ : Str) = _
      rw [show (Str.ofString "").cps = #[] from rfl]
      simp
theorem range_map {α : Type} (l : List Nat) (f : Nat → α) : (rangeKs 0 l.length).map (fun k => f (l.getD k.toNat 0)) = l.map f := by
  apply List.ext_getElem
  · simp [rangeKs]
  · intro i h1 h2
    simp [rangeKs] at h1 h2 ⊢
    rw [List.getElem?_eq_getElem h1]; rfl
def wStep (x y : Nat) (l : List Nat) : List Nat := l.flatMap fun c => if c = x then [x, y] else [x]
theorem wStep_flat (x y : Nat) (l : List Nat) : wStep x y l = (l.map fun c => if c = x then [x, y] else [x]).flatten := by
  simp [wStep, List.flatMap]
end MineW
end

section
theorem MineW.fresh7 : True := by
  w_top off
  trivial
open PySem PySem.W PyProof.Rows
namespace MineW
def basesT : List Int := [65, 97, 119808, 119860, 119912, 120016, 120172, 120224, 120276, 120328, 120380, 120432]
abbrev wordOf (x y : Nat) : List Nat := [x, y, x, x, y, x, y, x]
abbrev WdClaim (prog : Program) (w : World) (K : Frag) (p : Program) (loose : List Str) (mean : ExcName → Option Value) (mg mb : Str → Option Value) (f : Addr) (news : Ents) (seed : Int) (t : Tok) (word : List Nat) : Prop :=
  ∀ (dp un : Nat) (gd : Option (List Code)) (cn : Str) (cs : Scope) (a : Addr) (ccd : Value) (cl : List (Str × Addr)) (outer : List Env) (A₀ : Around) (base h₀ : Heap) (L : Addr) (m : Str → Option Value) (s : Shared) (Q E : Value → Shared → Prop),
    Below A₀ base outer h₀ → Fr h₀ L s.heap m → K.In h₀ → News h₀ L s.heap news → Top p loose mean mg mb h₀ → cs.kind = .function →
    dp + 4 < recursionLimit → un + 32 < cLine →
    (∀ (t : Tok) (h' : Heap) (tk' : Nat), Fr h₀ L h' m → News h₀ L h' news → Q (.str ⟨word.toArray⟩ t) { s with heap := h', toks := tk' }) →
      wpAny (model prog w) (ktrTop dp un gd cn cs L a ccd cl outer) (call (.ref f) [.int seed t]) Q E s
def wAt (x y : Nat) : Nat → List Nat
  | 0 => [x]
  | i + 1 => wStep x y (wAt x y i)
theorem wAt_xy {x y : Nat} : ∀ i, ∀ c ∈ wAt x y i, c = x ∨ c = y
  | 0, c, h => by simp [wAt] at h; exact .inl h
  | i + 1, c, h => by
    simp only [wAt, wStep, List.mem_flatMap] at h
    obtain ⟨d, _, h⟩ := h
    split at h <;> simp at h <;> omega
theorem wAt_4 {x y : Nat} (h : x ≠ y) : wAt x y 4 = wordOf x y := by
  have h' : ¬ y = x := fun e => h e.symm
  simp [wAt, wStep, wordOf, h']
theorem wAt_len {x y : Nat} (h : x ≠ y) : ∀ i, i ≤ 4 → (wAt x y i).length ≤ 8 := by
  have h' : ¬ y = x := fun e => h e.symm
  intro i hi
  match i, hi with
  | 0, _ => simp [wAt]
  | 1, _ => simp [wAt, wStep]
  | 2, _ => simp [wAt, wStep, h']
  | 3, _ => simp [wAt, wStep, h']
  | 4, _ => simp [wAt, wStep, h']
def nearC (x : Nat) (seed : Int) (i : Nat) (k : Int) : Nat := (basesT.getD ((seed.fdiv 31 + (0 + (i : Int)) + k).fmod 12).toNat 0 + (x : Int) - 97).toNat
theorem bases_mem (i : Int) : basesT.getD (i.fmod 12).toNat 0 ∈ basesT := by
  have h1 : 0 ≤ i.fmod 12 := Int.fmod_nonneg_of_pos _ (by decide)
  have h2 : i.fmod 12 < 12 := Int.fmod_lt_of_pos _ (by decide)
  have h3 : (i.fmod 12).toNat < 12 := by omega
  generalize (i.fmod 12).toNat = n at h3
  have : ∀ n : Fin 12, basesT.getD n.val 0 ∈ basesT := by decide
  exact this ⟨n, h3⟩
theorem bases_bnd : ∀ b ∈ basesT, 65 ≤ b ∧ b ≤ 120432 := by decide
theorem item_is (l : List Nat) (k : Int) (x y : Nat) (h0 : 0 ≤ k) (h1 : k < l.length) : (Txt.item ⟨l.toArray⟩ k == Txt.item ⟨#[x, y]⟩ 0) = decide (l.getD k.toNat 0 = x) := by
  have e1 : Txt.item ⟨#[x, y]⟩ 0 = ⟨#[x]⟩ := item_at _ 0 x (by rfl)
  have hk : k.toNat < l.length := by omega
  have e2 : Txt.item ⟨l.toArray⟩ ((k.toNat : Nat) : Int) = ⟨#[l.getD k.toNat 0]⟩ := item_at _ k.toNat (l.getD k.toNat 0) (by simp [hk])
  rw [Int.toNat_of_nonneg h0] at e2
  rw [e1, e2, one_beq _ _ _ rfl]
def tyC (x : Nat) (seed : Int) (i : Nat) (l : List Nat) (k : Int) : Nat := if l.getD k.toNat 0 = x then codeAt seed else nearC x seed i k
theorem ite_pick {c : Prop} [Decidable c] {v a b : Str} (h : c) (e : v = a) : (if c then a else b) = v := by rw [if_pos h, e]
set_option maxRecDepth 100000 in
set_option maxHeartbeats 8000000 in
theorem word_spec (w : World) (mean : ExcName → Option Value) (mg mb : Str → Option Value) (news : Ents) (seed : Int) (t : Tok) (x y : Nat) (D : List (Int × PyData)) (hD : KTD.keyedLook (fun b => (Mine.hd.heap_1 w.params).lookup b) 22 D = true)
   (hxy : x ≠ y) (hx1 : 97 ≤ x) (hx2 : x ≤ 122) (htx : textAt seed = ⟨#[x, y]⟩) (hsign : b3 D (codeAt seed) = ⟨#[x, y]⟩ ∧ b3ok D (codeAt seed))
   (hlet : ∀ b ∈ basesT, b3 D (b + x - 97).toNat = ⟨#[x]⟩ ∧ b3ok D (b + x - 97).toNat) :
   WdClaim PySem.Challenge.rw_st0044_01.row.prog w (Mine.hd.heap_1 w.params) Mine.qv LO mean mg mb 159 news seed t (wordOf x y) := by
  k_fill
  dsimp only [WdClaim]
  intro dp un gd cn cs a' ccd cl outer A₀ base h₀ L m s Q E q1 q2 q3 q4 q5 q6 q8 q9 hret
  refine wpAny_call ?_
  k_dflt (refine' code_defC ?k1 ?k2 ?k3 ?k4 ?k5 ?kA ?kF ?kK ?k6 ?k7 ?k8 ?k9 ?kB ?kD ?_ ?c2 ?c3 ?c4; (case kA => exact rfl); (case kF => exact rfl); (case kK => assumption); (case k1 => k_asm); (case k2 => k_asm); (case k3 => k_asm); (case k4 => k_asm); (case k5 => k_asm); (case k6 => k_is); (case k7 => k_is); (case k8 => ktr_room); (case k9 => exact BindsTo.of_eq rfl); (case kB => exact rfl); (case kD => decide +kernel); (case c2 => exact rfl); (case c3 => exact rfl); (case c4 => exact rfl); k_whole; intro g' L' h' tk' cells' FG' F' N' Y' B' X' T' l1; (try k_lt l1); k_cells Y'; (try simp only [List.cons_append, List.nil_append] at N'); (try dsimp only); (try k_lift B'); (try k_fold))
  have hlt : ∀ k : Nat, ∀ p ∈ news, p.1 ≠ L' + k := fun k p hp => Nat.ne_of_lt (Nat.lt_of_lt_of_le (l1 p hp) (Nat.le_add_right _ _))
  have hn1 := hlt 1
  have hn2 := hlt 2
  have hn3 := hlt 3
  have hn4 := hlt 4
  have hn5 := hlt 5
  have hn6 := hlt 6
  have hn7 := hlt 7
  (iterate 40 (walk_at "W"))
  k_here
  rename Fr _ _ _ _ => lF
  rename News _ _ _ _ => lN
  with_unfolding_all refine' pair_spec w _ _ _ _ seed _ _ _ _ _ _ _ _ _ _ _ _ _ _ _ _ _ _ (by k_asm) lF (by k_asm) lN (by k_asm) rfl (by ktr_room) (by ktr_units) ?_
  clear lF lN
  intro TT tt1 tt2 hh2 tk2 hTT lF lN
  rw [htx] at lN
  dsimp only [AllLt] at hTT
  (iterate 17 (walk_at "W"))
  k_here
  rename Fr _ _ _ _ => lF
  rename News _ _ _ _ => lN
  rename_i o1' o2' o3' o4' o5' o6' oSd d1' d2' d3' d4' d5' d6' dSd lB x1 l1' x2 oB dB xt x3 x4 oS dS x5 oT dT x6 x7 oW dW
  with_unfolding_all refine' for_range_any (h₀ := g') (a₀ := 0) (b₀ := 4) (n := 4) (fun i m nw => ∃ (o7 o6 o5 : Obj) (v7 v6 : Option Value) (tw : Tok), o7.data = .cell v7 ∧ o6.data = .cell v6 ∧ o5.data = .cell (some (.str ⟨(wAt x y i).toArray⟩ tw)) ∧
      nw = (L' + 1 + 1 + 1 + 1 + 1 + 1 + 1, o7) :: (L' + 1 + 1 + 1 + 1 + 1 + 1, o6) :: (L' + 1 + 1 + 1 + 1 + 1, o5) :: (L' + 1 + 1 + 1 + 1, oT) :: (L' + 1 + 1 + 1, oS) :: (L' + 1 + 1, oB) :: (L' + 1, oSd) :: (lB, listOf [Value.int 65 tk', Value.int 97 (tk' + 1), Value.int 119808 (tk' + 1 + 1), Value.int 119860 (tk' + 1 + 1 + 1), Value.int 119912 (tk' + 1 + 1 + 1 + 1), Value.int 120016 (tk' + 1 + 1 + 1 + 1 + 1), Value.int 120172 (tk' + 1 + 1 + 1 + 1 + 1 + 1), Value.int 120224 (tk' + 1 + 1 + 1 + 1 + 1 + 1 + 1), Value.int 120276 (tk' + 1 + 1 + 1 + 1 + 1 + 1 + 1 + 1), Value.int 120328 (tk' + 1 + 1 + 1 + 1 + 1 + 1 + 1 + 1 + 1), Value.int 120380 (tk' + 1 + 1 + 1 + 1 + 1 + 1 + 1 + 1 + 1 + 1), Value.int 120432 (tk' + 1 + 1 + 1 + 1 + 1 + 1 + 1 + 1 + 1 + 1 + 1)].toArray 0) :: news) (by rfl) (by intro _ _; rfl) ?_
  (iterate 7 (walk_at "W"))
  k_here
  rename_i lR lF lN aX
  have lN3 := cb_drop (news := ((L' + 1 + 1 + 1 + 1 + 1 + 1 + 1, o1') :: (L' + 1 + 1 + 1 + 1 + 1 + 1, o2') :: (L' + 1 + 1 + 1 + 1 + 1, oW) :: (L' + 1 + 1 + 1 + 1, oT) :: (L' + 1 + 1 + 1, oS) :: (L' + 1 + 1, oB) :: (L' + 1, oSd) :: (lB, listOf [Value.int 65 tk', Value.int 97 (tk' + 1), Value.int 119808 (tk' + 1 + 1), Value.int 119860 (tk' + 1 + 1 + 1), Value.int 119912 (tk' + 1 + 1 + 1 + 1), Value.int 120016 (tk' + 1 + 1 + 1 + 1 + 1), Value.int 120172 (tk' + 1 + 1 + 1 + 1 + 1 + 1), Value.int 120224 (tk' + 1 + 1 + 1 + 1 + 1 + 1 + 1), Value.int 120276 (tk' + 1 + 1 + 1 + 1 + 1 + 1 + 1 + 1), Value.int 120328 (tk' + 1 + 1 + 1 + 1 + 1 + 1 + 1 + 1 + 1), Value.int 120380 (tk' + 1 + 1 + 1 + 1 + 1 + 1 + 1 + 1 + 1 + 1), Value.int 120432 (tk' + 1 + 1 + 1 + 1 + 1 + 1 + 1 + 1 + 1 + 1 + 1)].toArray 0) :: news)) lN (by k_memK)
  rw [show Txt.item ⟨#[x, y]⟩ 0 = ⟨#[x]⟩ from item_at _ 0 x (by rfl)] at dW
  obtain ⟨tw0, dW⟩ : ∃ tw, oW.data = .cell (some (.str ⟨(wAt x y 0).toArray⟩ tw)) := ⟨_, dW⟩
  refine ⟨_, _, _, _, _, _, rfl, lR, by decide, by decide, lF, lN3, ⟨o1', o2', oW, _, _, tw0, d1', d2', dW, rfl⟩, ?_, ?_⟩
  · clear lF lN lN3
    rintro I hI i m1 nw t1 h tk hi hoff ⟨o7, o6, o5, v7, v6, tw, e7, e6, e5, rfl⟩ lF lN
    have i7 : @Ne Nat (L' + 1 + 1 + 1 + 1 + 1 + 1 + 1) I := hoff _ (.head _)
    have i6 : @Ne Nat (L' + 1 + 1 + 1 + 1 + 1 + 1) I := hoff _ (.tail _ (.head _))
    have i5 : @Ne Nat (L' + 1 + 1 + 1 + 1 + 1) I := hoff _ (.tail _ (.tail _ (.head _)))
    (iterate 5 (walk_at "W"))
    k_here
    rename Obj.data _ = Data.cell (some (Value.int (0 + (i : Int)) t1)) => d6n
    k_dflt (refine LCg.ListComp_U (F₀ := by k_asm) (by with_unfolding_all rfl) (by decide) (by rfl) (by decide) (by rfl) ?_)
    (iterate 10 (walk_at "W"))
    k_here
    have hwl : (wAt x y i).length ≤ 8 := wAt_len hxy i (by omega)
    have hwl2 : (⟨(wAt x y i).toArray⟩ : Str).length = (wAt x y i).length := by simp [Str.length]
    refine P.len_str (by rw [hwl2]; omega) ?_
    rw [hwl2]
    (iterate 2 (walk_at "W"))
    k_here
    clear lF lN
    rename_i lR lF lN aX
    refine LCg.CompSrc.range (n := (wAt x y i).length) (by rfl) lF lN lR ?sm1 ?rn1 ?sz1 ?_
    case sm1 => exact small_one (by omega) (by omega) (by omega) (by omega)
    case rn1 => simp only [Builtin.Range.rangeSize]; split <;> omega
    case sz1 => unfold sizeLine; omega
    intro gg1
    refine' kct_range (fun k => ⟨#[nearC x seed i k]⟩) (fun k t2 I' oI C oC D2 m2 ys h2 tk2 E' hk1 hk2 hC hx' lF lN off ne mk => ?_) ?_
    · (iterate 37 (walk_at "W"))
      k_here
      rw [show Txt.item ⟨#[x, y]⟩ 0 = ⟨#[x]⟩ from item_at _ 0 x (by rfl)]
      have hB := bases_bnd _ (bases_mem (seed.fdiv 31 + (0 + (i : Int)) + k))
      refine chr_of_range ?b1 ?b2 ?_
      case b1 => (show 0 ≤ basesT.getD ((seed.fdiv 31 + (0 + (i : Int)) + k).fmod 12).toNat 0 + (x : Int) - 97); omega
      case b2 => (show basesT.getD ((seed.fdiv 31 + (0 + (i : Int)) + k).fmod 12).toNat 0 + (x : Int) - 97 ≤ 1114111); omega
      exact ⟨_, _, _, rfl, lF, lN, off, trivial, rfl, _, rfl⟩
    · (iterate 19 (walk_at "W"))
      k_here
      rename_i ca1 ca2 Dn hn tkn offD hs2 oN x2 x3 dN x5 x6 x7 x8 x9 lR lF lN aX2
      clear x2 x3
      refine LCg.CompSrc.range (n := (wAt x y i).length) (by rfl) lF lN lR ?sm2 ?rn2 ?sz2 ?_
      case sm2 => rw [hwl2]; exact small_one (by omega) (by omega) (by omega) (by omega)
      case rn2 => rw [hwl2]; simp only [Builtin.Range.rangeSize]; split <;> omega
      case sz2 => unfold sizeLine; omega
      intro gg2
      clear lF lN
      refine' kct_range (fun k => ⟨#[tyC x seed i (wAt x y i) k]⟩) (fun k t3 I2 oI2 C2 oC2 D3 m3 ys3 h3 tk3 E3 hk1 hk2 hC2 hx2 lF lN off2 ne2 mk2 => ?_) ?_
      · (iterate 13 (walk_at "W"))
        · k_here
          rename_i hbq
          rw [item_is _ _ _ _ hk1 (by omega)] at hbq
          walk_at "W"
          k_here
          have eP := of_decide_eq_true hbq
          exact ⟨_, _, _, rfl, lF, lN, off2, trivial, rfl, _, by rw [tyC, if_pos eP]⟩
        · k_here
          rename_i hbq
          rw [item_is _ _ _ _ hk1 (by omega)] at hbq
          (iterate 3 (walk_at "W"))
          k_here
          have hys := ca1.strsOf
          have eP := of_decide_eq_false hbq
          refine item_strsA (l := ys) (hl := ⟨_, (lN (Dn, LCg.lst ys) (by k_mem)).1, rfl, _, rfl⟩) (hi := hys) hk1 (by simp [rangeKs]; omega) (by omega) ?_ (by with_unfolding_all rfl) (by intro _; with_unfolding_all rfl)
          intro tq
          have hk3 : k.toNat < (wAt x y i).length := by omega
          have eQ : ((rangeKs 0 (wAt x y i).length).map (fun k => (⟨#[nearC x seed i k]⟩ : Str))).getD k.toNat Str.empty = ⟨#[nearC x seed i k]⟩ := by
            simp [rangeKs, List.getD_eq_getElem?_getD, hk3]
            rw [show max k 0 = k by omega]
          exact ⟨_, _, _, rfl, lF, lN, off2, trivial, rfl, tq, by rw [tyC, if_neg eP, eQ]⟩
      · unfold KPfDone
        intro ys4 cas clen D4 h4 tk4 lF lN off4
        (iterate 7 (walk_at "W"))
        k_here
        k_dflt (refine LCg.ListComp_U (F₀ := by k_asm) (by with_unfolding_all rfl) (by decide) (by rfl) (by decide) (by rfl) ?_)
        walk_at "W"
        k_here
        have hs4 := cas.strsOf
        have hl4 : ys4.length = (wAt x y i).length := by rw [hs4.length, List.length_map, clen]
        refine LCg.CompSrc.ledger (ax := D4) (its := ys4.toArray) (by rfl) lF lN (by k_mem) (by rw [List.size_toArray]; unfold sizeLine; omega) ?_
        intro gg3
        refine comp_list (fun vr yr nw => ∃ l1 l2 : List Int, rangeKs 0 (wAt x y i).length = l1 ++ l2 ∧
            StrsAre vr (l2.map fun k => ⟨#[tyC x seed i (wAt x y i) k]⟩) ∧
            CarriedAll yr (l1.map fun k => PyData.str ⟨(if (wAt x y i).getD k.toNat 0 = x then [x, y] else [x]).toArray⟩) ∧ nw = _) ?turn ?fin _ ⟨[], _, rfl, hs4, .nil, rfl⟩
        case turn =>
          clear lF lN
          rintro v vr yr nw I5 oI5 C5 oC5 D5 m5 h5 tk5 E5 ⟨l1, l2, hl12, hvr, hyr, rfl⟩ hC5 hx5 lF lN off5 ne5
          cases l2 with
          | nil => cases hvr
          | cons k l2 =>
          rw [List.map_cons] at hvr
          cases hvr with
          | cons _ tv hvr =>
          have hT : b3 D (tyC x seed i (wAt x y i) k) = ⟨(if (wAt x y i).getD k.toNat 0 = x then [x, y] else [x]).toArray⟩ ∧ b3ok D (tyC x seed i (wAt x y i) k) := by
            unfold tyC
            split
            · exact hsign
            · exact hlet _ (bases_mem _)
          (iterate 8 (walk_at "W"))
          k_here
          with_unfolding_all refine' b3_spec w _ _ _ _ D hD _ tv hT.2 _ _ _ _ _ _ _ _ _ _ _ _ _ _ _ _ _ (by k_asm) lF (by k_asm) lN (by k_asm) rfl trivial (by ktr_room) (by ktr_units) ?_
          clear lF lN
          intro t2 h2 tk2 lF lN
          dsimp only
          rw [hT.1]
          exact ⟨_, _, _, rfl, lF, lN, off5, .inr ⟨_, by k_mem, rfl, _, rfl⟩, l1 ++ [k], l2, by simp [hl12], hvr, by simpa using hyr.snoc (.str _ t2), rfl⟩
        case fin =>
          clear lF lN
          rintro yr nw ⟨l1, l2, hl12, hvr, hyr, rfl⟩
          cases l2 with
          | cons k l2 => cases hvr
          | nil =>
          rw [List.append_nil] at hl12
          subst hl12
          have eJ : Txt.join (Str.ofString "") ((rangeKs 0 (wAt x y i).length).map fun k => (⟨(if (wAt x y i).getD k.toNat 0 = x then [x, y] else [x]).toArray⟩ : Str)) = ⟨(wAt x y (i + 1)).toArray⟩ := by
            rw [show wAt x y (i + 1) = wStep x y (wAt x y i) from rfl, wStep_flat, ← join_flat, List.map_map, range_map (wAt x y i) (fun c => (⟨(if c = x then [x, y] else [x]).toArray⟩ : Str))]
            rfl
          (iterate 2 (walk_at "W"))
          k_here
          rename Fr _ _ _ _ => lF
          rename News _ _ _ _ => lN
          refine PySem.W.KT.join_B (l := rangeKs 0 (wAt x y i).length) (ys := yr) 2 ⟨_, (lN _ (.head _)).1, rfl, _, rfl⟩ hyr (by intro k _; show (⟨_⟩ : Str).length ≤ 2; split <;> simp [Str.length]) (by rw [clen]; omega) (by decide) ?_
          rw [eJ]
          intro t9 tk9
          simp only [LCg.Off1] at off4
          have q45 := off4.2.2.2.2.1
          have qn5 := offD.2.2.2.1
          (iterate 3 (walk_at "W"))
          k_here
          rename Fr _ _ _ _ => lF
          rename News _ _ _ _ => lN
          rename Obj.data _ = Data.cell (some (Value.str ⟨(wAt x y (i + 1)).toArray⟩ t9)) => dW9
          refine UnrEnd.intro lF lN _ ?subx ?offx ⟨_, _, _, _, _, t9, dN, d6n, dW9, rfl⟩
          case subx =>
            k_memK
          case offx =>
            intro q hq
            rcases List.mem_cons.mp hq with rfl | hq
            · exact i7
            · rcases List.mem_cons.mp hq with rfl | hq
              · exact i6
              · rcases List.mem_cons.mp hq with rfl | hq
                · exact i5
                · exact hoff q (.tail _ (.tail _ (.tail _ hq)))
  · clear lF lN lN3
    rintro m1 nw h tk ⟨o7, o6, o5, v7, v6, tw, e7, e6, e5, rfl⟩ lF lN
    (iterate 4 (walk_at "W"))
    rw [wAt_4 hxy]
    rename Fr _ _ _ _ => lF
    rename News _ _ _ _ => lN
    exact hret _ _ _ lF (cb_drop lN fun q hq => .tail _ (.tail _ (.tail _ (.tail _ (.tail _ (.tail _ (.tail _ (.tail _ hq))))))))
end MineW
end

section
theorem MineW.fresh8 : True := by
  w_top off
  trivial
open PySem PySem.W PyProof.Rows
namespace MineW
/-- the tuples of _law_told: one object for each pair of blanks left -/
def ToldIs (a b : Nat) : List (Nat × Nat) → Ents → Prop
  | [], [] => True
  | p :: ps, e :: es => (∃ t1 t2, e.2 = tupOf [.int (p.1 : Nat) t1, .int (p.2 : Nat) t2, .bool (decide (p.1 < a)), .bool (decide (p.2 < b))]) ∧ ToldIs a b ps es
  | _, _ => False
theorem ToldIs.snoc {a b : Nat} {p : Nat × Nat} {e : Addr × Obj} : ∀ {ps : List (Nat × Nat)} {es : Ents}, ToldIs a b ps es →
    (∃ t1 t2, e.2 = tupOf [.int (p.1 : Nat) t1, .int (p.2 : Nat) t2, .bool (decide (p.1 < a)), .bool (decide (p.2 < b))]) → ToldIs a b (ps ++ [p]) (es ++ [e])
  | [], [], _, h => ⟨h, trivial⟩
  | _ :: _, _ :: _, ⟨h1, h2⟩, h => ⟨h1, ToldIs.snoc h2 h⟩
  | [], _ :: _, h, _ => h.elim
  | _ :: _, [], h, _ => h.elim
theorem ToldIs.length {a b : Nat} : ∀ {ps : List (Nat × Nat)} {es : Ents}, ToldIs a b ps es → es.length = ps.length
  | [], [], _ => rfl
  | _ :: _, _ :: _, ⟨_, h⟩ => by simp [ToldIs.length h]
  | [], _ :: _, h => h.elim
  | _ :: _, [], h => h.elim
abbrev refsOf (es : Ents) : List Value := es.map fun p => Value.ref p.1
abbrev TdClaim (prog : Program) (w : World) (K : Frag) (p : Program) (loose : List Str) (mean : ExcName → Option Value) (mg mb : Str → Option Value) (f : Addr) (news : Ents) (core : List Nat) (a b : Nat) (t ta tb : Tok) : Prop :=
  ∀ (dp un : Nat) (gd : Option (List Code)) (cn : Str) (cs : Scope) (a' : Addr) (ccd : Value) (cl : List (Str × Addr)) (outer : List Env) (A₀ : Around) (base h₀ : Heap) (L : Addr) (m : Str → Option Value) (s : Shared) (Q E : Value → Shared → Prop),
    Below A₀ base outer h₀ → Fr h₀ L s.heap m → K.In h₀ → News h₀ L s.heap news → Top p loose mean mg mb h₀ → cs.kind = .function →
    dp + 4 < recursionLimit → un + 32 < cLine →
    (∀ (D : Addr) (es : Ents) (n : Nat) (h' : Heap) (tk' : Nat), ToldIs a b (movesOf a b) es → Fr h₀ L h' m → News h₀ L h' ((D, listOf (refsOf es).toArray n) :: es ++ news) → Q (.ref D) { s with heap := h', toks := tk' }) →
      wpAny (model prog w) (ktrTop dp un gd cn cs L a' ccd cl outer) (call (.ref f) [.str (line a core b) t, .int a ta, .int b tb]) Q E s
theorem moves_le {a b : Nat} : ∀ p ∈ movesOf a b, p.1 ≤ a ∧ p.2 ≤ b := by
  intro p hp
  simp only [movesOf, List.mem_append, List.mem_map, List.mem_range] at hp
  rcases hp with (⟨j, hj, rfl⟩ | ⟨j, hj, rfl⟩) | ⟨j, hj, rfl⟩ <;> constructor <;> dsimp only <;> omega
theorem map3 {m : Str → Option Value} {x y z : Str} {v : Option Value} {m0 : Str → Option Value} (h : ∀ u, u ≠ x → u ≠ y → u ≠ z → m u = m0 u) :
    (fun u => if u = x then v else m u) = fun u => if u = x then v else if u = y then m y else if u = z then m z else m0 u := by
  funext u
  by_cases h1 : u = x
  · simp [h1]
  · by_cases h2 : u = y
    · subst h2; simp [h1]
    · by_cases h3 : u = z
      · subst h3; simp [h1, h2]
      · simp [h1, h2, h3, h u h1 h2 h3]
local macro_rules | `(tactic| walk_at "subscriptTail Name Slice str ref") => `(tactic| (k_here; with_unfolding_all refine' slice_rev_r (s := ⟨_, _, _, _, _⟩) ?g5 ?gF ?gN ?_; (case gF => k_asm); (case gN => k_asm); (case g5 => ((try simp only [List.length_reverse]); omega)); intro _ _ _ kF kN))
local macro_rules | `(tactic| walk_at "call ref") => `(tactic| (k_here; k_dflt (refine wpAny_call ?_; refine' code_def ?k1 ?k2 ?k3 ?k4 ?k5 ?kA ?kF ?kK ?k6 ?k7 ?k8 ?k9 ?kB ?_ ?c2 ?c3 ?c4 ?c5; (case kA => exact rfl); (case kF => exact rfl); (case kK => exact rfl); (case k1 => k_asm); (case k2 => k_asm); (case k3 => k_asm); (case k4 => k_asm); (case k5 => k_asm); (case k6 => k_is); (case k7 => k_is); (case k8 => ktr_room); (case k9 => exact BindsTo.of_eq rfl); (case c5 => decide); (case kB => exact locs rfl); (case c2 => exact rfl); (case c3 => exact rfl); (case c4 => exact rfl); k_whole; intro g' L' h' FG' F' N' B' X' T'; (try dsimp only); (try k_lift B'); (try k_fold))))
set_option maxRecDepth 100000 in
set_option maxHeartbeats 8000000 in
theorem less_spec (w : World) (mean : ExcName → Option Value) (mg mb : Str → Option Value) (rest : Ents) (x d y d2 E1 E2 : Addr) (u v : Str) (n1 n2 : Nat) (k1 k2 k3 k4 k5 t1 t2 t3 j1 j2 j3 j4 j5 r1 r2 r3 : Tok) :
   CbClaim PySem.Challenge.rw_st0044_01.row.prog w (Mine.hd.heap_1 w.params) Mine.qv LO mean mg mb 133
     ((x, instObj 143 d) :: (d, wsDict w u n1 E1 k1 k2 k3 k4 k5 t1 t2 t3) :: (y, instObj 143 d2) :: (d2, wsDict w v n2 E2 j1 j2 j3 j4 j5 r1 r2 r3) :: rest) [] True [.ref x, .ref y]
     (fun _ => .bool (decide (n1 < n2))) := by
  k_fill
  dsimp only [CbClaim, CbLists, CbRet]
  intro dp un gd cn cs a' ccd cl outer A₀ base h₀ L m s Q E q1 q2 q3 q4 q5 q6 q7 q8 q9 hret
  refine wpAny_call ?_
  k_dflt cell_enter
  (iterate 13 (walk_at "W"))
  · rename_i hge
    have e : decide (n1 < n2) = false := decide_eq_false (by omega)
    rw [e] at hret
    (iterate 4 (walk_at "W"))
    exact hret 0 _ _ (by assumption) (by assumption)
  · rename_i hge
    have e : decide (n1 < n2) = true := decide_eq_true (by omega)
    rw [e] at hret
    (iterate 31 (walk_at "W"))
    exact hret 0 _ _ (by assumption) (by assumption)
set_option maxRecDepth 100000 in
set_option maxHeartbeats 8000000 in
theorem longest_spec (w : World) (mean : ExcName → Option Value) (mg mb : Str → Option Value) (rest : Ents) (x d E1 D1 : Addr) (u : Str) (n1 : Nat) (k1 k2 k3 k4 k5 t1 t2 t3 t4 : Tok) :
   CbClaim PySem.Challenge.rw_st0044_01.row.prog w (Mine.hd.heap_1 w.params) Mine.qv LO mean mg mb 105
     ((E1, tupOf [.ref D1, .int n1 t4]) :: (D1, tupOf []) :: (x, instObj 143 d) :: (d, wsDict w u n1 E1 k1 k2 k3 k4 k5 t1 t2 t3) :: rest) [] True [.ref x]
     (fun t => .int n1 t) := by
  k_fill
  dsimp only [CbClaim, CbLists, CbRet]
  intro dp un gd cn cs a' ccd cl outer A₀ base h₀ L m s Q E q1 q2 q3 q4 q5 q6 q7 q8 q9 hret
  refine wpAny_call ?_
  k_dflt cell_enter
  (iterate 36 (walk_at "W"))
  refine cb_retI hret ?_ (by assumption) (by assumption)
  first | omega | (split <;> omega) | (dsimp only; split <;> omega) | (simp; omega)
end MineW
end

section
theorem MineW.fresh9 : True := by
  w_top off
  trivial
open PySem PySem.W PyProof.Rows
namespace MineW
theorem news_dup4 {h₀ h : Heap} {L : Addr} {e1 e2 e3 e4 : Addr × Obj} {full : Ents} (N : News h₀ L h full) (m1 : e1 ∈ full) (m2 : e2 ∈ full) (m3 : e3 ∈ full) (m4 : e4 ∈ full) : News h₀ L h (e1 :: e2 :: e3 :: e4 :: full) := by
  intro p hp
  rcases List.mem_cons.mp hp with rfl | hp
  · exact N _ m1
  · rcases List.mem_cons.mp hp with rfl | hp
    · exact N _ m2
    · rcases List.mem_cons.mp hp with rfl | hp
      · exact N _ m3
      · rcases List.mem_cons.mp hp with rfl | hp
        · exact N _ m4
        · exact N p hp
theorem news_back4 {h₀ h : Heap} {L : Addr} {e1 e2 e3 e4 : Addr × Obj} {full : Ents} (N : News h₀ L h (e1 :: e2 :: e3 :: e4 :: full)) : News h₀ L h full := fun p hp => N p (.tail _ (.tail _ (.tail _ (.tail _ hp))))
theorem news_cons {h₀ h : Heap} {L : Addr} {e : Addr × Obj} {full rest : Ents} (N : News h₀ L h full) (m : e ∈ full) (R : News h₀ L h rest) : News h₀ L h (e :: rest) := by
  intro p hp
  rcases List.mem_cons.mp hp with rfl | hp
  · exact N _ m
  · exact R p hp
theorem told_cls {a b : Nat} : ∀ {ps : List (Nat × Nat)} {es : Ents}, ToldIs a b ps es → ∀ q ∈ es, q.2.cls = .type "tuple"
  | _ :: _, e :: es, ⟨⟨t1, t2, h⟩, r⟩, q, hq => by
    rcases List.mem_cons.mp hq with rfl | hq
    · rw [h]
    · exact told_cls r q hq
  | [], [], _, _, hq => nomatch hq
  | [], _ :: _, h, _, _ => h.elim
  | _ :: _, [], h, _, _ => h.elim
local macro_rules | `(tactic| walk_at "subscriptTail Name Slice str ref") => `(tactic| (k_here; with_unfolding_all refine' slice_rev_r (s := ⟨_, _, _, _, _⟩) ?g5 ?gF ?gN ?_; (case gF => k_asm); (case gN => k_asm); (case g5 => ((try simp only [List.length_reverse]); omega)); intro _ _ _ kF kN))
set_option maxRecDepth 100000 in
set_option maxHeartbeats 8000000 in
theorem told_spec (w : World) (mean : ExcName → Option Value) (mg mb : Str → Option Value) (news : Ents) (core : List Nat) (a b : Nat) (t ta tb : Tok)
   (hc : core ≠ []) (h0 : core.head? ≠ some 32) (h1 : core.getLast? ≠ some 32) (h09 : core.head? ≠ some 9) (h19 : core.getLast? ≠ some 9) (ha : a ≤ 20) (hb : b ≤ 20) (hl : core.length ≤ 20) :
   TdClaim PySem.Challenge.rw_st0044_01.row.prog w (Mine.hd.heap_1 w.params) Mine.qv LO mean mg mb 178 news core a b t ta tb := by
  k_fill
  dsimp only [TdClaim]
  intro dp un gd cn cs a' ccd cl outer A₀ base h₀ L m s Q E q1 q2 q3 q4 q5 q6 q8 q9 hret
  refine wpAny_call ?_
  k_dflt cell_enter
  rename_i g1 L1 hh1 FG F0 N0 B1 X1 T1
  (iterate 10 (walk_at "W"))
  k_here
  rename Fr _ _ _ _ => lF
  rename News _ _ _ _ => lN
  with_unfolding_all refine' ws_spec w _ _ _ _ core a b t hc h0 h09 ?_ ?_ ?_ _ _ _ _ _ _ _ _ _ _ _ _ _ _ _ _ _ (by k_asm) lF (by k_asm) lN (by k_asm) rfl (by ktr_room) (by ktr_units) ?_
  any_goals omega
  clear lF lN
  intro x1 d1 E1 D1 k1 k2 k3 k4 k5 t1 t2 t3 t4 h1' tk1 lF lN
  (iterate 20 (walk_at "W"))
  k_here
  rename Fr _ _ _ _ => lF
  rename News _ _ _ _ => lN
  with_unfolding_all refine' ws_spec w _ _ _ _ core.reverse b a _ (rev_ne hc) (rev_head h1) (by simpa using h19) ?_ ?_ ?_ _ _ _ _ _ _ _ _ _ _ _ _ _ _ _ _ _ (by k_asm) lF (by k_asm) lN (by k_asm) rfl (by ktr_room) (by ktr_units) ?_
  any_goals ((try simp only [List.length_reverse]); omega)
  clear lF lN
  intro x2 d2 E2 D2 j1 j2 j3 j4 j5 r1 r2 r3 r4 h2' tk2 lF lN
  (iterate 22 (walk_at "W"))
  k_here
  rename_i T0 e1 l1 e2 lF lN
  with_unfolding_all refine' moves_spec w _ _ _ _ core a b t ta tb hc h0 h1 ?_ ?_ ?_ _ _ _ _ _ _ _ _ _ _ _ _ _ _ _ _ _ (by k_asm) lF (by k_asm) lN (by k_asm) rfl ?_ ?_ ?_
  any_goals (first | omega | (dsimp only [ktrTop, Around.deeper]; omega))
  clear lF lN
  intro Dm vs nm h3' tk3 hS hDm lF lN
  k_here
  have hvl : vs.length ≤ 1000 := by
    rw [hS.length, List.length_map]
    simp only [movesOf, List.length_append, List.length_map, List.length_range]; omega
  have lN2 : News g1 L1 h3' ((T0, listOf (refsOf []).toArray 0) :: (E2, tupOf [Value.ref D2, Value.int b r4]) :: (D2, tupOf []) :: (x2, instObj 143 d2) :: (d2, wsDict w (line b core.reverse a) b E2 j1 j2 j3 j4 j5 r1 r2 r3) ::
        (E1, tupOf [Value.ref D1, Value.int a t4]) :: (D1, tupOf []) :: (x1, instObj 143 d1) :: (d1, wsDict w (line a core b) a E1 k1 k2 k3 k4 k5 t1 t2 t3) :: ([] ++ (Dm, listOf vs.toArray nm) :: news)) := by
    refine cb_drop lN ?_
    k_memK
  with_unfolding_all refine' iter_listUnr (lo := listOf vs.toArray nm) (by rfl) lF lN2 (by simp) rfl rfl (fun I hI => ?_)
  refine' list_ind (fun vr m nw => ∃ (ps pr : List (Nat × Nat)) (es : Ents) (n : Nat), movesOf a b = ps ++ pr ∧ StrsAre vr (pr.map fun p => line p.1 core p.2) ∧ ToldIs a b ps es ∧
      nw = (T0, listOf (refsOf es).toArray n) :: (E2, tupOf [Value.ref D2, Value.int b r4]) :: (D2, tupOf []) :: (x2, instObj 143 d2) :: (d2, wsDict w (line b core.reverse a) b E2 j1 j2 j3 j4 j5 r1 r2 r3) ::
        (E1, tupOf [Value.ref D1, Value.int a t4]) :: (D1, tupOf []) :: (x1, instObj 143 d1) :: (d1, wsDict w (line a core b) a E1 k1 k2 k3 k4 k5 t1 t2 t3) :: (es ++ (Dm, listOf vs.toArray nm) :: news) ∧
      ∃ mr : Str → Option Value, ∀ z, z ≠ Str.ofString "left" → z ≠ Str.ofString "front" → z ≠ Str.ofString "back" → m z = if z = Str.ofString "told" then some (.ref T0) else if z = Str.ofString "behind" then some (.ref x2) else if z = Str.ofString "ahead" then some (.ref x1) else mr z) ?step ?done vs _ _ ?hoff ?hinv
  case hoff => exact fun p hp => Nat.ne_of_lt (hI p hp)
  case hinv => exact ⟨[], movesOf a b, [], 0, rfl, hS, trivial, rfl, _, fun _ _ _ _ => rfl⟩
  case done =>
    clear lF lN lN2
    rintro m1 nw ⟨ps, pr, es, n, hps, hSv, hT, rfl, mr, hm⟩ h4 tk4 lF lN
    cases pr with
    | cons p pr => cases hSv
    | nil =>
      rw [List.append_nil] at hps
      rw [show m1 = fun u => if u = Str.ofString "left" then m1 (Str.ofString "left") else m1 u by funext u; split <;> simp_all] at lF
      rw [map3 hm] at lF
      (iterate 4 (walk_at "W"))
      rename Fr _ _ _ _ => lF
      rename News _ _ _ _ => lN
      refine hret T0 es n h4 tk4 (by rw [hps]; exact hT) lF (cb_drop lN ?_)
      k_memK
  case step =>
    clear lF lN lN2
    rintro v vr m1 nw it h4 tk4 hoI ⟨ps, pr, es, n, hps, hSv, hT, rfl, mr, hm⟩ hic lF lN
    cases pr with
    | nil => cases hSv
    | cons p pr =>
      obtain ⟨pa, pb⟩ := p
      have hpab : pa ≤ a ∧ pb ≤ b := moves_le (a := a) (b := b) (pa, pb) (by rw [hps]; exact List.mem_append_right _ (.head _))
      cases hSv with
      | cons _ tv hSv =>
      rw [map3 hm] at lF
      (iterate 9 (walk_at "W"))
      k_here
      rename Fr _ _ _ _ => lF
      rename News _ _ _ _ => lN
      with_unfolding_all refine' ws_spec w _ _ _ _ core pa pb tv hc h0 h09 ?_ ?_ ?_ _ _ _ _ _ _ _ _ _ _ _ _ _ _ _ _ _ (by k_asm) lF (by k_asm) lN (by k_asm) rfl (by ktr_room) (by ktr_units) ?_
      any_goals omega
      clear lF lN
      intro x3 d3 E3 D3 a1 a2 a3 a4 a5 c1 c2 c3 c4 h5' tk5 lF lN
      (iterate 20 (walk_at "W"))
      k_here
      rename Fr _ _ _ _ => lF
      rename News _ _ _ _ => lN
      with_unfolding_all refine' ws_spec w _ _ _ _ core.reverse pb pa _ (rev_ne hc) (rev_head h1) (by simpa using h19) ?_ ?_ ?_ _ _ _ _ _ _ _ _ _ _ _ _ _ _ _ _ _ (by k_asm) lF (by k_asm) lN (by k_asm) rfl (by ktr_room) (by ktr_units) ?_
      any_goals ((try simp only [List.length_reverse]); omega)
      clear lF lN
      intro x4 d4 E4 D4 f1 f2 f3 f4 f5 g1' g2' g3' g4' h6' tk6 lF lN
      (iterate 15 (walk_at "W"))
      k_here
      rename Fr _ _ _ _ => lF
      rename News _ _ _ _ => lN
      with_unfolding_all refine' longest_spec w _ _ _ _ x3 d3 E3 D3 _ pa _ _ _ _ _ _ _ _ _ _ _ _ _ _ _ _ _ _ _ _ _ _ _ _ _ _ (by k_asm) lF (by k_asm) (news_dup4 lN (by k_mem) (by k_mem) (by k_mem) (by k_mem)) (by k_asm) rfl trivial (by ktr_room) (by ktr_units) ?_
      clear lF lN
      intro u1 h7' tk7 lF lN
      replace lN := news_back4 lN
      (iterate 5 (walk_at "W"))
      k_here
      with_unfolding_all refine' longest_spec w _ _ _ _ x4 d4 E4 D4 _ pb _ _ _ _ _ _ _ _ _ _ _ _ _ _ _ _ _ _ _ _ _ _ _ _ _ _ (by k_asm) lF (by k_asm) (news_dup4 lN (by k_mem) (by k_mem) (by k_mem) (by k_mem)) (by k_asm) rfl trivial (by ktr_room) (by ktr_units) ?_
      clear lF lN
      intro u2 h8' tk8 lF lN
      replace lN := news_back4 lN
      (iterate 9 (walk_at "W"))
      k_here
      with_unfolding_all refine' less_spec w _ _ _ _ x3 d3 x1 d1 E3 E1 _ _ pa a _ _ _ _ _ _ _ _ _ _ _ _ _ _ _ _ _ _ _ _ _ _ _ _ _ _ _ _ _ _ _ _ _ (by k_asm) lF (by k_asm) (news_dup4 lN (by k_mem) (by k_mem) (by k_mem) (by k_mem)) (by k_asm) rfl trivial (by ktr_room) (by ktr_units) ?_
      clear lF lN
      intro _ h9' tk9 lF lN
      replace lN := news_back4 lN
      (iterate 9 (walk_at "W"))
      k_here
      with_unfolding_all refine' less_spec w _ _ _ _ x4 d4 x2 d2 E4 E2 _ _ pb b _ _ _ _ _ _ _ _ _ _ _ _ _ _ _ _ _ _ _ _ _ _ _ _ _ _ _ _ _ _ _ _ _ (by k_asm) lF (by k_asm) (news_dup4 lN (by k_mem) (by k_mem) (by k_mem) (by k_mem)) (by k_asm) rfl trivial (by ktr_room) (by ktr_units) ?_
      clear lF lN
      intro _ h10' tk10 lF lN
      replace lN := news_back4 lN
      (iterate 3 (walk_at "W"))
      k_here
      rename_i TN ha1 lF lN l2
      have R0 : News g1 L1 _ (es ++ (Dm, listOf vs.toArray nm) :: news) := fun p hp => lN p (by repeat (first | exact hp | apply List.mem_cons_of_mem))
      have R1 := news_cons lN (e := (E2, tupOf [Value.ref D2, Value.int b r4])) (by k_mem) (news_cons lN (e := (D2, tupOf [])) (by k_mem) (news_cons lN (e := (x2, instObj 143 d2)) (by k_mem) (news_cons lN (e := (d2, wsDict w (line b core.reverse a) b E2 j1 j2 j3 j4 j5 r1 r2 r3)) (by k_mem)
        (news_cons lN (e := (E1, tupOf [Value.ref D1, Value.int a t4])) (by k_mem) (news_cons lN (e := (D1, tupOf [])) (by k_mem) (news_cons lN (e := (x1, instObj 143 d1)) (by k_mem) (news_cons lN (e := (d1, wsDict w (line a core b) a E1 k1 k2 k3 k4 k5 t1 t2 t3)) (by k_mem) R0)))))))
      have R2 := news_cons lN (e := (T0, listOf (refsOf es).toArray n)) (by k_mem) (news_cons lN (e := (TN, tupOf [.int (pa : Nat) u1, .int (pb : Nat) u2, .bool (decide (pa < a)), .bool (decide (pb < b))])) (by k_mem) (news_cons lN (e := (I, it)) (by k_mem) R1))
      have hne : ∀ q ∈ (TN, tupOf [.int (pa : Nat) u1, .int (pb : Nat) u2, .bool (decide (pa < a)), .bool (decide (pb < b))]) :: (I, it) :: (E2, tupOf [Value.ref D2, Value.int b r4]) :: (D2, tupOf []) :: (x2, instObj 143 d2) :: (d2, wsDict w (line b core.reverse a) b E2 j1 j2 j3 j4 j5 r1 r2 r3) ::
        (E1, tupOf [Value.ref D1, Value.int a t4]) :: (D1, tupOf []) :: (x1, instObj 143 d1) :: (d1, wsDict w (line a core b) a E1 k1 k2 k3 k4 k5 t1 t2 t3) :: (es ++ (Dm, listOf vs.toArray nm) :: news), q.1 ≠ T0 := by
        refine List.forall_mem_cons.mpr ⟨News.ne_of_cls R2 (by k_mem) (.head _) (by simp), ?_⟩
        refine List.forall_mem_cons.mpr ⟨News.ne_of_cls R2 (by k_mem) (.head _) (by rw [hic]; simp), ?_⟩
        iterate 8 refine List.forall_mem_cons.mpr ⟨News.ne_of_cls R2 (by k_mem) (.head _) (by simp), ?_⟩
        refine List.forall_mem_append.mpr ⟨fun q hq => News.ne_of_cls R2 (by (repeat refine' List.Mem.tail _ ?_); exact List.mem_append_left _ hq) (.head _) (by rw [told_cls hT q hq]; simp), List.forall_mem_cons.mpr ⟨(hDm _ (.head _)).symm, fun q hq => allLt_ne l1.2.2.2.2.2.2.2.2 q hq⟩⟩
      have hlen : (refsOf es).length ≤ 1000 := by
        rw [List.length_map, hT.length]
        have := congrArg List.length hps
        simp only [movesOf, List.length_append, List.length_map, List.length_range] at this; omega
      clear lN
      with_unfolding_all refine' append_K (D := T0) lF R2 (Upd.head hne) ?_ (by rw [List.size_toArray]; unfold sizeLine; omega)
      clear lF R0 R1 R2
      intro h11' lF lN
      (iterate 3 (walk_at "W"))
      rw [List.push_toArray] at lN
      have eRef : refsOf es ++ [Value.ref TN] = refsOf (es ++ [(TN, tupOf [.int (pa : Nat) u1, .int (pb : Nat) u2, .bool (decide (pa < a)), .bool (decide (pb < b))])]) := by simp [refsOf]
      rw [eRef] at lN
      refine UnrEnd.intro lF lN ((T0, listOf (refsOf (es ++ [(TN, tupOf [.int (pa : Nat) u1, .int (pb : Nat) u2, .bool (decide (pa < a)), .bool (decide (pb < b))])])).toArray (n + 1)) :: (E2, tupOf [Value.ref D2, Value.int b r4]) :: (D2, tupOf []) :: (x2, instObj 143 d2) :: (d2, wsDict w (line b core.reverse a) b E2 j1 j2 j3 j4 j5 r1 r2 r3) ::
        (E1, tupOf [Value.ref D1, Value.int a t4]) :: (D1, tupOf []) :: (x1, instObj 143 d1) :: (d1, wsDict w (line a core b) a E1 k1 k2 k3 k4 k5 t1 t2 t3) :: ((es ++ [(TN, tupOf [.int (pa : Nat) u1, .int (pb : Nat) u2, .bool (decide (pa < a)), .bool (decide (pb < b))])]) ++ (Dm, listOf vs.toArray nm) :: news)) ?sub ?off ⟨?mem, ps ++ [(pa, pb)], pr, _, n + 1, ?p1, hSv, hT.snoc ⟨u1, u2, rfl⟩, rfl, mr, ?p2⟩
      case mem => simp
      case p1 => rw [hps]; simp
      case p2 => intro z z1 z2 z3; simp [z1, z2, z3]
      case sub =>
        k_memK
      case off =>
        refine List.forall_mem_cons.mpr ⟨hoI (T0, listOf (refsOf es).toArray n) (by k_mem), ?_⟩
        iterate 8 refine List.forall_mem_cons.mpr ⟨hoI _ (by k_mem), ?_⟩
        refine List.forall_mem_append.mpr ⟨List.forall_mem_append.mpr ⟨fun q hq => hoI q (by (repeat refine' List.Mem.tail _ ?_); exact List.mem_append_left _ hq), List.forall_mem_cons.mpr ⟨(Nat.ne_of_lt l2.2.2.2.2.2.2.2.2.1).symm, List.forall_mem_nil _⟩⟩, List.forall_mem_cons.mpr ⟨hoI _ (by k_memK), fun q hq => hoI q (by (repeat refine' List.Mem.tail _ ?_); exact List.mem_append_right _ (.tail _ hq))⟩⟩
end MineW
end

section
open PySem PySem.W PyProof.Rows
namespace MineW
noncomputable def DD : List (Int × PyData) := Mine.R0.map fun p => (p.1, PyData.str p.2)
theorem dd_asc : Mine.asc (DD.map (·.1)) = true := by kernel_rfl
theorem nodup_of_asc : ∀ l : List Int, Mine.asc l = true → l.Nodup
  | [], _ => .nil
  | a :: l, h => by
    obtain ⟨h1, h2⟩ := Mine.asc_lt l a h
    exact List.nodup_cons.mpr ⟨fun hm => absurd (h1 a hm) (Int.lt_irrefl a), nodup_of_asc l h2⟩
theorem dd_nodup : (DD.map (·.1)).Nodup := nodup_of_asc _ dd_asc
set_option maxRecDepth 100000 in
theorem dd_look (w : World) : KTD.keyedLook (fun b => (Mine.hd.heap_1 w.params).lookup b) 22 DD = true := by
  unfold KTD.keyedLook
  rw [decide_eq_true dd_nodup]
  kernel_rfl
end MineW
end

section
open PySem PySem.W PyProof.Rows
namespace MineW
abbrev Tab := List (Int × PyData)
def frm (b : Int) (D : Tab) : Tab := D.dropWhile fun p => decide (p.1 < b)
/-- the look-up in a sorted table: it ends at the first key that is not below -/
def lookS (q : Int) : Tab → Option PyData
  | [] => none
  | p :: r => if decide (p.1 < q) = true then lookS q r else if decide (p.1 = q) = true then some p.2 else none
theorem datumAt_frm {q b : Int} (h : b ≤ q) : ∀ D : Tab, KTD.datumAt q D = KTD.datumAt q (frm b D)
  | [] => rfl
  | (k, v) :: r => by
    unfold frm
    rw [List.dropWhile_cons]
    by_cases e : k < b
    · simp only [e, decide_true, if_true]
      show (if decide (q = k) = true then some v else KTD.datumAt q r) = _
      rw [if_neg (by simp; omega)]
      exact datumAt_frm h r
    · simp only [e, decide_false, Bool.false_eq_true, if_false]
theorem datumAt_above {q : Int} : ∀ (D : Tab), (∀ p ∈ D, q < p.1) → KTD.datumAt q D = none
  | [], _ => rfl
  | (k, v) :: r, h => by
    show (if decide (q = k) = true then some v else KTD.datumAt q r) = _
    have := h _ (.head _)
    rw [if_neg (by simp; omega)]
    exact datumAt_above r fun p hp => h p (.tail _ hp)
theorem datumAt_lookS {q : Int} : ∀ (D : Tab), Mine.asc (D.map (·.1)) = true → KTD.datumAt q D = lookS q D
  | [], _ => rfl
  | (k, v) :: r, h => by
    have h' : Mine.asc (k :: r.map (·.1)) = true := h
    obtain ⟨h1, h2⟩ := Mine.asc_lt (r.map (·.1)) k h'
    show (if decide (q = k) = true then some v else KTD.datumAt q r) = (if decide (k < q) = true then lookS q r else if decide (k = q) = true then some v else none)
    by_cases e : k < q
    · rw [if_neg (by simp; omega), if_pos (by simpa using e)]
      exact datumAt_lookS r h2
    · rw [if_neg (c := decide (k < q) = true) (by simpa using e)]
      by_cases e2 : k = q
      · rw [if_pos (by simp [e2]), if_pos (by simp [e2])]
      · rw [if_neg (by simp; omega), if_neg (by simpa using e2)]
        exact datumAt_above r fun p hp => by
          have := h1 _ (List.mem_map_of_mem hp)
          omega
theorem asc_frm (b : Int) : ∀ D : Tab, Mine.asc (D.map (·.1)) = true → Mine.asc ((frm b D).map (·.1)) = true
  | [], h => h
  | (k, v) :: r, h => by
    unfold frm
    rw [List.dropWhile_cons]
    by_cases e : k < b
    · simp only [e, decide_true, if_true]
      have h' : Mine.asc (k :: r.map (·.1)) = true := h
      exact asc_frm b r (Mine.asc_lt (r.map (·.1)) k h').2
    · simp only [e, decide_false, Bool.false_eq_true, if_false]
      exact h
/-- the answer of a look-up is the text r, or there is none and the lower case of the sign is r -/
def ansOk (o : Option PyData) (c : Nat) (r : Str) : Bool := match o with | some (.str z) => z == r | none => Txt.lower ⟨#[c]⟩ == r | _ => false
theorem b3_of {D : Tab} {c : Nat} {r : Str} (h : ansOk (KTD.datumAt (c : Int) D) c r = true) : b3 D c = r ∧ b3ok D c := by
  unfold ansOk at h
  unfold b3 b3ok
  split at h
  · rename_i z hz; rw [hz]; exact ⟨by simpa using h, trivial⟩
  · rename_i hz; rw [hz]; exact ⟨by simpa using h, trivial⟩
  · cases h
theorem look_eq {q b : Int} (h : b ≤ q) : KTD.datumAt q DD = lookS q (frm b DD) := by
  rw [datumAt_frm h DD]; exact datumAt_lookS _ (asc_frm b DD dd_asc)
/-- what is asked of the i-th sign -/
def signOk (L : List Nat) (D : Tab) (i : Nat) : Bool :=
  match (textsT.getD i Str.empty).cps.toList with
  | [x, y] => (x != y) && decide (97 ≤ x) && decide (x ≤ 122) && decide (97 ≤ y) && decide (y ≤ 122) && L.contains x &&
      ansOk (lookS (((codesT.getD i 0).toNat : Nat) : Int) (frm 0 D)) (codesT.getD i 0).toNat ⟨#[x, y]⟩
  | _ => false
def letOk (D : Tab) (c : Nat) (b : Int) (x : Nat) : Bool := ansOk (lookS ((c : Nat) : Int) (frm b D)) c ⟨#[x]⟩
def letsOk (L : List Nat) (D : Tab) : Bool := basesT.all fun b => L.all fun x => letOk D (b + (x : Int) - 97).toNat b x
def firstsL : List Nat := [97, 98, 100, 102, 103, 104, 107, 109, 110, 111, 112, 114, 115, 116, 119]
theorem signs_ok : (List.range 31).all (signOk firstsL DD) = true := by kernel_rfl
theorem lets_ok : letsOk firstsL DD = true := by kernel_rfl
theorem bases_pos : ∀ b ∈ basesT, 65 ≤ b := by decide
theorem wfacts (seed : Int) : ∃ x y : Nat, x ≠ y ∧ 97 ≤ x ∧ x ≤ 122 ∧ 97 ≤ y ∧ y ≤ 122 ∧ textAt seed = ⟨#[x, y]⟩ ∧ (b3 DD (codeAt seed) = ⟨#[x, y]⟩ ∧ b3ok DD (codeAt seed)) ∧
   (∀ b ∈ basesT, b3 DD (b + x - 97).toNat = ⟨#[x]⟩ ∧ b3ok DD (b + x - 97).toNat) := by
  have h1 : 0 ≤ seed.fmod 31 := Int.fmod_nonneg_of_pos _ (by decide)
  have h2 : seed.fmod 31 < 31 := Int.fmod_lt_of_pos _ (by decide)
  have h3 : signOk firstsL DD (seed.fmod 31).toNat = true := List.all_eq_true.mp signs_ok _ (List.mem_range.mpr (by omega))
  unfold signOk at h3
  unfold codeAt textAt
  generalize (seed.fmod 31).toNat = i at h3
  split at h3
  · rename_i x y hx
    simp only [Bool.and_eq_true, bne_iff_ne, decide_eq_true_eq] at h3
    obtain ⟨⟨⟨⟨⟨⟨q1, q2⟩, q3⟩, q4⟩, q5⟩, q8⟩, q6⟩ := h3
    refine ⟨x, y, q1, q2, q3, q4, q5, ?_, b3_of (by rw [look_eq (b := 0) (by omega)]; exact q6), fun b hb => b3_of ?_⟩
    · show textsT.getD i Str.empty = _
      rw [show textsT.getD i Str.empty = ⟨(textsT.getD i Str.empty).cps.toList.toArray⟩ from rfl, hx]
    · have h65 := bases_pos b hb
      rw [look_eq (b := b) (by omega)]
      exact List.all_eq_true.mp (List.all_eq_true.mp lets_ok b hb) x (by simpa using q8)
  · cases h3
end MineW
end

section
theorem MineW.fresh10 : True := by
  w_top off
  trivial
open PySem PySem.W PyProof.Rows
namespace MineW
def pick (l : Ents) (is : List Nat) : Ents := is.filterMap (l[·]?)
theorem news_pick {h₀ h : Heap} {L : Addr} {l : Ents} (N : News h₀ L h l) (is : List Nat) : News h₀ L h (pick l is) := by
  intro p hp
  simp only [pick, List.mem_filterMap] at hp
  obtain ⟨i, _, hi⟩ := hp
  exact N p (List.mem_of_getElem? hi)
theorem word_row {x y : Nat} (h : x ≠ y) (p q : Int) : (((wordOf x y).take 8).map fun c => if c = x then p else q) = [p, q, p, p, q, p, q, p] := by
  have h' : ¬ y = x := fun e => h e.symm
  simp [wordOf, h']
set_option maxRecDepth 100000 in
set_option maxHeartbeats 8000000 in
noncomputable def cut1 : (P : Prop) ×' (PLift P → PySem.Challenge.rw_st0044_01.Holds) := by
  refine' ⟨_, fun hp => _⟩
  rotate_left
  · skip
    refine Mine.hdw ?_
    intro w
    k_fill
    intro s₀ s₁ mg mb G Y fa o pm cd doc dV kV ho hdd hcd hD hmg hg args vals as hpre hlay hrd hwl hlo
    have KX := kIn_of Y
    have X := (Ground.X G).1
    have V := (Ground.X G).2
    have GL := glob_more (Ground.glob G (by decide +kernel) (by decide +kernel)) V
    refine Ground.open G ?_
    intro T B D TE TW
    try (refine guard_noD D (by decide +kernel) ?_; clear D)
    obtain ⟨_, _, M⟩ := bmod_of_top T
    have TA := at_of_top T
    try (obtain ⟨_, _, he, B0⟩ := based_of_top T rfl hmg ho hdd; have he' : cd = _ := he; subst he'; clear he)
    clear hmg
    wrow_args hpre hlay hrd hwl hlo
    all_goals (
      first | refine callC_kw (enter_call ?_) | refine enter_call ?_ | refine callC_kw (enter_callW ?_) | refine enter_callW ?_ | w_how
      w_top on
      have K0 := below_caller (Top.heap T)
      w_call any ho hdd hcd hD T F
      clear hdd TA
      k_drop
      skip)
    all_goals try k_fold
    (iterate 9 (walk_at "W"))
    k_here
    rename IntsAre _ _ => hInts
    rename_i c7 c6 c5 c4 c3 c2 c1 d7 d6 d5 d4 d3 d2 d1 N0 X0 eLen hLen rH rK rT rU rV lR lF lN aX
    refine LCg.CompSrc.range (n := 3) (by rfl) lF lN lR (by decide) (by decide) (by decide) ?_
    intro gg1
    clear lF lN
    refine comp_range (fun k ys nw => ∃ ds : List Int, ds.length = k ∧ IntsAre ys ds ∧ nw = _) ?turn ?fin _ ⟨[], rfl, .nil, rfl⟩
    case turn =>
      rintro k t2 ys nw I oI C oC D m2 h tk E' hk ⟨ds, hds, hys, rfl⟩ hC hx lF lN off ne
      (iterate 28 (walk_at "W"))
      k_here
      rename Fr _ _ _ _ => lF2
      rename News _ _ _ _ => lN2
      refine sumK (by rfl) lF2 lN2 ⟨_, (lN2 _ (.head _)).1, rfl, _, rfl⟩ (hInts.pick _ _ _) ?_
      clear lF2 lN2
      intro h2 tk2 t3 lF lN
      walk_at "W"
      k_here
      rename Fr _ _ _ _ => lF
      rename News _ _ _ _ => lN
      exact ⟨_, _, _, rfl, lF, cb_drop lN (by k_memK), off, trivial, ds ++ [_], by simp [hds], hys.append (.cons _ _ .nil), rfl⟩
    case fin =>
      rintro ys nw ⟨ds, hds, hys, rfl⟩
      match ds, hds with
      | [d0, d1, d2], _ =>
      (iterate 16 (walk_at "W"))
      k_here
      rename Fr _ _ _ _ => lF
      rename News _ _ _ _ => lN
      generalize hsd : ([d0, d1, d2].getD (Int.toNat 2) 0).fdiv 4 = seed
      obtain ⟨x, y, hxy, hx1, hx2, hy1, hy2, htx, hsg, hlt⟩ := wfacts seed
      with_unfolding_all refine' word_spec w _ _ _ _ seed _ x y DD (dd_look w) hxy hx1 hx2 htx hsg hlt _ _ _ _ _ _ _ _ _ _ _ _ _ _ _ _ _ (by k_asm) lF (by k_asm) lN (by k_asm) rfl ?_ ?_ ?_
      any_goals (first | ktr_room | ktr_units)
      clear lF lN
      intro t4 h4 tk4 lF lN
      (iterate 19 (walk_at "W"))
      k_here
      rename Fr _ _ _ _ => lF
      rename News _ _ _ _ => lN
      rw [hsd]
      with_unfolding_all refine' pair_spec w _ _ _ _ seed _ _ _ _ _ _ _ _ _ _ _ _ _ _ _ _ _ _ (by k_asm) lF (by k_asm) lN (by k_asm) rfl ?_ ?_ ?_
      any_goals (first | ktr_room | ktr_units)
      clear lF lN
      intro TT tt1 tt2 hh2 tk2 hTT lF lN
      rw [htx] at lN
      dsimp only [AllLt] at hTT
      (iterate 6 (walk_at "W"))
      rename_i hLw oLd Fx Nx dLd0
      rename Obj.data _ = Data.cell (some (Value.str (Txt.item _ _) _)) => dLd
      rw [show Txt.item ⟨#[x, y]⟩ 0 = ⟨#[x]⟩ from item_at _ 0 x (by rfl)] at dLd
      (iterate 14 (walk_at "W"))
      k_here
      k_dflt (refine ListComp_S (F₀ := by k_asm) (by with_unfolding_all rfl) (by decide) (by rfl) (by decide) (by rfl) ?_)
      walk_at "W"
      k_here
      rename Fr _ _ _ _ => lF
      rename News _ _ _ _ => lN
      refine ⟨_, _, _, rfl, by rfl, lF, lN, ?ascii, ?sized, ?_⟩
      case ascii => simp [wordOf]; omega
      case sized => simp [wordOf]; unfold sizeLine; omega
      rintro _ ⟨gg2, rfl⟩
      refine comp_signs _ (fun k ys nw => IntsAre ys (((wordOf x y).take k).map fun c => if c = x then 2 else 1) ∧ nw = _) ?turn2 ?fin2 _ ⟨.nil, rfl⟩
      case turn2 =>
        clear lF lN
        rintro k c t5 ys5 nw I oI C oC D m2 h tk E' hc ⟨hys5, rfl⟩ hC hx lF lN off ne
        (iterate 7 (walk_at "W"))
        · rename_i hbq
          rw [one_beq _ _ _ rfl] at hbq
          have eP := of_decide_eq_true hbq
          walk_at "W"
          k_here
          refine ⟨_, _, _, rfl, lF, lN, off, trivial, ?_, rfl⟩
          rw [List.take_add_one, show (wordOf x y)[k]? = some c from by simpa using hc, Option.toList_some, List.map_append, List.map_singleton, if_pos eP]
          exact hys5.append (.cons _ _ .nil)
        · rename_i hbq
          rw [one_beq _ _ _ rfl] at hbq
          have eP := of_decide_eq_false hbq
          walk_at "W"
          k_here
          refine ⟨_, _, _, rfl, lF, lN, off, trivial, ?_, rfl⟩
          rw [List.take_add_one, show (wordOf x y)[k]? = some c from by simpa using hc, Option.toList_some, List.map_append, List.map_singleton, if_neg eP]
          exact hys5.append (.cons _ _ .nil)
      case fin2 =>
        clear lF lN
        rintro ys5 nw ⟨hys5, rfl⟩
        (iterate 12 (walk_at "W"))
        k_here
        rename_i Lr wr hr Fx2 Nx2 hIr hlr
        rename Fr _ _ _ _ => lF
        rename News _ _ _ _ => lN
        rw [show (List.map (fun c => if c = x then (2 : Int) else 1) (List.take (⟨(wordOf x y).toArray⟩ : Str).cps.size (wordOf x y))) = [2, 1, 2, 2, 1, 2, 1, 2] from word_row hxy 2 1] at hIr
        with_unfolding_all refine' marks_spec w _ _ _ _ _ 1 [2, 1, 2, 2, 1, 2, 1, 2] [127, 5] (by decide) (by decide) (.inr ⟨_, rfl⟩) (by decide) _ _ _ _ _ _ _ _ _ _ _ _ _ _ _ _ _ _ _ (by k_asm) lF (by k_asm) lN (by k_asm) rfl ?_ ?_ hIr (AllBare.of_eq hg) ?_ ?_
        case refine'_3 =>
          simp only [List.forall_mem_cons]
          repeat' apply And.intro
          all_goals first | exact Nat.ne_of_lt hlr.1 | exact Nat.ne_of_lt hlr.2.1 | exact Nat.ne_of_lt hlr.2.2.1 | exact Nat.ne_of_lt hlr.2.2.2.1 | exact Nat.ne_of_lt hlr.2.2.2.2.1 | exact Nat.ne_of_lt hlr.2.2.2.2.2.1 | exact Nat.ne_of_lt hlr.2.2.2.2.2.2.1 | exact Nat.ne_of_lt hlr.2.2.2.2.2.2.2.1 | exact Nat.ne_of_lt hlr.2.2.2.2.2.2.2.2.1 | exact Nat.ne_of_lt hlr.2.2.2.2.2.2.2.2.2.1 | exact Nat.ne_of_lt hlr.2.2.2.2.2.2.2.2.2.2.1 | exact Nat.ne_of_lt hlr.2.2.2.2.2.2.2.2.2.2.2.1 | exact Nat.ne_of_lt hlr.2.2.2.2.2.2.2.2.2.2.2.2.1 | exact Nat.ne_of_lt hlr.2.2.2.2.2.2.2.2.2.2.2.2.2.1 | exact Nat.ne_of_lt (by omega) | (intro _ h; cases h)
        any_goals (first | ktr_room | ktr_units)
        clear lF lN
        intro Dl vl nl hl tkl Gl hIl hBl lF lN
        rw [show marksOf [1, 2, 1, 2, 2, 1, 2, 1, 2] = [0, 1, 3, 4, 6, 8, 9, 11, 12, 14] from rfl] at hIl
        rename_i v2_0 v2_1 v2_2 v2_3 v2_4 v2_5 v2_6 v2_7 v2_8 v2_9 v2_10 v2_11 v2_12 v2_13 v2_14 v2_15 v2_16 v2_17 v2_18 v2_19 v2_20 v2_21 v2_22 v2_23 v2_24 v2_25 v2_26 v2_27 v2_28 v2_29 v2_30 v2_31 v2_32 v2_33 v2_34 v2_35 v2_36 v2_37 v2_38 v2_39 v2_40 v2_41 v2_42 v2_43 v2_44 v2_45 v2_46 v2_47 v2_48 v2_49 v2_50
        revert w s₀ s₁ mg mb G Y fa o pm doc ho hg KX X V GL T B TE TW v2_0 v2_1 M v2_2 v2_3 hcd v2_4 v2_5 v2_6 v2_7 v2_8 v2_9 v2_10 v2_11 v2_12 v2_13 v2_14 v2_15 v2_16 v2_17 v2_18 hInts v2_19 v2_20 v2_21 K0 hD v2_22 v2_23 c7 c6 c5 c4 c3 c2 c1 d7 d6 d5 d4 d3 v2_24 v2_25 X0 qk ek eLen hLen rH rK rT rU rV lR aX gg1 ys ds hds d0 d1 d2 v2_26 hys v2_27 v2_28 v2_29 v2_30 v2_31 seed hsd x y hxy hx1 hx2 hy1 hy2 htx hsg hlt t4 h4 tk4 v2_32 v2_33 v2_34 TT tt1 tt2 hh2 tk2 hTT v2_35 hLw oLd dLd tk v2_36 v2_37 v2_38 gg2 ys5 hys5 v2_39 v2_40 v2_41 v2_42 v2_43 v2_44 v2_45 v2_46 v2_47 v2_48 v2_49 v2_50 Lr wr hr hIr hlr Dl vl nl hl tkl Gl hIl hBl lF lN
        exact hp.down
end MineW
end

section
theorem MineW.fresh11 : True := by
  w_top off
  trivial
open PySem PySem.W PyProof.Rows
namespace MineW
theorem ne_cell {h₀ h : Heap} {L a c : Addr} {o oc : Obj} {l : Ents} {v : Option Value} (N : News h₀ L h l) (m1 : (a, o) ∈ l) (m2 : (c, oc) ∈ l) (d : oc.data = .cell v) (hd : ∀ v, o.data ≠ .cell v) : @Ne Nat a c := by
  rintro rfl
  have e1 := (N _ m1).1
  have e2 := (N _ m2).1
  rw [e1] at e2
  cases e2
  exact hd _ d
set_option maxRecDepth 100000 in
set_option maxHeartbeats 8000000 in
noncomputable def cut2 : (P : Prop) ×' (PLift P → cut1.1) := by
  refine' ⟨_, fun hp => _⟩
  rotate_left
  · skip
    intro w
    k_fill
    intro s₀ s₁ mg mb G Y fa o pm doc ho hg KX X V GL T B TE TW v2_0 v2_1 M v2_2 v2_3 hcd v2_4 v2_5 v2_6 v2_7 v2_8 v2_9 v2_10 v2_11 v2_12 v2_13 v2_14 v2_15 v2_16 v2_17 v2_18 hInts v2_19 v2_20 v2_21 K0 hD v2_22 v2_23 c7 c6 c5 c4 c3 c2 c1 d7 d6 d5 d4 d3 v2_24 v2_25 X0 qk ek eLen hLen rH rK rT rU rV lR aX gg1 ys ds hds d0 d1 d2 v2_26 hys v2_27 v2_28 v2_29 v2_30 v2_31 seed hsd x y hxy hx1 hx2 hy1 hy2 htx hsg hlt t4 h4 tk4 v2_32 v2_33 v2_34 TT tt1 tt2 hh2 tk2 hTT v2_35 hLw oLd dLd tk v2_36 v2_37 v2_38 gg2 ys5 hys5 v2_39 v2_40 v2_41 v2_42 v2_43 v2_44 v2_45 v2_46 v2_47 v2_48 v2_49 v2_50 Lr wr hr hIr hlr Dl vl nl hl tkl Gl hIl hBl lF lN
    replace lN := news_pick lN [0, 6, 7, 8, 9, 10, 11, 12, 13]
    simp only [pick, List.filterMap_cons, List.filterMap_nil, List.getElem?_cons_zero, List.getElem?_cons_succ] at lN
    have n1 := ne_cell lN (.head _) (c := s₁.heap.objs.size + 1) (by k_mem) (by assumption) (by intro v; simp)
    have n2 := ne_cell lN (.head _) (c := s₁.heap.objs.size + 1 + 1) (by k_mem) (by assumption) (by intro v; simp)
    have n3 := ne_cell lN (.head _) (c := s₁.heap.objs.size + 1 + 1 + 1) (by k_mem) (by assumption) (by intro v; simp)
    have n4 := ne_cell lN (.head _) (c := s₁.heap.objs.size + 1 + 1 + 1 + 1) (by k_mem) (by assumption) (by intro v; simp)
    have n5 := ne_cell lN (.head _) (c := s₁.heap.objs.size + 1 + 1 + 1 + 1 + 1) (by k_mem) (by assumption) (by intro v; simp)
    have n6 := ne_cell lN (.head _) (c := s₁.heap.objs.size + 1 + 1 + 1 + 1 + 1 + 1) (by k_mem) (by assumption) (by intro v; simp)
    have n7 := ne_cell lN (.head _) (c := s₁.heap.objs.size + 1 + 1 + 1 + 1 + 1 + 1 + 1) (by k_mem) (by assumption) (by intro v; simp)
    have nd3 := ne_cell lN (.tail _ (.head _)) (c := s₁.heap.objs.size + 1 + 1 + 1) (by k_mem) (by assumption) (by intro v; simp)
    walk_at "W"
    rename_i hLo oLo Fq1 Nq1 dLo
    (iterate 13 (walk_at "W"))
    k_here
    k_dflt (refine ListComp_S (F₀ := by k_asm) (by with_unfolding_all rfl) (by decide) (by rfl) (by decide) (by rfl) ?_)
    walk_at "W"
    k_here
    rename Fr _ _ _ _ => lF
    rename News _ _ _ _ => lN
    refine ⟨_, _, _, rfl, by rfl, lF, lN, ?ascii3, ?sized3, ?_⟩
    case ascii3 => simp [wordOf]; omega
    case sized3 => simp [wordOf]; unfold sizeLine; omega
    rintro _ ⟨gg3, rfl⟩
    refine comp_signs _ (fun k ys nw => IntsAre ys (((wordOf x y).take k).map fun c => if c = x then 3 else 2) ∧ nw = _) ?turn3 ?fin3 _ ⟨.nil, rfl⟩
    case turn3 =>
      clear lF lN
      rintro k c t5 ys5 nw I oI C oC D m2 h tk E' hc ⟨hys5, rfl⟩ hC hx lF lN off ne
      (iterate 7 (walk_at "W"))
      · rename_i hbq
        rw [one_beq _ _ _ rfl] at hbq
        have eP := of_decide_eq_true hbq
        walk_at "W"
        k_here
        refine ⟨_, _, _, rfl, lF, lN, off, trivial, ?_, rfl⟩
        rw [List.take_add_one, show (wordOf x y)[k]? = some c from by simpa using hc, Option.toList_some, List.map_append, List.map_singleton, if_pos eP]
        exact hys5.append (.cons _ _ .nil)
      · rename_i hbq
        rw [one_beq _ _ _ rfl] at hbq
        have eP := of_decide_eq_false hbq
        walk_at "W"
        k_here
        refine ⟨_, _, _, rfl, lF, lN, off, trivial, ?_, rfl⟩
        rw [List.take_add_one, show (wordOf x y)[k]? = some c from by simpa using hc, Option.toList_some, List.map_append, List.map_singleton, if_neg eP]
        exact hys5.append (.cons _ _ .nil)
    case fin3 =>
      clear lF lN
      rintro ys6 nw ⟨hys6, rfl⟩
      (iterate 4 (walk_at "W"))
      k_here
      rename_i Lr2 wr2 hr2 Fx2 Nx2 hIr2 hlr2
      rename Fr _ _ _ _ => lF
      rename News _ _ _ _ => lN
      rw [show (List.map (fun c => if c = x then (3 : Int) else 2) (List.take (⟨(wordOf x y).toArray⟩ : Str).cps.size (wordOf x y))) = [3, 2, 3, 3, 2, 3, 2, 3] from word_row hxy 3 2] at hIr2
      with_unfolding_all refine' marks_spec w _ _ _ _ _ 2 [3, 2, 3, 3, 2, 3, 2, 3] [] (by decide) (by decide) (.inl rfl) (by decide) _ _ _ _ _ _ _ _ _ _ _ _ _ _ _ _ _ _ _ (by k_asm) lF (by k_asm) lN (by k_asm) rfl ?_ ?_ hIr2 hBl ?_ ?_
      case refine'_3 =>
        simp only [List.forall_mem_cons]
        repeat' apply And.intro
        all_goals first | exact Nat.ne_of_lt hlr2.1 | exact Nat.ne_of_lt hlr2.2.1 | exact Nat.ne_of_lt hlr2.2.2.1 | exact Nat.ne_of_lt hlr2.2.2.2.1 | exact Nat.ne_of_lt hlr2.2.2.2.2.1 | exact Nat.ne_of_lt hlr2.2.2.2.2.2.1 | exact Nat.ne_of_lt hlr2.2.2.2.2.2.2.1 | exact Nat.ne_of_lt hlr2.2.2.2.2.2.2.2.1 | exact Nat.ne_of_lt hlr2.2.2.2.2.2.2.2.2.1 | exact Nat.ne_of_lt hlr2.2.2.2.2.2.2.2.2.2.1 | exact Nat.ne_of_lt hlr2.2.2.2.2.2.2.2.2.2.2.1 | exact Nat.ne_of_lt hlr2.2.2.2.2.2.2.2.2.2.2.2.1 | exact Nat.ne_of_lt hlr2.2.2.2.2.2.2.2.2.2.2.2.2.1 | exact Nat.ne_of_lt hlr2.2.2.2.2.2.2.2.2.2.2.2.2.2.1 | exact Nat.ne_of_lt (by omega) | (intro _ h; cases h)
      any_goals (first | ktr_room | ktr_units)
      clear lF lN
      intro Dh vh nh hh9 tkh Gh hIh hBh lF lN
      rw [show marksOf [2, 3, 2, 3, 3, 2, 3, 2, 3] = [0, 2, 5, 7, 10, 13, 15, 18, 20, 23] from rfl] at hIh
      replace lN := news_pick lN [0, 3, 4, 5, 6, 7, 8, 9, 10, 11]
      simp only [pick, List.filterMap_cons, List.filterMap_nil, List.getElem?_cons_zero, List.getElem?_cons_succ] at lN
      have m1 := ne_cell lN (.head _) (c := s₁.heap.objs.size + 1) (by k_mem) (by assumption) (by intro v; simp)
      have m2 := ne_cell lN (.head _) (c := s₁.heap.objs.size + 1 + 1) (by k_mem) (by assumption) (by intro v; simp)
      have m3 := ne_cell lN (.head _) (c := s₁.heap.objs.size + 1 + 1 + 1) (by k_mem) (by assumption) (by intro v; simp)
      have m4 := ne_cell lN (.head _) (c := s₁.heap.objs.size + 1 + 1 + 1 + 1) (by k_mem) (by assumption) (by intro v; simp)
      have m5 := ne_cell lN (.head _) (c := s₁.heap.objs.size + 1 + 1 + 1 + 1 + 1) (by k_mem) (by assumption) (by intro v; simp)
      have m6 := ne_cell lN (.head _) (c := s₁.heap.objs.size + 1 + 1 + 1 + 1 + 1 + 1) (by k_mem) (by assumption) (by intro v; simp)
      have m7 := ne_cell lN (.head _) (c := s₁.heap.objs.size + 1 + 1 + 1 + 1 + 1 + 1 + 1) (by k_mem) (by assumption) (by intro v; simp)
      have nd4 := ne_cell lN (.tail _ (.tail _ (.head _))) (c := s₁.heap.objs.size + 1 + 1 + 1 + 1) (by k_mem) (by assumption) (by intro v; simp)
      walk_at "W"
      rename_i hHi oHi Fq2 Nq2 dHi
      (iterate 28 (walk_at "W"))
      k_here
      rename_i Ls ws hs Fs Ns hIs hls
      rename_i v3_0 v3_1 v3_2 v3_3 v3_4 v3_5 v3_6 v3_7 v3_8 v3_9 v3_10 v3_11 v3_12 v3_13 v3_14 v3_15 v3_16 v3_17 v3_18 v3_19 v3_20 v3_21 v3_22
      revert w s₀ s₁ mg mb G Y fa o pm doc ho hg KX X V GL T B TE TW v2_0 v2_1 M v2_2 v2_3 hcd v2_4 v2_5 v2_6 v2_7 v2_8 v2_9 v2_10 v2_11 v2_12 v2_13 v2_14 v2_15 v2_16 v2_17 v2_18 hInts v2_19 v2_20 v2_21 K0 hD v2_22 v2_23 c7 c6 c5 c4 c3 c2 c1 d7 d6 d5 d4 d3 v2_24 v2_25 X0 qk ek eLen hLen rH rK rT rU rV lR aX gg1 ys ds hds d0 d1 d2 v2_26 hys v2_27 v2_28 v2_29 v2_30 v2_31 seed hsd x y hxy hx1 hx2 hy1 hy2 htx hsg hlt t4 h4 tk4 v2_32 v2_33 v2_34 TT tt1 tt2 hh2 tk2 hTT v2_35 hLw oLd dLd v3_0 v2_36 v2_37 v2_38 gg2 ys5 hys5 v2_39 v2_40 v2_41 v2_42 v2_43 v2_44 v2_45 v2_46 v2_47 v2_48 v2_49 v2_50 Lr wr hr hIr hlr Dl vl nl hl tkl Gl hIl hBl n1 n2 n3 n4 n5 n6 n7 nd3 hLo oLo dLo v3_1 v3_2 v3_3 v3_4 gg3 ys6 hys6 v3_5 v3_6 v3_7 v3_8 Lr2 wr2 hr2 hIr2 hlr2 Dh vh nh hh9 tkh Gh hIh hBh m1 m2 m3 m4 m5 m6 m7 nd4 hHi oHi dHi tk v3_9 v3_10 v3_11 v3_12 v3_13 v3_14 v3_15 v3_16 v3_17 v3_18 v3_19 v3_20 v3_21 v3_22 Ls ws hs Fs Ns hIs hls
      exact hp.down
end MineW
end

section
theorem MineW.fresh12 : True := by
  w_top off
  trivial
open PySem PySem.W PyProof.Rows
namespace MineW
theorem sorted_is {a b c : List Int} (p : a.Perm b) (o : a.Pairwise (· ≤ ·)) (q : c.Perm b) (u : c.Pairwise (· ≤ ·)) : a = c :=
  List.Perm.eq_of_pairwise (fun _ _ _ _ h1 h2 => Int.le_antisymm h1 h2) o u (p.trans q.symm)
theorem marks_perm : [1, 2, 3, 4, 5, 6, 7, 8, 9, 10, 11, 12, 13, 14, 15, 18, 20, (23 : Int)].Perm (List.drop 1 [0, 1, 3, 4, 6, 8, 9, 11, 12, 14] ++ List.drop 1 [0, 2, 5, 7, 10, 13, 15, 18, 20, 23]) := by decide +kernel
theorem marks_asc : [1, 2, 3, 4, 5, 6, 7, 8, 9, 10, 11, 12, 13, 14, 15, 18, 20, (23 : Int)].Pairwise (· ≤ ·) := by decide +kernel
abbrev lowsL : List Int := [0, 1, 3, 4, 6, 8, 9, 11, 12, 14]
abbrev highsL : List Int := [0, 2, 5, 7, 10, 13, 15, 18, 20, 23]
theorem if_false_of {c : Prop} [Decidable c] {a b : Prop} (h : ¬ c) (hb : b) : if c then a else b := by rw [if_neg h]; exact hb
theorem ne_same {prog : Program} {w : World} {A : Around} {E : Value → Shared → Prop} {s : Shared} {a b : Addr} {vs us : List Value} {ns ms : List Int} {Q : Value → Shared → Prop} (hl : s.heap.IsList a vs.toArray) (hi : IntsAre vs ns) (hl' : s.heap.IsList b us.toArray) (hi' : IntsAre us ms) (hu : A.units + 64 < cLine)
    (e : ns = ms) (h : Q (.bool false) s) : wpAny (model prog w) A (compareOp .NotEq (.ref a) (.ref b)) Q E s :=
  ne_intsK hl hi hl' hi' hu (by rw [decide_eq_true e]; exact h)
set_option maxRecDepth 100000 in
set_option maxHeartbeats 8000000 in
noncomputable def cut3 : (P : Prop) ×' (PLift P → cut2.1) := by
  refine' ⟨_, fun hp => _⟩
  rotate_left
  · skip
    intro w
    k_fill
    intro s₀ s₁ mg mb G Y fa o pm doc ho hg KX X V GL T B TE TW v2_0 v2_1 M v2_2 v2_3 hcd v2_4 v2_5 v2_6 v2_7 v2_8 v2_9 v2_10 v2_11 v2_12 v2_13 v2_14 v2_15 v2_16 v2_17 v2_18 hInts v2_19 v2_20 v2_21 K0 hD v2_22 v2_23 c7 c6 c5 c4 c3 c2 c1 d7 d6 d5 d4 d3 v2_24 v2_25 X0 qk ek eLen hLen rH rK rT rU rV lR aX gg1 ys ds hds d0 d1 d2 v2_26 hys v2_27 v2_28 v2_29 v2_30 v2_31 seed hsd x y hxy hx1 hx2 hy1 hy2 htx hsg hlt t4 h4 tk4 v2_32 v2_33 v2_34 TT tt1 tt2 hh2 tk2 hTT v2_35 hLw oLd dLd v3_0 v2_36 v2_37 v2_38 gg2 ys5 hys5 v2_39 v2_40 v2_41 v2_42 v2_43 v2_44 v2_45 v2_46 v2_47 v2_48 v2_49 v2_50 Lr wr hr hIr hlr Dl vl nl hl tkl Gl hIl hBl n1 n2 n3 n4 n5 n6 n7 nd3 hLo oLo dLo v3_1 v3_2 v3_3 v3_4 gg3 ys6 hys6 v3_5 v3_6 v3_7 v3_8 Lr2 wr2 hr2 hIr2 hlr2 Dh vh nh hh9 tkh Gh hIh hBh m1 m2 m3 m4 m5 m6 m7 nd4 hHi oHi dHi tk v3_9 v3_10 v3_11 v3_12 v3_13 v3_14 v3_15 v3_16 v3_17 v3_18 v3_19 v3_20 v3_21 v3_22 Ls ws hs Fs Ns hIs hls
    clear v2_5 v2_6 v2_7 v2_8 v2_9 v2_15 v2_16 v2_17 v2_18 v2_19 v2_20 v2_21 d4 d3 v2_24 v2_25 X0 eLen hLen lR aX hds v2_26 v2_30 hsd htx hsg hlt v2_35 hTT v2_38 hys5 v2_42 v2_46 v2_47 v2_50 hIr hlr v3_4 hys6 v3_8 hIr2 hlr2 nd3 nd4 n1 n2 n3 n4 m1 m2 m3 m4 v3_12 v3_13 v3_14 v3_15 v3_19 v3_20 v3_21 v3_22 dLd hInts
    rename Fr _ _ _ _ => lF
    rename News _ _ _ _ => lN
    refine kso_sorted lF lN ⟨_, (lN _ (.head _)).1, rfl, _, rfl⟩ hIs (by decide) ?_
    clear lF lN
    intro Dsr vsr nsr csr hsr lF lN hsl hIsr hsn hsp hso _
    obtain rfl : nsr = [1, 2, 3, 4, 5, 6, 7, 8, 9, 10, 11, 12, 13, 14, 15, 18, 20, 23] := sorted_is hsp hso marks_perm marks_asc
    (iterate 20 (walk_at "W"))
    k_here
    rename_i Dsl wsl hsl2 Fsl Nsl hIsl hC1 hL1 hsll hrg tkrg rt1 ru1 rv1 lR lF lN aXr
    walk_at "W"
    k_here
    refine kll_range (n := 14) (by rfl) lF lN lR (by decide) (by decide) (by decide) ?_
    clear lF lN
    intro Dg usg cg hgg tkg lF lN hgl hIg
    refine ne_same (hl := ⟨_, (lN (Dsl, _) (by k_mem)).1, rfl, _, rfl⟩) (hi := hIsl) (hl' := ⟨_, (lN _ (.head _)).1, rfl, _, rfl⟩) (hi' := hIg) ?un1 (by decide) ?_
    case un1 => ktr_units
    replace lN := news_pick lN [6, 7, 8, 9, 10, 11, 12, 13, 14, 15]
    simp only [pick, List.filterMap_cons, List.filterMap_nil, List.getElem?_cons_zero, List.getElem?_cons_succ] at lN
    (iterate 29 (walk_at "W"))
    k_here
    rename_i lR lF lN aXr2
    refine LCg.CompSrc.range (n := 10) (by rfl) lF lN lR (by decide) (by decide) (by decide) ?_
    intro gg4
    refine comp_range (fun k ys nw => IntsAre ys (highsL.take k) ∧ nw = _) ?turn4 ?fin4 _ ⟨.nil, rfl⟩
    case turn4 =>
      clear lF lN
      rintro k t5 ys5 nw I oI C oC D m2 h tk E' hk ⟨hys5, rfl⟩ hC hx lF lN off ne
      (iterate 7 (walk_at "W"))
      k_here
      refine ⟨_, _, _, rfl, lF, lN, off, trivial, ?_, rfl⟩
      have e10 : ∀ k : Fin 10, highsL.take (k.val + 1) = highsL.take k.val ++ [lowsL.getD (0 + (k.val : Int)).toNat 0 + (0 + (k.val : Int))] := by decide
      rw [e10 ⟨k, hk⟩]
      exact hys5.append (.cons _ _ .nil)
    case fin4 =>
      clear lF lN
      rintro ys6 nw ⟨hys6, rfl⟩
      (iterate 17 (walk_at "W"))
      · rename_i nq tq uq hq9 tkq Iq oIq hlo hhi Fq Nq lq
        have hsq : ∀ i : Fin 10, (2 * lowsL.getD (i.val : Int).toNat 0 - (i.val : Int)).natAbs < 2 ^ 64 ∧ (2 * lowsL.getD (i.val : Int).toNat 0 - (i.val : Int) + 2).natAbs < 2 ^ 64 ∧
            (2 * lowsL.getD (i.val : Int).toNat 0 - (i.val : Int)) ^ (2 : Int).toNat ≤ 5 * (i.val : Int) * (i.val : Int) ∧ 5 * (i.val : Int) * (i.val : Int) < (2 * lowsL.getD (i.val : Int).toNat 0 - (i.val : Int) + 2) ^ (2 : Int).toNat := by decide
        obtain ⟨iq, rfl⟩ : ∃ i : Fin 10, nq = (i.val : Int) := ⟨⟨nq.toNat, by omega⟩, by simp; omega⟩
        obtain ⟨q1, q2, q3, q4⟩ := hsq iq
        (iterate 16 (walk_at "W"))
        refine pow_int_small (by decide) (by decide) q1 ?_
        (iterate 27 (walk_at "W"))
        refine pow_int_small (by decide) (by decide) q2 ?_
        (iterate 2 (walk_at "W"))
        have eq5 : ∀ i : Fin 10, (decide (5 * (i.val : Int) * (i.val : Int) < (2 * lowsL.getD (i.val : Int).toNat 0 - (i.val : Int) + 2) ^ (2 : Int).toNat)) = true := by decide
        have eq6 := eq5 iq
        simp only [lowsL] at eq6
        simp only [eq6, Bool.not_true, Bool.false_eq_true, if_false]
        (iterate 4 (walk_at "W"))
      · rename_i v4_0 v4_1 v4_2 v4_3 v4_4 v4_5 v4_6 v4_7 v4_8 v4_9 v4_10 v4_11 v4_12 v4_13 v4_14 v4_15 v4_16 v4_17 v4_18 v4_19 v4_20 v4_21 v4_22 v4_23 v4_24 v4_25 v4_26 v4_27
        revert w s₀ s₁ mg mb G Y fa o pm doc ho hg KX X V GL T B TE TW v2_0 v2_1 M v2_2 v2_3 hcd v2_4 v2_10 v2_11 v2_12 v2_13 v2_14 K0 hD v2_22 v2_23 c7 c6 c5 c4 c3 c2 c1 d7 d6 d5 qk ek rH rK rT rU rV gg1 ys ds d0 d1 d2 hys v2_27 v2_28 v2_29 v2_31 seed x y hxy hx1 hx2 hy1 hy2 t4 h4 tk4 v2_32 v2_33 v2_34 TT tt1 tt2 hh2 tk2 hLw oLd v3_0 v2_36 v2_37 gg2 ys5 v2_39 v2_40 v2_41 v2_43 v2_44 v2_45 v2_48 v2_49 Lr wr hr Dl vl nl hl tkl Gl hIl hBl n5 n6 n7 hLo oLo dLo v3_1 v3_2 v3_3 gg3 v4_0 v3_5 v3_6 v3_7 Lr2 wr2 hr2 Dh vh nh hh9 tkh Gh hIh hBh m5 m6 m7 hHi oHi dHi tk v3_9 v3_10 v3_11 v3_16 v3_17 v3_18 Ls ws hs hIs hls Dsr vsr csr hsr hsl hIsr hsn hsp hso v4_1 Dsl wsl hsl2 Fsl Nsl hIsl hC1 hL1 hsll hrg tkrg rt1 ru1 rv1 v4_2 aXr Dg usg cg hgg tkg v4_3 hgl hIg v4_4 v4_5 v4_6 v4_7 v4_8 v4_9 lR aXr2 gg4 ys6 hys6 v4_10 v4_11 v4_12 v4_13 v4_14 v4_15 v4_16 v4_17 v4_18 v4_19 v4_20 v4_21 v4_22 v4_23 v4_24 v4_25 v4_26 v4_27
        exact hp.down
end MineW
end

section
open PySem PySem.W PyProof.Rows
namespace MineW
theorem join_ab {M : Model} {A : Around} {E : Value → Shared → Prop} {s : Shared} {h₀ : Heap} {L : Addr} {m : Str → Option Value} {t : Sem Flow} {Q : Flow → Shared → Prop}
    (_F : Fr h₀ L s.heap m) (Led : Obj → Obj → List (Addr × Obj))
    (hb : wpAny M A t (fun f s' => f = .next ∧ ∃ (a b : Nat) (h : Heap) (tk : Nat) (t1 t2 : Tok) (o1 o2 : Obj), a ≤ 13 ∧ b ≤ 13 ∧ o1.data = .cell (some (.int (a : Int) t1)) ∧ o2.data = .cell (some (.int (b : Int) t2)) ∧ s' = { s with heap := h, toks := tk } ∧ Fr h₀ L h m ∧ News h₀ L h (Led o1 o2)) E s)
    (hc : ∀ (a b : Nat) (h : Heap) (tk : Nat) (t1 t2 : Tok) (o1 o2 : Obj), a ≤ 13 → b ≤ 13 → o1.data = .cell (some (.int (a : Int) t1)) → o2.data = .cell (some (.int (b : Int) t2)) → Fr h₀ L h m → News h₀ L h (Led o1 o2) → Q .next { s with heap := h, toks := tk }) :
    wpAny M A t Q E s := by
  refine wpAny_mono hb (fun f s' hq => ?_) fun _ _ e => e
  obtain ⟨rfl, a, b, h, tk, t1, t2, o1, o2, ha, hb, e1, e2, rfl, F, N⟩ := hq
  exact hc a b h tk t1 t2 o1 o2 ha hb e1 e2 F N
theorem mod5 (d : Int) (l : List Int) (hl : l = [0, 1, 3, 4, 6, 8, 9, 11, 12, 14] ∨ l = [0, 2, 5, 7, 10, 13, 15, 18, 20, 23]) : ∃ a : Nat, a ≤ 13 ∧ l.getD (1 + d.fmod 5).toNat 0 = (a : Int) ∧ (1 + d.fmod 5).toNat < 10 := by
  have h1 : 0 ≤ d.fmod 5 := Int.fmod_nonneg_of_pos _ (by decide)
  have h2 : d.fmod 5 < 5 := Int.fmod_lt_of_pos _ (by decide)
  generalize d.fmod 5 = k at h1 h2
  have h : k = 0 ∨ k = 1 ∨ k = 2 ∨ k = 3 ∨ k = 4 := by omega
  rcases hl with rfl | rfl <;> rcases h with rfl | rfl | rfl | rfl | rfl <;> exact ⟨_, by decide, rfl, by decide⟩
theorem mod11 (d : Int) : ∃ a : Nat, a ≤ 13 ∧ d.fmod 11 = (a : Int) := by
  have h1 : 0 ≤ d.fmod 11 := Int.fmod_nonneg_of_pos _ (by decide)
  have h2 : d.fmod 11 < 11 := Int.fmod_lt_of_pos _ (by decide)
  exact ⟨(d.fmod 11).toNat, by omega, by omega⟩
end MineW
end

section
theorem MineW.fresh13 : True := by
  w_top off
  trivial
open PySem PySem.W PyProof.Rows
namespace MineW
set_option maxRecDepth 100000 in
set_option maxHeartbeats 8000000 in
noncomputable def cut4 : (P : Prop) ×' (PLift P → cut3.1) := by
  refine' ⟨_, fun hp => _⟩
  rotate_left
  · skip
    intro w
    k_fill
    intro s₀ s₁ mg mb G Y fa o pm doc ho hg KX X V GL T B TE TW v2_0 v2_1 M v2_2 v2_3 hcd v2_4 v2_10 v2_11 v2_12 v2_13 v2_14 K0 hD v2_22 v2_23 c7 c6 c5 c4 c3 c2 c1 d7 d6 d5 qk ek rH rK rT rU rV gg1 ys ds d0 d1 d2 hys v2_27 v2_28 v2_29 v2_31 seed x y hxy hx1 hx2 hy1 hy2 t4 h4 tk4 v2_32 v2_33 v2_34 TT tt1 tt2 hh2 tk2 hLw oLd v3_0 v2_36 v2_37 gg2 ys5 v2_39 v2_40 v2_41 v2_43 v2_44 v2_45 v2_48 v2_49 Lr wr hr Dl vl nl hl tkl Gl hIl hBl n5 n6 n7 hLo oLo dLo v3_1 v3_2 v3_3 gg3 v4_0 v3_5 v3_6 v3_7 Lr2 wr2 hr2 Dh vh nh hh9 tkh Gh hIh hBh m5 m6 m7 hHi oHi dHi tk v3_9 v3_10 v3_11 v3_16 v3_17 v3_18 Ls ws hs hIs hls Dsr vsr csr hsr hsl hIsr hsn hsp hso v4_1 Dsl wsl hsl2 Fsl Nsl hIsl hC1 hL1 hsll hrg tkrg rt1 ru1 rv1 v4_2 aXr Dg usg cg hgg tkg v4_3 hgl hIg v4_4 v4_5 v4_6 v4_7 v4_8 v4_9 lR aXr2 gg4 ys6 hys6 v4_10 v4_11 v4_12 v4_13 v4_14 v4_15 v4_16 v4_17 v4_18 v4_19 v4_20 v4_21 v4_22 v4_23 v4_24 v4_25 v4_26 v4_27
    clear hIs hls hsl hIsr hsn hsp hso v4_1 Fsl Nsl hIsl hC1 hL1 hsll v4_2 aXr v4_3 hgl hIg v4_4 lR aXr2 hys6 v4_13 v4_14 v4_15 v4_21 v4_22
    rename News _ _ _ _ => lN
    replace lN := news_pick lN [1, 2, 3, 4, 5, 6, 7, 8, 9, 10]
    simp only [pick, List.filterMap_cons, List.filterMap_nil, List.getElem?_cons_zero, List.getElem?_cons_succ] at lN
    have nd5 := ne_cell lN (.tail _ (.tail _ (.head _))) (c := s₁.heap.objs.size + 1 + 1 + 1 + 1 + 1) (by k_mem) (by assumption) (by intro v; simp)
    have nd6 := ne_cell lN (.tail _ (.tail _ (.head _))) (c := s₁.heap.objs.size + 1 + 1 + 1 + 1 + 1 + 1) (by k_mem) (by assumption) (by intro v; simp)
    walk_at "W"
    rename Fr _ _ _ _ => lF
    refine join_ab lF (fun o1 o2 => [(Dh, listOf vh.toArray nh), (Dl, listOf vl.toArray nl), (s₁.heap.objs.size + 1 + 1 + 1 + 1 + 1 + 1 + 1, c7), (s₁.heap.objs.size + 1 + 1 + 1 + 1 + 1 + 1, o2), (s₁.heap.objs.size + 1 + 1 + 1 + 1 + 1, o1), (s₁.heap.objs.size + 1 + 1 + 1 + 1, oHi), (s₁.heap.objs.size + 1 + 1 + 1, oLo), (s₁.heap.objs.size + 1 + 1, oLd), (s₁.heap.objs.size + 1, c1)]) ?_ ?_
    · (iterate 13 (walk_at "W"))
      · (iterate 44 (walk_at "W"))
        k_here
        rename_i lT hT FT NT hA oA dA hB oB FB NB dB
        rename Fr _ _ _ _ => lF2
        rename News _ _ _ _ => lN2
        obtain ⟨ea, ha13, eA, _⟩ := mod5 ([d0, d1, d2].getD (Int.toNat 0) 0) [0, 1, 3, 4, 6, 8, 9, 11, 12, 14] (.inl rfl)
        obtain ⟨eb, hb13, eB, _⟩ := mod5 ([d0, d1, d2].getD (Int.toNat 0) 0) [0, 2, 5, 7, 10, 13, 15, 18, 20, 23] (.inr rfl)
        exact ⟨rfl, _, _, _, _, _, _, _, _, ha13, hb13, dA.trans (congrArg (fun z => Data.cell (some (Value.int z _))) eA), dB.trans (congrArg (fun z => Data.cell (some (Value.int z _))) eB), rfl, lF2, cb_drop lN2 (by k_memK)⟩
      · (iterate 15 (walk_at "W"))
        · (iterate 45 (walk_at "W"))
          k_here
          rename_i lT hT FT NT hA oA dA hB oB FB NB dB
          rename Fr _ _ _ _ => lF2
          rename News _ _ _ _ => lN2
          obtain ⟨ea, ha13, eA, _⟩ := mod5 ([d0, d1, d2].getD (Int.toNat 0) 0) [0, 2, 5, 7, 10, 13, 15, 18, 20, 23] (.inr rfl)
          obtain ⟨eb, hb13, eB, _⟩ := mod5 ([d0, d1, d2].getD (Int.toNat 0) 0) [0, 1, 3, 4, 6, 8, 9, 11, 12, 14] (.inl rfl)
          exact ⟨rfl, _, _, _, _, _, _, _, _, ha13, hb13, dA.trans (congrArg (fun z => Data.cell (some (Value.int z _))) eA), dB.trans (congrArg (fun z => Data.cell (some (Value.int z _))) eB), rfl, lF2, cb_drop lN2 (by k_memK)⟩
        · (iterate 33 (walk_at "W"))
          k_here
          rename_i lT hT FT NT hA oA dA hB oB FB NB dB
          rename Fr _ _ _ _ => lF2
          rename News _ _ _ _ => lN2
          obtain ⟨ea, ha13, eA⟩ := mod11 ([d0, d1, d2].getD (Int.toNat 0) 0)
          obtain ⟨eb, hb13, eB⟩ := mod11 ([d0, d1, d2].getD (Int.toNat 1) 0)
          exact ⟨rfl, _, _, _, _, _, _, _, _, ha13, hb13, dA.trans (congrArg (fun z => Data.cell (some (Value.int z _))) eA), dB.trans (congrArg (fun z => Data.cell (some (Value.int z _))) eB), rfl, lF2, cb_drop lN2 (by k_memK)⟩
    · clear lF
      intro a b hab tkab ta tb oA oB ha13 hb13 dA dB lF lN
      (iterate 25 (walk_at "W"))
      k_here
      rename_i v5_0 v5_1 v5_2 v5_3 v5_4 v5_5 v5_6 v5_7 v5_8 v5_9 v5_10 v5_11 v5_12 v5_13 v5_14
      revert w s₀ s₁ mg mb G Y fa o pm doc ho hg KX X V GL T B TE TW v2_0 v2_1 M v2_2 v2_3 hcd v2_4 v2_10 v2_11 v2_12 v2_13 v2_14 K0 hD v2_22 v2_23 c7 c6 c5 c4 c3 c2 c1 d7 d6 d5 qk ek rH rK rT rU rV gg1 ys ds d0 d1 d2 hys v2_27 v2_28 v2_29 v2_31 seed x y hxy hx1 hx2 hy1 hy2 t4 h4 tk4 v2_32 v2_33 v2_34 TT tt1 tt2 hh2 tk2 hLw oLd v3_0 v2_36 v2_37 gg2 ys5 v2_39 v2_40 v2_41 v2_43 v2_44 v2_45 v2_48 v2_49 Lr wr hr Dl vl nl hl tkl Gl hIl hBl n5 n6 n7 hLo oLo dLo v3_1 v3_2 v3_3 gg3 v4_0 v3_5 v3_6 v3_7 Lr2 wr2 hr2 Dh vh nh hh9 tkh Gh hIh hBh m5 m6 m7 hHi oHi dHi tk v3_9 v3_10 v3_11 v3_16 v3_17 v3_18 Ls ws hs Dsr vsr csr hsr Dsl wsl hsl2 hrg tkrg rt1 ru1 rv1 Dg usg cg hgg tkg v4_5 v4_6 v4_7 v4_8 v4_9 gg4 ys6 v4_10 v4_11 v4_12 v4_16 v4_17 v4_18 v4_19 v4_20 v4_23 v4_24 v4_25 v5_0 nd5 nd6 a b hab tkab ta tb oA oB ha13 hb13 dA dB lF lN v5_1 v5_2 v5_3 v5_4 v5_5 v5_6 v5_7 v5_8 v5_9 v5_10 v5_11 v5_12 v5_13 v5_14
      exact hp.down
end MineW
end

section
open PySem PySem.W PyProof.Rows
namespace MineW
theorem fold_blank : ∀ (n : Nat) (acc : Array Nat), (List.replicate n (Str.ofString " ").cps).foldl (· ++ ·) acc = acc ++ (List.replicate n 32).toArray
  | 0, acc => by simp
  | n + 1, acc => by
    rw [List.replicate_succ, List.foldl_cons, fold_blank n]
    rw [show (Str.ofString " ").cps = #[32] from rfl, List.replicate_succ]
    apply Array.toList_inj.mp
    simp
theorem mul_blank (n : Int) : Txt.mul (Str.ofString " ") n = ⟨(List.replicate n.toNat 32).toArray⟩ := by
  unfold Txt.mul
  split
  · rw [show n.toNat = 0 by omega]; rfl
  · split
    · rename_i h1 h2
      have h3 : n = 1 := by
        have : (Str.ofString " ").length = 1 := rfl
        simp [this] at h2
        exact h2
      subst h3; rfl
    · rw [fold_blank]; simp
theorem line_eq (a b : Int) (core : List Nat) : Txt.mul (Str.ofString " ") a ++ ⟨core.toArray⟩ ++ Txt.mul (Str.ofString " ") b = line a.toNat core b.toNat := by
  rw [mul_blank, mul_blank]
  show (⟨(List.replicate a.toNat 32).toArray ++ core.toArray ++ (List.replicate b.toNat 32).toArray⟩ : Str) = _
  simp [line, lineL, sp]
end MineW
end

section
theorem MineW.fresh14 : True := by
  w_top off
  trivial
open PySem PySem.W PyProof.Rows
namespace MineW
abbrev tupE (a : Addr) (l : List Value) : Addr × Obj := (a, tupOf l)
def pairD (p q : Int) : Dat := .tuple [.int p, .int q]
abbrev pairsD : List Dat := [pairD 0 0, pairD 1 2, pairD 3 5, pairD 4 7, pairD 6 10, pairD 8 13, pairD 9 15, pairD 11 18, pairD 12 20, pairD 14 23]
theorem told_tup {a b : Nat} : ∀ {ps : List (Nat × Nat)} {es : Ents}, ToldIs a b ps es → ∀ q ∈ es, ∃ l, q.2 = tupOf l
  | _ :: _, e :: es, ⟨⟨t1, t2, h⟩, r⟩, q, hq => by
    rcases List.mem_cons.mp hq with rfl | hq
    · exact ⟨_, h⟩
    · exact told_tup r q hq
  | [], [], _, _, hq => nomatch hq
  | [], _ :: _, h, _, _ => h.elim
  | _ :: _, [], h, _, _ => h.elim
theorem pairs_take : ∀ (k : Nat), k < 10 → pairsD.take (k + 1) = pairsD.take k ++ [pairD (lowsL.getD (0 + (k : Int)).toNat 0) (highsL.getD (0 + (k : Int)).toNat 0)] := by
  intro k hk
  match k, hk with
  | 0, _ => rfl
  | 1, _ => rfl
  | 2, _ => rfl
  | 3, _ => rfl
  | 4, _ => rfl
  | 5, _ => rfl
  | 6, _ => rfl
  | 7, _ => rfl
  | 8, _ => rfl
  | 9, _ => rfl
theorem word_ends {x y : Nat} (hx1 : 97 ≤ x) (hx2 : x ≤ 122) (z : Nat) (hz : z ≤ 96) : (wordOf x y).head? ≠ some z ∧ (wordOf x y).getLast? ≠ some z := by
  constructor
  · simp [wordOf]; omega
  · simp [wordOf]; omega
set_option maxRecDepth 100000 in
set_option maxHeartbeats 8000000 in
noncomputable def cut5 : (P : Prop) ×' (PLift P → cut4.1) := by
  refine' ⟨_, fun hp => _⟩
  rotate_left
  · skip
    intro w
    k_fill
    intro s₀ s₁ mg mb G Y fa o pm doc ho hg KX X V GL T B TE TW v2_0 v2_1 M v2_2 v2_3 hcd v2_4 v2_10 v2_11 v2_12 v2_13 v2_14 K0 hD v2_22 v2_23 c7 c6 c5 c4 c3 c2 c1 d7 d6 d5 qk ek rH rK rT rU rV gg1 ys ds d0 d1 d2 hys v2_27 v2_28 v2_29 v2_31 seed x y hxy hx1 hx2 hy1 hy2 t4 h4 tk4 v2_32 v2_33 v2_34 TT tt1 tt2 hh2 tk2 hLw oLd v3_0 v2_36 v2_37 gg2 ys5 v2_39 v2_40 v2_41 v2_43 v2_44 v2_45 v2_48 v2_49 Lr wr hr Dl vl nl hl tkl Gl hIl hBl n5 n6 n7 hLo oLo dLo v3_1 v3_2 v3_3 gg3 v4_0 v3_5 v3_6 v3_7 Lr2 wr2 hr2 Dh vh nh hh9 tkh Gh hIh hBh m5 m6 m7 hHi oHi dHi tk v3_9 v3_10 v3_11 v3_16 v3_17 v3_18 Ls ws hs Dsr vsr csr hsr Dsl wsl hsl2 hrg tkrg rt1 ru1 rv1 Dg usg cg hgg tkg v4_5 v4_6 v4_7 v4_8 v4_9 gg4 ys6 v4_10 v4_11 v4_12 v4_16 v4_17 v4_18 v4_19 v4_20 v4_23 v4_24 v4_25 v5_0 nd5 nd6 a b hab tkab ta tb oA oB ha13 hb13 dA dB lF lN v5_1 v5_2 v5_3 v5_4 v5_5 v5_6 v5_7 v5_8 v5_9 v5_10 v5_11 v5_12 v5_13 v5_14
    rw [line_eq]
    rename Fr _ _ _ _ => lF
    rename News _ _ _ _ => lN
    with_unfolding_all refine' told_spec w _ _ _ _ (wordOf x y) a b _ ta tb (by simp) (word_ends hx1 hx2 32 (by decide)).1 (word_ends hx1 hx2 32 (by decide)).2 (word_ends hx1 hx2 9 (by decide)).1 (word_ends hx1 hx2 9 (by decide)).2 ?sa ?sb ?sl _ _ _ _ _ _ _ _ _ _ _ _ _ _ _ _ _ (by k_asm) lF (by k_asm) lN (by k_asm) rfl ?r1 ?r2 ?_
    case sa => omega
    case sb => omega
    case sl => simp
    case r1 => ktr_room
    case r2 => ktr_units
    clear lF lN
    intro Dt es nt ht tkt hES lF lN
    have lN0 : News s₁.heap s₁.heap.objs.size ht ((Dt, listOf (refsOf es).toArray nt) :: (Dh, listOf vh.toArray nh) :: (Dl, listOf vl.toArray nl) :: (s₁.heap.objs.size + 1 + 1 + 1 + 1 + 1 + 1 + 1, c7) :: (s₁.heap.objs.size + 1 + 1 + 1 + 1 + 1 + 1, oB) :: (s₁.heap.objs.size + 1 + 1 + 1 + 1 + 1, oA) :: (s₁.heap.objs.size + 1 + 1 + 1 + 1, oHi) :: (s₁.heap.objs.size + 1 + 1 + 1, oLo) :: (s₁.heap.objs.size + 1 + 1, oLd) :: (s₁.heap.objs.size + 1, c1) :: es) := cb_drop lN (by k_memK)
    clear lN
    have nt7 := ne_cell lN0 (.head _) (c := s₁.heap.objs.size + 1 + 1 + 1 + 1 + 1 + 1 + 1) (by k_mem) (by assumption) (by intro v; simp)
    (iterate 4 (walk_at "W"))
    k_here
    k_dflt (refine LCg.ListComp_U (F₀ := by k_asm) (by with_unfolding_all rfl) (by decide) (by rfl) (by decide) (by rfl) ?_)
    (iterate 7 (walk_at "W"))
    k_here
    rename_i lR lF lN aXr5
    refine LCg.CompSrc.range (n := 10) (by rfl) lF lN lR (by decide) (by decide) (by decide) ?_
    intro gg5
    clear lF lN
    refine comp_range (fun k ys nw => ∃ ps : Ents, nw = ((Dt, listOf (refsOf es).toArray nt) :: (Dh, listOf vh.toArray nh) :: (Dl, listOf vl.toArray nl) :: (s₁.heap.objs.size + 1 + 1 + 1 + 1 + 1 + 1 + 1, c7) :: (s₁.heap.objs.size + 1 + 1 + 1 + 1 + 1 + 1, oB) :: (s₁.heap.objs.size + 1 + 1 + 1 + 1 + 1, oA) :: (s₁.heap.objs.size + 1 + 1 + 1 + 1, oHi) :: (s₁.heap.objs.size + 1 + 1 + 1, oLo) :: (s₁.heap.objs.size + 1 + 1, oLd) :: (s₁.heap.objs.size + 1, c1) :: (ps ++ es)) ∧ DatAll ps ys (pairsD.take k) ∧ (∀ p ∈ ps, ∃ l, p.2 = tupOf l)) ?turn5 ?fin5 _ ⟨[], rfl, .nil, fun _ h => nomatch h⟩
    case turn5 =>
      rintro k t5 ys5 nw I oI C oC D m2 h tk E' hk ⟨ps, rfl, hys5, hps⟩ hC hx lF lN off ne
      (iterate 13 (walk_at "W"))
      k_here
      rename_i tq1 tq2 Tp hTp FTp NTp lq
      refine ⟨hTp, _, (Dt, listOf (refsOf es).toArray nt) :: (Dh, listOf vh.toArray nh) :: (Dl, listOf vl.toArray nl) :: (s₁.heap.objs.size + 1 + 1 + 1 + 1 + 1 + 1 + 1, c7) :: (s₁.heap.objs.size + 1 + 1 + 1 + 1 + 1 + 1, oB) :: (s₁.heap.objs.size + 1 + 1 + 1 + 1 + 1, oA) :: (s₁.heap.objs.size + 1 + 1 + 1 + 1, oHi) :: (s₁.heap.objs.size + 1 + 1 + 1, oLo) :: (s₁.heap.objs.size + 1 + 1, oLd) :: (s₁.heap.objs.size + 1, c1) :: (((Tp, tupOf [.int (lowsL.getD (0 + (k : Int)).toNat 0) tq1, .int (highsL.getD (0 + (k : Int)).toNat 0) tq2]) :: ps) ++ es), rfl, FTp, cb_drop NTp ?sub, LCg.Off3.of ?offp, trivial, _, rfl, ?dat, ?hps⟩
      case sub =>
        k_memK
      case offp =>
        refine List.forall_mem_cons.mpr ⟨off.mem _ (by k_mem), ?_⟩
        iterate 9 refine List.forall_mem_cons.mpr ⟨off.mem _ (by k_mem), ?_⟩
        refine List.forall_mem_append.mpr ⟨List.forall_mem_cons.mpr ⟨⟨(Nat.ne_of_lt lq.1).symm, (Nat.ne_of_lt lq.2.1).symm, (Nat.ne_of_lt lq.2.2.1).symm⟩, fun q hq => off.mem q (by (repeat refine' List.Mem.tail _ ?_); exact List.mem_append_left _ hq)⟩, fun q hq => off.mem q (by (repeat refine' List.Mem.tail _ ?_); exact List.mem_append_right _ hq)⟩
      case dat =>
        rw [pairs_take k hk]
        exact (hys5.mono (fun p hp => .tail _ hp)).append (.cons (.tuple (.head _) (.cons (.int _ _) (.cons (.int _ _) .nil))) .nil)
      case hps =>
        intro q hq
        rcases List.mem_cons.mp hq with rfl | hq
        · exact ⟨_, rfl⟩
        · exact hps q hq
    case fin5 =>
      rintro ys6 nw ⟨ps, rfl, hys6, hps⟩
      walk_at "W"
      k_here
      rename_i Dp hDp tDp FDp NDp oDp
      have np7 := ne_cell NDp (.head _) (c := s₁.heap.objs.size + 1 + 1 + 1 + 1 + 1 + 1 + 1) (by k_mem) (by assumption) (by intro v; simp)
      have htl7 : ∀ p ∈ ps ++ es, p.1 ≠ s₁.heap.objs.size + 1 + 1 + 1 + 1 + 1 + 1 + 1 := fun p hp => ne_cell NDp (o := p.2) (by (repeat refine' List.Mem.tail _ ?_); exact hp) (c := s₁.heap.objs.size + 1 + 1 + 1 + 1 + 1 + 1 + 1) (by k_mem) (by assumption) (by
        intro v
        rcases List.mem_append.mp hp with h | h
        · obtain ⟨l, e⟩ := hps p h; rw [e]; simp
        · obtain ⟨l, e⟩ := told_tup hES p h; rw [e]; simp)
      walk_at "W"
      rename_i hPr oPr FPr NPr dPr
      rename Fr _ _ _ _ => lF
      rename News _ _ _ _ => lN
      have lN9 : News s₁.heap s₁.heap.objs.size hPr ((Dp, listOf ys6.toArray ys6.length) :: (Dt, listOf (refsOf es).toArray nt) :: (s₁.heap.objs.size + 1 + 1 + 1 + 1 + 1 + 1 + 1, oPr) :: (s₁.heap.objs.size + 1 + 1 + 1 + 1 + 1 + 1, oB) :: (s₁.heap.objs.size + 1 + 1 + 1 + 1 + 1, oA) :: (ps ++ es)) := cb_drop lN (by k_memK)
      clear lN
      rename_i v6_0 v6_1 v6_2 v6_3 v6_4 v6_5 v6_6 v6_7
      revert w s₀ s₁ mg mb G Y fa o pm doc ho hg KX X V GL T B TE TW v2_0 v2_1 M v2_2 v2_3 hcd v2_4 v2_10 v2_11 v2_12 v2_13 v2_14 K0 hD v2_22 v2_23 c7 c6 c5 c4 c3 c2 c1 d7 d6 d5 qk ek rH rK rT rU rV gg1 ys ds d0 d1 d2 hys v2_27 v2_28 v2_29 v2_31 seed x y hxy hx1 hx2 hy1 hy2 t4 h4 tk4 v2_32 v2_33 v2_34 TT tt1 tt2 hh2 tk2 hLw oLd v3_0 v2_36 v2_37 gg2 ys5 v2_39 v2_40 v2_41 v2_43 v2_44 v2_45 v2_48 v2_49 Lr wr hr Dl vl nl hl tkl Gl hIl hBl n5 n6 n7 hLo oLo dLo v3_1 v3_2 v3_3 gg3 v4_0 v3_5 v3_6 v3_7 Lr2 wr2 hr2 Dh vh nh hh9 tkh Gh hIh hBh m5 m6 m7 hHi oHi dHi v6_0 v3_9 v3_10 v3_11 v3_16 v3_17 v3_18 Ls ws hs Dsr vsr csr hsr Dsl wsl hsl2 hrg tkrg rt1 ru1 rv1 Dg usg cg hgg tkg v4_5 v4_6 v4_7 v4_8 v4_9 gg4 v6_1 v4_10 v4_11 v4_12 v4_16 v4_17 v4_18 v4_19 v4_20 v4_23 v4_24 v4_25 v5_0 nd5 nd6 a b hab tkab ta tb oA oB ha13 hb13 dA dB v5_1 v5_2 v5_3 v5_4 v5_5 v5_6 v5_7 v5_8 v5_9 v5_10 v5_11 v5_12 v5_13 v5_14 Dt es nt ht tkt hES nt7 v6_2 tk v6_3 v6_4 v6_5 v6_6 v6_7 lR aXr5 gg5 ys6 ps hys6 hps Dp hDp tDp oDp np7 htl7 hPr oPr lF dPr lN9
      exact hp.down
end MineW
end

section
open PySem PySem.W PyProof.Rows
namespace MineW
section
variable {prog : Program} {w : World} {A : Around} {E : Value → Shared → Prop} {s : Shared}
theorem sliceApplied_two {sl : Addr} {u : Tok} {Q : Int × Int × Nat → Shared → Prop} (hs : s.heap.IsSliceOf sl .none (.int 2 u) .none) (h : Q ((0 : Int), 1, 2) s) :
    wpAny (model prog w) A (Builtin.Slice.sliceApplied (.ref sl) (pure ((4 : Nat) : Int))) Q E s := by
  obtain ⟨os, hos, hcs, hds⟩ := id hs
  unfold Builtin.Slice.sliceApplied Builtin.Slice.sliceFields
  refine wpAny_bind (wpAny_bind (wpAny_field hos hds (x := .none) rfl (wpAny_bind (wpAny_field hos hds (x := .int 2 u) rfl (wpAny_bind (wpAny_field hos hds (x := .none) rfl (wpAny_pure ?_)))))))
  refine wpAny_bind (slicePart_none ?_)
  show wpAny _ _ (if ((1 : Int) == 0) = true then _ else _) _ _ s
  rw [if_neg (by decide)]
  refine wpAny_bind (slicePart_none (wpAny_bind (slicePart_int (wpAny_bind (wpAny_pure ?_)))))
  exact wpAny_pure h
theorem getItem_tuple_two {t sl : Addr} {v0 v1 v2 v3 : Value} {u : Tok} {Q : Value → Shared → Prop} (ht : IsTup s.heap t #[v0, v1, v2, v3]) (hs : s.heap.IsSliceOf sl .none (.int 2 u) .none)
    (h : Q (.ref s.heap.objs.size) { s with heap := s.heap.push { cls := .type "tuple", data := .seq #[v0, v1] } }) : wpAny (model prog w) A (getItem (.ref t) (.ref sl)) Q E s := by
  have hdrop : sizeOk (.seq #[v0, v1]) := by
    show (2 : Nat) ≤ sizeLine
    decide
  obtain ⟨os, hos, hcs, hds⟩ := id hs
  have hTs : s.TypeIs (.ref sl) "slice" := ⟨os, hos, hcs⟩
  unfold getItem
  try with_reducible refine wpAny_holding ?_
  first | refine wpAny_bind (wpAny_pure ?_) | skip
  refine wpAny_bind (wpAny_sequenceKey ht.typeIs (by decide) ?_)
  refine wpAny_bind (wpAny_callSpecial?_slot (name := Str.ofString "__getitem__") ht.typeIs slot_tuple_getitem
    (wpAny_call_entry slot_tuple_getitem ht.typeIs entry_tuple_getitem ?_ (args_tuple_getitem _ _)))
  show wpAny _ _ (Builtin.Tuple.tupleItemsOf (.ref t) >>= _) _ _ s
  refine wpAny_bind (tupleItemsOf_ ht ?_)
  refine wpAny_bind (wpAny_typeOf hTs ?_)
  rw [if_pos (by decide)]
  refine wpAny_bind (sliceApplied_two hs ?_)
  show wpAny _ _ (if ((0 : Int) == 0 && (1 : Int) == 1 && (2 : Nat) == 4) = true then _ else _) _ _ s
  rw [if_neg (by decide)]
  rw [show ((List.range 2).filterMap fun (k : Nat) => (#[v0, v1, v2, v3] : Array Value)[((0 : Int) + (k : Int) * 1).toNat]?).toArray = #[v0, v1] from rfl]
  first
    | exact wpAny_bind (m := Builtin.Tuple.tupleExact _) (wpAny_newObj_type (wpAny_pure ⟨_, rfl, wpAny_pure h⟩) hdrop)
    | exact wpAny_bind (m := Builtin.Tuple.tupleExact _) (wpAny_newObj_type (wpAny_bind (wpAny_pure (wpAny_pure ⟨_, rfl, wpAny_pure h⟩))) hdrop)
    | exact wpAny_bind (wpAny_bind (m := Builtin.Tuple.tupleExact _) (wpAny_newObj_type (wpAny_pure (wpAny_pure ⟨_, rfl, wpAny_pure h⟩)) hdrop))
    | exact wpAny_bind (wpAny_bind (m := Builtin.Tuple.tupleExact _) (wpAny_newObj_type (wpAny_pure ⟨_, rfl, wpAny_pure h⟩) hdrop))
end
section
variable {prog : Program} {w : World} {A : Around} {E : Value → Shared → Prop} {s : Shared} {h₀ : Heap} {L : Addr} {m : Str → Option Value} {news : List (Addr × Obj)}
theorem slice_two {value slice : Expr} {t : Addr} {v0 v1 v2 v3 : Value} {u : Tok} {Q : Value → Shared → Prop}
    (F : Fr h₀ L s.heap m) (N : News h₀ L s.heap news) (ht : IsTup s.heap t #[v0, v1, v2, v3])
    (h : ∀ D h', Fr h₀ L h' m → News h₀ L h' ((D, { cls := .type "tuple", data := .seq #[v0, v1] }) :: news) → (∀ p ∈ news, p.1 < D) → Q (.ref D) { s with heap := h' })
    (hs : subscripted slice false (.ref t) (.ref s.heap.objs.size) = operate [.ref s.heap.objs.size, .ref t] (getItem (.ref t) (.ref s.heap.objs.size)))
    (hg : ∀ r, letTemporaryGo value (.ref t) r = pure ()) :
    wpAny (model prog w) A (subscriptTail value slice (.ref t) (.ref s.heap.objs.size)) Q E { s with heap := s.heap.push { cls := .type "slice", data := .fields #[.none, .int 2 u, .none] } } := by
  have ht' : IsTup (s.heap.push { cls := .type "slice", data := .fields #[.none, .int 2 u, .none] }) t #[v0, v1, v2, v3] := ht.keeps fun _ _ e => Heap.get?_push_of_some _ e
  refine subscriptTail_ops (s := { s with heap := s.heap.push { cls := .type "slice", data := .fields #[.none, .int 2 u, .none] } }) ht'.typeIs slot_tuple_getitem.lookup
    (getItem_tuple_two ht' (Heap.IsSliceOf.new ..) ?_) hs hg
  have N1 := News.push (F.push { cls := .type "slice", data := .fields #[.none, .int 2 u, .none] }) (N.grown fun _ _ e => Heap.get?_push_of_some _ e) { cls := .type "tuple", data := .seq #[v0, v1] }
  rw [Heap.size_push] at N1
  show Q (.ref (s.heap.push _).objs.size) _
  rw [Heap.size_push]
  exact h _ _ ((F.push _).push _) N1 fun p hp => Nat.lt_succ_of_lt (Heap.lt_size (N p hp).1)
end
end MineW
end

section
open PySem PySem.W PyProof.Rows
open PySem.Builtin
namespace MineW
section
variable {prog : Program} {w : World} {A : Around} {E : Value → Shared → Prop} {s : Shared} {h₀ : Heap} {L T : Addr} {m : Str → Option Value} {news : List (Addr × Obj)} {x y : Int} {t u : Tok} {Q : Value → Shared → Prop}
theorem min_tup2 (hh : A.handled = none) (F : Fr h₀ L s.heap m) (N : News h₀ L s.heap news) (hl : s.heap.IsTuple T (intItems #[(x, t), (y, u)]))
    (h : ∀ h' t tk, Fr h₀ L h' m → News h₀ L h' news → Q (.int (min x y) t) { s with heap := h', toks := tk }) : wpAny (model prog w) A (call (.builtin "min") [.ref T]) Q E s := by
  have hlt : T < s.heap.objs.size := by obtain ⟨_, e, _⟩ := hl; exact Heap.lt_size e
  refine call_min_walk (wpAny_pyIter_tuple hl ?_)
  refine ⟨_, [_, T], [_], _, _, _, _, rfl, Walks.tuple (A := A.in1) hh _ T (Nat.ne_of_lt hlt) (intItems #[(x, t), (y, u)]), ⟨⟨_, Heap.get?_push_size _ rfl, rfl, rfl⟩, hl.push _⟩, fun c hc => ?_, by simp [intItems], CmpOf.ints_lt (numAt #[(x, t), (y, u)]) (fun _ _ => intItems_at), fun v h' tk hP hk => ?_⟩
  · show c < (s.heap.push _).objs.size
    rw [Heap.size_push]
    rcases List.mem_cons.mp hc with rfl | hc
    · exact Nat.lt_succ_self _
    · rw [List.mem_singleton.mp hc]; exact Nat.lt_succ_of_lt hlt
  · have hold : ∀ c o, s.heap.get? c = some o → h'.get? c = some o := fun c o e => by
      refine hk c o (fun hm => ?_) (Heap.get?_push_of_some _ e)
      rw [List.mem_singleton.mp hm] at e
      exact Nat.lt_irrefl _ (Heap.lt_size e)
    obtain ⟨t', rfl⟩ := intItems_at hP
    obtain ⟨h1, h2⟩ := argBest_lt (numAt #[(x, t), (y, u)]) 1
    have e : numAt #[(x, t), (y, u)] (argBest (fun i j => decide (numAt #[(x, t), (y, u)] i < numAt #[(x, t), (y, u)] j)) 1) = min x y := by
      have q0 := h2 0 (by omega)
      have q1 := h2 1 (by omega)
      have z0 : numAt #[(x, t), (y, u)] 0 = x := rfl
      have z1 : numAt #[(x, t), (y, u)] 1 = y := rfl
      rw [z0] at q0
      rw [z1] at q1
      generalize argBest (fun i j => decide (numAt #[(x, t), (y, u)] i < numAt #[(x, t), (y, u)] j)) 1 = k at h1 q0 q1 ⊢
      have hk2 : k = 0 ∨ k = 1 := by omega
      rcases hk2 with rfl | rfl
      · rw [z0] at q1 ⊢; omega
      · rw [z1] at q0 ⊢; omega
    have hsz1 : (intItems #[(x, t), (y, u)]).size - 1 = 1 := by simp [intItems]
    have := h h' t' tk (F.keeps hold) (N.grown hold)
    rw [← e] at this
    first | exact this | (rw [hsz1]; exact this)
theorem max_tup2 (hh : A.handled = none) (F : Fr h₀ L s.heap m) (N : News h₀ L s.heap news) (hl : s.heap.IsTuple T (intItems #[(x, t), (y, u)]))
    (h : ∀ h' t tk, Fr h₀ L h' m → News h₀ L h' news → Q (.int (max x y) t) { s with heap := h', toks := tk }) : wpAny (model prog w) A (call (.builtin "max") [.ref T]) Q E s := by
  have hlt : T < s.heap.objs.size := by obtain ⟨_, e, _⟩ := hl; exact Heap.lt_size e
  refine call_max_walk (wpAny_pyIter_tuple hl ?_)
  refine ⟨_, [_, T], [_], _, _, _, _, rfl, Walks.tuple (A := A.in1) hh _ T (Nat.ne_of_lt hlt) (intItems #[(x, t), (y, u)]), ⟨⟨_, Heap.get?_push_size _ rfl, rfl, rfl⟩, hl.push _⟩, fun c hc => ?_, by simp [intItems], CmpOf.ints_gt (numAt #[(x, t), (y, u)]) (fun _ _ => intItems_at), fun v h' tk hP hk => ?_⟩
  · show c < (s.heap.push _).objs.size
    rw [Heap.size_push]
    rcases List.mem_cons.mp hc with rfl | hc
    · exact Nat.lt_succ_self _
    · rw [List.mem_singleton.mp hc]; exact Nat.lt_succ_of_lt hlt
  · have hold : ∀ c o, s.heap.get? c = some o → h'.get? c = some o := fun c o e => by
      refine hk c o (fun hm => ?_) (Heap.get?_push_of_some _ e)
      rw [List.mem_singleton.mp hm] at e
      exact Nat.lt_irrefl _ (Heap.lt_size e)
    obtain ⟨t', rfl⟩ := intItems_at hP
    obtain ⟨h1, h2⟩ := argBest_gt (numAt #[(x, t), (y, u)]) 1
    have e : numAt #[(x, t), (y, u)] (argBest (fun i j => decide (numAt #[(x, t), (y, u)] i > numAt #[(x, t), (y, u)] j)) 1) = max x y := by
      have q0 := h2 0 (by omega)
      have q1 := h2 1 (by omega)
      have z0 : numAt #[(x, t), (y, u)] 0 = x := rfl
      have z1 : numAt #[(x, t), (y, u)] 1 = y := rfl
      rw [z0] at q0
      rw [z1] at q1
      generalize argBest (fun i j => decide (numAt #[(x, t), (y, u)] i > numAt #[(x, t), (y, u)] j)) 1 = k at h1 q0 q1 ⊢
      have hk2 : k = 0 ∨ k = 1 := by omega
      rcases hk2 with rfl | rfl
      · rw [z0] at q1 ⊢; omega
      · rw [z1] at q0 ⊢; omega
    have hsz1 : (intItems #[(x, t), (y, u)]).size - 1 = 1 := by simp [intItems]
    have := h h' t' tk (F.keeps hold) (N.grown hold)
    rw [← e] at this
    first | exact this | (rw [hsz1]; exact this)
end
end MineW
end

section
theorem MineW.fresh15 : True := by
  w_top off
  trivial
open PySem PySem.W PyProof.Rows
namespace MineW
def pairsN : List (Nat × Nat) := [(0, 0), (1, 2), (3, 5), (4, 7), (6, 10), (8, 13), (9, 15), (11, 18), (12, 20), (14, 23)]
def goodP (p : Nat × Nat) : Bool := pairsN.contains (min p.1 p.2, max p.1 p.2)
theorem told_len {a b : Nat} : ∀ {ps : List (Nat × Nat)} {es : Ents}, ToldIs a b ps es → es.length = ps.length
  | _ :: _, _ :: _, ⟨_, r⟩ => by simp [told_len r]
  | [], [], _ => rfl
  | [], _ :: _, h => h.elim
  | _ :: _, [], h => h.elim
theorem moves_len (a b : Nat) (ha : a ≤ 13) (hb : b ≤ 13) : (movesOf a b).length ≤ 39 := by
  simp only [movesOf, List.length_append, List.length_map, List.length_range]; omega
theorem in_pairs {p : Nat × Nat} {inst : Decidable (pairD (min (p.1 : Int) (p.2 : Int)) (max (p.1 : Int) (p.2 : Int)) ∈ List.take 10 pairsD)} : @decide _ inst = goodP p := by
  have h : pairD (min (p.1 : Int) (p.2 : Int)) (max (p.1 : Int) (p.2 : Int)) ∈ List.take 10 pairsD ↔ goodP p = true := by
    rw [show List.take 10 pairsD = pairsN.map (fun q => pairD (q.1 : Int) (q.2 : Int)) from rfl, goodP, List.contains_iff_mem, List.mem_map]
    constructor
    · rintro ⟨⟨q1, q2⟩, hq, e⟩
      simp only [pairD, Dat.tuple.injEq, List.cons.injEq, Dat.int.injEq, and_true] at e
      have e1 : q1 = min p.1 p.2 := by omega
      have e2 : q2 = max p.1 p.2 := by omega
      rw [← e1, ← e2]; exact hq
    · intro hq
      refine ⟨_, hq, ?_⟩
      have e1 : ((min p.1 p.2 : Nat) : Int) = min (p.1 : Int) (p.2 : Int) := by omega
      have e2 : ((max p.1 p.2 : Nat) : Int) = max (p.1 : Int) (p.2 : Int) := by omega
      show pairD ((min p.1 p.2 : Nat) : Int) ((max p.1 p.2 : Nat) : Int) = _
      rw [e1, e2]
  by_cases hg : goodP p = true
  · rw [hg]; exact decide_eq_true (h.mpr hg)
  · rw [Bool.not_eq_true] at hg
    rw [hg]
    exact decide_eq_false fun hx => by rw [h.mp hx] at hg; cases hg
set_option maxRecDepth 100000 in
set_option maxHeartbeats 8000000 in
noncomputable def cut6 : (P : Prop) ×' (PLift P → cut5.1) := by
  refine' ⟨_, fun hp => _⟩
  rotate_left
  · skip
    intro w
    k_fill
    intro s₀ s₁ mg mb G Y fa o pm doc ho hg KX X V GL T B TE TW v2_0 v2_1 M v2_2 v2_3 hcd v2_4 v2_10 v2_11 v2_12 v2_13 v2_14 K0 hD v2_22 v2_23 c7 c6 c5 c4 c3 c2 c1 d7 d6 d5 qk ek rH rK rT rU rV gg1 ys ds d0 d1 d2 hys v2_27 v2_28 v2_29 v2_31 seed x y hxy hx1 hx2 hy1 hy2 t4 h4 tk4 v2_32 v2_33 v2_34 TT tt1 tt2 hh2 tk2 hLw oLd v3_0 v2_36 v2_37 gg2 ys5 v2_39 v2_40 v2_41 v2_43 v2_44 v2_45 v2_48 v2_49 Lr wr hr Dl vl nl hl tkl Gl hIl hBl n5 n6 n7 hLo oLo dLo v3_1 v3_2 v3_3 gg3 v4_0 v3_5 v3_6 v3_7 Lr2 wr2 hr2 Dh vh nh hh9 tkh Gh hIh hBh m5 m6 m7 hHi oHi dHi v6_0 v3_9 v3_10 v3_11 v3_16 v3_17 v3_18 Ls ws hs Dsr vsr csr hsr Dsl wsl hsl2 hrg tkrg rt1 ru1 rv1 Dg usg cg hgg tkg v4_5 v4_6 v4_7 v4_8 v4_9 gg4 v6_1 v4_10 v4_11 v4_12 v4_16 v4_17 v4_18 v4_19 v4_20 v4_23 v4_24 v4_25 v5_0 nd5 nd6 a b hab tkab ta tb oA oB ha13 hb13 dA dB v5_1 v5_2 v5_3 v5_4 v5_5 v5_6 v5_7 v5_8 v5_9 v5_10 v5_11 v5_12 v5_13 v5_14 Dt es nt ht tkt hES nt7 v6_2 tk v6_3 v6_4 v6_5 v6_6 v6_7 lR aXr5 gg5 ys6 ps hys6 hps Dp hDp tDp oDp np7 htl7 hPr oPr lF dPr lN9
    clear v5_0 nd5 nd6 v5_3 v5_4 v5_7 v5_10 v5_11 v5_14 nt7 lR aXr5 oDp np7 htl7 hIl hIh d5 d6 d7 n5 n6 n7 m5 m6 m7 dLo dHi
    walk_at "W"
    k_dflt (refine LCt.Assign_ListComp_T (F₀ := by k_asm) rfl (by rfl) (by with_unfolding_all rfl) (by decide) (by rfl) (by decide) (by rfl) (by rfl) (by rfl) ?_)
    walk_at "W"
    k_here
    have hml := moves_len a b ha13 hb13
    have hel := told_len hES
    refine LCt.CompSrcT.ledger (by rfl) lF lN9 (.tail _ (.head _)) (by rw [List.size_toArray, List.length_map, hel]; unfold sizeLine; omega) ?_
    intro gg6
    refine comp_listT (fun vr yr nw => ∃ (m1 m2 : List (Nat × Nat)) (e2 g : Ents), movesOf a b = m1 ++ m2 ∧ ToldIs a b m2 e2 ∧ (∀ p ∈ e2, p ∈ es) ∧ vr = refsOf e2 ∧ yr = refsOf g ∧ ToldIs a b (m1.filter goodP) g ∧ (∀ p ∈ g, p ∈ es) ∧
      nw = ((Dp, listOf ys6.toArray ys6.length) :: (Dt, listOf (refsOf es).toArray nt) :: (s₁.heap.objs.size + 1 + 1 + 1 + 1 + 1 + 1 + 1, oPr) :: (s₁.heap.objs.size + 1 + 1 + 1 + 1 + 1 + 1, oB) :: (s₁.heap.objs.size + 1 + 1 + 1 + 1 + 1, oA) :: (ps ++ es))) ?turn6 ?fin6 _ ⟨[], _, es, [], rfl, hES, fun _ h => h, rfl, rfl, trivial, (fun _ h => nomatch h), rfl⟩
    case turn6 =>
      clear lF lN9
      rintro v vr ys7 nw I oI C oC D m2' h tk E' ⟨m1, m2, e2, g, hm, hT2, he2, hvr, rfl, hTg, hg2, rfl⟩ hC hx lF lN off ne
      cases e2 with
      | nil => cases hvr
      | cons e e2 =>
      cases m2 with
      | nil => exact hT2.elim
      | cons p m2 =>
      obtain ⟨eT, eO⟩ := e
      obtain ⟨⟨u1, u2, rfl⟩, hT2⟩ := hT2
      simp only [List.map_cons, List.cons.injEq] at hvr
      obtain ⟨rfl, rfl⟩ := hvr
      have lN1 := news_cons lN (e := (eT, tupOf [.int (p.1 : Nat) u1, .int (p.2 : Nat) u2, .bool (decide (p.1 < a)), .bool (decide (p.2 < b))])) (by (repeat refine' List.Mem.tail _ ?_); exact List.mem_append_right _ (he2 _ (.head _))) lN
      clear lN
      (iterate 14 (walk_at "W"))
      k_here
      rename Fr _ _ _ _ => lF3
      with_unfolding_all refine' slice_two (s := ⟨_, _, _, _, _⟩) lF3 lN1 (News.isTup lN1 (.head _)) ?_ ?hs1 ?hg1
      case hs1 => with_unfolding_all rfl
      case hg1 => intro _; with_unfolding_all rfl
      clear lF3
      intro Da1 ha1 lF3 lN2 hlt1
      walk_at "W"
      k_here
      refine min_tup2 (x := (p.1 : Nat)) (y := (p.2 : Nat)) (t := u1) (u := u2) (by rfl) lF3 lN2 ⟨_, (lN2 _ (.head _)).1, rfl, 0, by simp [PySem.intItems]⟩ ?_
      clear lF3
      intro ha2 tm1 tkm1 lF3 lN3
      (iterate 12 (walk_at "W"))
      k_here
      with_unfolding_all refine' slice_two (s := ⟨_, _, _, _, _⟩) lF3 lN3 (News.isTup lN3 (.tail _ (.head _))) ?_ ?hs2 ?hg2
      case hs2 => with_unfolding_all rfl
      case hg2 => intro _; with_unfolding_all rfl
      clear lF3
      intro Da2 ha3 lF3 lN4 hlt2
      walk_at "W"
      k_here
      refine max_tup2 (x := (p.1 : Nat)) (y := (p.2 : Nat)) (t := u1) (u := u2) (by rfl) lF3 lN4 ⟨_, (lN4 _ (.head _)).1, rfl, 0, by simp [PySem.intItems]⟩ ?_
      clear lF3
      intro ha4 tm2 tkm2 lF3 lN5
      (iterate 3 (walk_at "W"))
      k_here
      rename Fr _ _ _ _ => lF4
      rename News _ _ _ _ => lN6
      refine kqd_isIn (ds := List.take 10 pairsD) (d := pairD (min (p.1 : Int) (p.2 : Int)) (max (p.1 : Int) (p.2 : Int))) lN6 (oa := listOf ys6.toArray ys6.length) (by k_mem) rfl rfl hys6 (by intro q hq; simp [hq]) (n₂ := _) (DatIn.tuple (.head _) (.cons (.int _ _) (.cons (.int _ _) .nil))) (fun _ h => h) (by decide) rfl ?hu6 ?_
      case hu6 => ktr_units
      rw [in_pairs]
      cases hgd : goodP p with
      | true =>
        (iterate 3 (walk_at "W"))
        k_here
        refine ⟨_, _, _, rfl, lF4, cb_drop lN6 (by k_memK), off, .inr ⟨_, .tail _ (.head _), rfl, _, rfl⟩, m1 ++ [p], m2, e2, g ++ [(eT, tupOf [.int (p.1 : Nat) u1, .int (p.2 : Nat) u2, .bool (decide (p.1 < a)), .bool (decide (p.2 < b))])], by simp [hm], hT2, fun q hq => he2 q (.tail _ hq), rfl, by simp [refsOf], ?_, ?_, rfl⟩
        · rw [List.filter_append, List.filter_cons_of_pos hgd, List.filter_nil]
          exact hTg.snoc ⟨u1, u2, rfl⟩
        · intro q hq
          rcases List.mem_append.mp hq with hq | hq
          · exact hg2 q hq
          · rw [List.mem_singleton.mp hq]; exact he2 _ (.head _)
      | false =>
        (iterate 2 (walk_at "W"))
        k_here
        refine ⟨_, _, _, rfl, lF4, cb_drop lN6 (by k_memK), off, .inr ⟨_, .tail _ (.head _), rfl, _, rfl⟩, m1 ++ [p], m2, e2, g, by simp [hm], hT2, fun q hq => he2 q (.tail _ hq), rfl, rfl, ?_, hg2, rfl⟩
        rw [List.filter_append, List.filter_cons_of_neg (by rw [hgd]; decide), List.filter_nil, List.append_nil]
        exact hTg
    case fin6 =>
      clear lF lN9
      rintro yr nw ⟨m1, m2, e2, g, hm, hT2, he2, hvr, rfl, hTg, hg2, rfl⟩
      obtain rfl : e2 = [] := by cases e2 with | nil => rfl | cons _ _ => cases hvr
      obtain rfl : m2 = [] := by cases m2 with | nil => rfl | cons _ _ => exact hT2.elim
      rw [List.append_nil] at hm
      subst hm
      walk_at "W"
      k_here
      rename_i v7_0 v7_1 v7_2 v7_3 v7_4 v7_5
      revert w s₀ s₁ mg mb G Y fa o pm doc ho hg KX X V GL T B TE TW v2_0 v2_1 M v2_2 v2_3 hcd v2_4 v2_10 v2_11 v2_12 v2_13 v2_14 K0 hD v2_22 v2_23 c7 c6 c5 c4 c3 c2 c1 qk ek rH rK rT rU rV gg1 ys ds d0 d1 d2 hys v2_27 v2_28 v2_29 v2_31 seed x y hxy hx1 hx2 hy1 hy2 t4 h4 tk4 v2_32 v2_33 v2_34 TT tt1 tt2 hh2 tk2 hLw oLd v3_0 v2_36 v2_37 gg2 ys5 v2_39 v2_40 v2_41 v2_43 v2_44 v2_45 v2_48 v2_49 Lr wr hr Dl vl nl hl tkl Gl hBl hLo oLo v3_1 v3_2 v3_3 gg3 v4_0 v3_5 v3_6 v3_7 Lr2 wr2 hr2 Dh vh nh hh9 tkh Gh hBh hHi oHi v6_0 v3_9 v3_10 v3_11 v3_16 v3_17 v3_18 Ls ws hs Dsr vsr csr hsr Dsl wsl hsl2 hrg tkrg rt1 ru1 rv1 Dg usg cg hgg tkg v4_5 v4_6 v4_7 v4_8 v4_9 gg4 v6_1 v4_10 v4_11 v4_12 v4_16 v4_17 v4_18 v4_19 v4_20 v4_23 v4_24 v4_25 a b hab tkab ta tb oA oB ha13 hb13 dA dB v5_1 v5_2 v5_5 v5_6 v5_8 v5_9 v5_12 v5_13 Dt es nt ht tkt hES v6_2 tk v6_3 v6_4 v6_5 v6_6 v6_7 gg5 ys6 ps hys6 hps Dp hDp tDp hPr oPr dPr hml hel gg6 g hg2 he2 hvr hT2 hTg v7_0 v7_1 v7_2 v7_3 v7_4 v7_5
      exact hp.down
end MineW
end

section
open PySem PySem.W PyProof.Rows
namespace MineW
abbrev Quad := Int × Int × Bool × Bool
def di (q : Quad) : PyData := .tuple [.int q.1, .int q.2.1, .bool q.2.2.1, .bool q.2.2.2]
def DI : List Quad → Ents → Prop
  | [], [] => True
  | q :: qs, e :: es => (∃ t1 t2, e.2 = tupOf [.int q.1 t1, .int q.2.1 t2, .bool q.2.2.1, .bool q.2.2.2]) ∧ DI qs es
  | _, _ => False
theorem DI.append : ∀ {qs rs : List Quad} {es fs : Ents}, DI qs es → DI rs fs → DI (qs ++ rs) (es ++ fs)
  | [], _, [], _, _, h => h
  | _ :: _, _, _ :: _, _, ⟨h, r⟩, k => ⟨h, DI.append r k⟩
  | [], _, _ :: _, _, h, _ => h.elim
  | _ :: _, _, [], _, h, _ => h.elim
abbrev toldQ (a b : Nat) (p : Nat × Nat) : Quad := ((p.1 : Int), (p.2 : Int), decide (p.1 < a), decide (p.2 < b))
theorem told_di {a b : Nat} : ∀ {ps : List (Nat × Nat)} {es : Ents}, ToldIs a b ps es → DI (ps.map (toldQ a b)) es
  | [], [], _ => trivial
  | _ :: _, _ :: _, ⟨h, r⟩ => ⟨h, told_di r⟩
  | [], _ :: _, h => h.elim
  | _ :: _, [], h => h.elim
theorem DI.len : ∀ {qs : List Quad} {es : Ents}, DI qs es → es.length = qs.length
  | [], [], _ => rfl
  | _ :: _, _ :: _, ⟨_, r⟩ => by simp [DI.len r]
  | [], _ :: _, h => h.elim
  | _ :: _, [], h => h.elim
theorem di_reads {h₀ h : Heap} {L : Addr} {news : Ents} (N : News h₀ L h news) : ∀ {qs : List Quad} {es : Ents}, DI qs es → (∀ e ∈ es, e ∈ news) → ∃ as, ReadsAll h (refsOf es) (qs.map di) as
  | [], [], _, _ => ⟨_, .nil⟩
  | q :: qs, e :: es, ⟨⟨t1, t2, he⟩, r⟩, hm => by
    obtain ⟨as, ra⟩ := di_reads N r fun x hx => hm x (.tail _ hx)
    have hg := (N _ (hm _ (.head _))).1
    rw [he] at hg
    refine ⟨_, .cons (reads_tuple_at hg rfl rfl (.cons (.int _ _) (.cons (.int _ _) (.cons (.bool _) (.cons (.bool _) .nil))))) ra⟩
  | [], _ :: _, h, _ => h.elim
  | _ :: _, [], h, _ => h.elim
theorem di_lay : ∀ qs : List Quad, PyData.canLayAll0 (qs.map di) = true ∧ PyData.depthAll (qs.map di) ≤ 4
  | [] => ⟨rfl, by simp [PyData.depthAll]⟩
  | q :: qs => by
    obtain ⟨h1, h2⟩ := di_lay qs
    constructor
    · simp [PyData.canLayAll0, di, PyData.canLay0, h1]
    · simp [PyData.depthAll, di, PyData.depth] at h2 ⊢
      omega
theorem di_shaped (qs : List Quad) : SeqAt.shaped (.list (qs.map di)) = true := by
  obtain ⟨h1, h2⟩ := di_lay qs
  unfold SeqAt.shaped
  rw [Bool.and_eq_true]
  refine ⟨by simpa [PyData.canLay0] using h1, decide_eq_true ?_⟩
  simp [PyData.depth]
  omega
section
variable {prog : Program} {w : World} {A : Around} {E : Value → Shared → Prop} {s : Shared} {h₀ : Heap} {L a b : Addr} {news : Ents} {Q : Value → Shared → Prop} {qs : List Quad} {es fs : Ents} {n k : Nat}
theorem di_ne (N : News h₀ L s.heap news) (ma : (a, listOf (refsOf es).toArray n) ∈ news) (mb : (b, listOf (refsOf fs).toArray k) ∈ news) (ha : DI qs es) (hb : DI qs fs) (ia : ∀ e ∈ es, e ∈ news) (ib : ∀ e ∈ fs, e ∈ news) (hu : A.units + 64 < cLine)
    (h : Q (.bool false) s) : wpAny (model prog w) A (compareOp .NotEq (.ref a) (.ref b)) Q E s := by
  obtain ⟨as, ra⟩ := di_reads N ha ia
  obtain ⟨bs, rb⟩ := di_reads N hb ib
  refine ne_dataH (reads_list_at (N _ ma).1 rfl rfl (by simpa using ra)) (reads_list_at (N _ mb).1 rfl rfl (by simpa using rb)) (di_shaped qs) (di_shaped qs) hu ?_
  rw [SeqAt.eqv_refl _ (by have := di_lay qs; simpa [PyData.canLay0] using this.1)]
  exact h
theorem di_nil (N : News h₀ L s.heap news) (ma : (a, listOf (refsOf es).toArray n) ∈ news) (mb : (b, listOf #[] k) ∈ news) (ha : DI qs es) (ia : ∀ e ∈ es, e ∈ news) (hu : A.units + 64 < cLine)
    (h : Q (.bool (decide (qs = []))) s) : wpAny (model prog w) A (compareOp .Eq (.ref a) (.ref b)) Q E s := by
  obtain ⟨as, ra⟩ := di_reads N ha ia
  refine eq_dataH (reads_list_at (N _ ma).1 rfl rfl (by simpa using ra)) (reads_list_at (N _ mb).1 rfl rfl (by exact ReadsAll.nil)) (di_shaped qs) (di_shaped []) hu ?_
  cases qs with
  | nil => simpa [PyData.eqv, PyData.eqvAll] using h
  | cons q qs => simpa [PyData.eqv, PyData.eqvAll] using h
end
theorem moves_due (a b : Nat) : (movesOf a b).map (toldQ a b) = (List.range a).map (fun j : Nat => (((a : Int) - (1 + (j : Int)), (b : Int), true, false) : Quad)) ++ (List.range b).map (fun j : Nat => (((a : Int), (b : Int) - (1 + (j : Int)), false, true) : Quad)) ++
    (List.range (min a b)).map (fun j : Nat => (((a : Int) - (1 + (j : Int)), (b : Int) - (1 + (j : Int)), true, true) : Quad)) := by
  simp only [movesOf, List.map_append, List.map_map]
  congr 1
  · congr 1
    · apply List.map_congr_left
      intro j hj
      have := List.mem_range.mp hj
      simp only [Function.comp, toldQ, Prod.mk.injEq]
      refine ⟨by omega, trivial, by simp; omega, by simp⟩
    · apply List.map_congr_left
      intro j hj
      have := List.mem_range.mp hj
      simp only [Function.comp, toldQ, Prod.mk.injEq]
      refine ⟨trivial, by omega, by simp, by simp; omega⟩
  · apply List.map_congr_left
    intro j hj
    have := List.mem_range.mp hj
    simp only [Function.comp, toldQ, Prod.mk.injEq]
    refine ⟨by omega, by omega, by simp; omega, by simp; omega⟩
theorem wythoff : ∀ a b : Fin 14, goodP (a.val, b.val) = decide ((movesOf a.val b.val).filter goodP = []) := by decide +kernel
theorem min_max_if (a b : Nat) : (if (b : Int) < (a : Int) then (b : Int) else (a : Int)) = min (a : Int) (b : Int) ∧ (if (b : Int) > (a : Int) then (b : Int) else (a : Int)) = max (a : Int) (b : Int) := by
  constructor <;> split <;> omega
end MineW
end

section
theorem MineW.fresh16 : True := by
  w_top off
  trivial
open PySem PySem.W PyProof.Rows
namespace MineW
theorem in_pairs_if {a b : Nat} {inst : Decidable (pairD (if (b : Int) < (a : Int) then (b : Int) else (a : Int)) (if (b : Int) > (a : Int) then (b : Int) else (a : Int)) ∈ List.take 10 pairsD)} : @decide _ inst = goodP (a, b) := by
  have h1 := (min_max_if a b).1
  have h2 := (min_max_if a b).2
  revert inst
  rw [h1, h2]
  intro inst
  exact in_pairs (p := (a, b))
theorem good_law {a b : Nat} (ha : a ≤ 13) (hb : b ≤ 13) {inst : Decidable (((movesOf a b).filter goodP).map (toldQ a b) = [])} : @decide _ inst = goodP (a, b) := by
  have h := wythoff ⟨a, by omega⟩ ⟨b, by omega⟩
  dsimp only at h
  rw [h]
  by_cases e : (movesOf a b).filter goodP = []
  · rw [decide_eq_true e]; exact decide_eq_true (by rw [e]; rfl)
  · rw [decide_eq_false e]; exact decide_eq_false fun x => e (List.map_eq_nil_iff.mp x)
set_option maxRecDepth 100000 in
set_option maxHeartbeats 8000000 in
noncomputable def cut7 : (P : Prop) ×' (PLift P → cut6.1) := by
  refine' ⟨_, fun hp => _⟩
  rotate_left
  · skip
    intro w
    k_fill
    intro s₀ s₁ mg mb G Y fa o pm doc ho hg KX X V GL T B TE TW v2_0 v2_1 M v2_2 v2_3 hcd v2_4 v2_10 v2_11 v2_12 v2_13 v2_14 K0 hD v2_22 v2_23 c7 c6 c5 c4 c3 c2 c1 qk ek rH rK rT rU rV gg1 ys ds d0 d1 d2 hys v2_27 v2_28 v2_29 v2_31 seed x y hxy hx1 hx2 hy1 hy2 t4 h4 tk4 v2_32 v2_33 v2_34 TT tt1 tt2 hh2 tk2 hLw oLd v3_0 v2_36 v2_37 gg2 ys5 v2_39 v2_40 v2_41 v2_43 v2_44 v2_45 v2_48 v2_49 Lr wr hr Dl vl nl hl tkl Gl hBl hLo oLo v3_1 v3_2 v3_3 gg3 v4_0 v3_5 v3_6 v3_7 Lr2 wr2 hr2 Dh vh nh hh9 tkh Gh hBh hHi oHi v6_0 v3_9 v3_10 v3_11 v3_16 v3_17 v3_18 Ls ws hs Dsr vsr csr hsr Dsl wsl hsl2 hrg tkrg rt1 ru1 rv1 Dg usg cg hgg tkg v4_5 v4_6 v4_7 v4_8 v4_9 gg4 v6_1 v4_10 v4_11 v4_12 v4_16 v4_17 v4_18 v4_19 v4_20 v4_23 v4_24 v4_25 a b hab tkab ta tb oA oB ha13 hb13 dA dB v5_1 v5_2 v5_5 v5_6 v5_8 v5_9 v5_12 v5_13 Dt es nt ht tkt hES v6_2 tk v6_3 v6_4 v6_5 v6_6 v6_7 gg5 ys6 ps hys6 hps Dp hDp tDp hPr oPr dPr hml hel gg6 g hg2 he2 hvr hT2 hTg v7_0 v7_1 v7_2 v7_3 v7_4 v7_5
    (iterate 28 (walk_at "W"))
    k_here
    rename Fr _ _ _ _ => lF
    rename News _ _ _ _ => lN
    refine kqd_isIn (ds := List.take 10 pairsD) (d := pairD (if (b : Int) < (a : Int) then (b : Int) else (a : Int)) (if (b : Int) > (a : Int) then (b : Int) else (a : Int))) lN (oa := listOf ys6.toArray ys6.length) (by k_mem) rfl rfl hys6 (by intro q hq; simp [hq]) (n₂ := _) (DatIn.tuple (.head _) (.cons (.int _ _) (.cons (.int _ _) .nil))) (fun _ h => h) (by decide) rfl ?hu7 ?_
    case hu7 => ktr_units
    rw [in_pairs_if]
    (iterate 5 (walk_at "W"))
    k_here
    rename Fr _ _ _ _ => lF
    rename News _ _ _ _ => lN2
    refine di_nil (qs := (List.filter goodP (movesOf a b)).map (toldQ a b)) (es := g) lN2 (by k_mem) (.head _) (told_di hTg) (by intro e he; have := hg2 e he; simp [this]) ?hu8 ?_
    case hu8 => ktr_units
    rw [good_law ha13 hb13]
    walk_at "W"
    rw [show (goodP (a, b) != goodP (a, b)) = false from bne_self_eq_false _]
    (iterate 3 (walk_at "W"))
    have lN3 := cb_drop (news := (Dt, listOf (refsOf es).toArray nt) :: (s₁.heap.objs.size + 1 + 1 + 1 + 1 + 1 + 1, oB) :: (s₁.heap.objs.size + 1 + 1 + 1 + 1 + 1, oA) :: es) lN2 (by k_memK)
    clear lN2
    rename_i v8_0 v8_1 v8_2 v8_3 v8_4 v8_5 v8_6 v8_7 v8_8 v8_9 v8_10
    revert w s₀ s₁ mg mb G Y fa o pm doc ho hg KX X V GL T B TE TW v2_0 v2_1 M v2_2 v2_3 hcd v2_4 v2_10 v2_11 v2_12 v2_13 v2_14 K0 hD v2_22 v2_23 c7 c6 c5 c4 c3 c2 c1 qk ek rH rK rT rU rV gg1 ys ds d0 d1 d2 hys v2_27 v2_28 v2_29 v2_31 seed x y hxy hx1 hx2 hy1 hy2 t4 h4 tk4 v2_32 v2_33 v2_34 TT tt1 tt2 hh2 tk2 hLw oLd v3_0 v2_36 v2_37 gg2 ys5 v2_39 v2_40 v2_41 v2_43 v2_44 v2_45 v2_48 v2_49 Lr wr hr Dl vl nl hl tkl Gl hBl hLo oLo v3_1 v3_2 v3_3 gg3 v4_0 v3_5 v3_6 v3_7 Lr2 wr2 hr2 Dh vh nh hh9 tkh Gh hBh hHi oHi v6_0 v3_9 v3_10 v3_11 v3_16 v3_17 v3_18 Ls ws hs Dsr vsr csr hsr Dsl wsl hsl2 hrg tkrg rt1 ru1 rv1 Dg usg cg hgg tkg v4_5 v4_6 v4_7 v4_8 v4_9 gg4 v6_1 v4_10 v4_11 v4_12 v4_16 v4_17 v4_18 v4_19 v4_20 v4_23 v4_24 v4_25 a b hab tkab ta tb oA oB ha13 hb13 dA dB v5_1 v5_2 v5_5 v5_6 v5_8 v5_9 v5_12 v5_13 Dt es nt ht tkt hES v6_2 v8_0 v6_3 v6_4 v6_5 v6_6 v6_7 gg5 ys6 ps hys6 hps Dp hDp tDp hPr oPr dPr hml hel gg6 g hg2 he2 hvr hT2 hTg v7_0 v7_1 v7_2 v7_5 v8_1 v8_2 v8_3 v8_4 v8_5 v8_6 v8_7 v8_8 v8_9 lF v8_10 tk lN3
    exact hp.down
end MineW
end

section
open PySem PySem.W PyProof.Rows
namespace MineW
theorem due_step {h₀ h' : Heap} {L I C D T : Addr} {m : Str → Option Value} {s₁ : Shared} {tk : Nat} {oI oC o : Obj} {bs ds es : Ents} {qs : List Quad} {q : Quad}
    (F : Fr h₀ L h' m) (N : News h₀ L h' ((T, o) :: (I, oI) :: (C, oC) :: (D, LCg.lst (refsOf ds)) :: (bs ++ (ds ++ es)))) (lI : @LT.lt Nat _ I T) (lC : @LT.lt Nat _ C T) (lD : @LT.lt Nat _ D T)
    (off : LCg.Off3 I C D (bs ++ (ds ++ es))) (ho : ∃ t1 t2, o = tupOf [.int q.1 t1, .int q.2.1 t2, .bool q.2.2.1, .bool q.2.2.2]) (hDI : DI qs ds) :
    LCg.CompEnd h₀ L m s₁ I oI C oC D (LCg.lst (refsOf ds)) (fun _ => True) (fun y news' => ∃ ds', news' = bs ++ (ds' ++ es) ∧ refsOf ds ++ [y] = refsOf ds' ∧ DI (qs ++ [q]) ds') (.ref T) { s₁ with heap := h', toks := tk } := by
  refine ⟨h', tk, bs ++ ((ds ++ [(T, o)]) ++ es), rfl, F, cb_drop N ?_, LCg.Off3.of ?_, trivial, ds ++ [(T, o)], rfl, by simp [refsOf], hDI.append ⟨ho, trivial⟩⟩
  · intro p hp
    simp only [List.mem_cons, List.mem_append, List.not_mem_nil, or_false] at hp ⊢
    rcases hp with h | h | h | h | (h | h) | h <;> simp [h]
  · intro p hp
    simp only [List.mem_cons, List.mem_append, List.not_mem_nil, or_false] at hp
    have hO : ∀ p ∈ bs ++ (ds ++ es), p.1 ≠ I ∧ p.1 ≠ C ∧ p.1 ≠ D := off.mem
    rcases hp with h | (h | rfl) | h
    · exact hO p (by simp [h])
    · exact hO p (by simp [h])
    · exact ⟨(Nat.ne_of_lt lI).symm, (Nat.ne_of_lt lC).symm, (Nat.ne_of_lt lD).symm⟩
    · exact hO p (by simp [h])
theorem range_snoc {α : Type} (f : Nat → α) (k : Nat) : (List.range (k + 1)).map f = (List.range k).map f ++ [f k] := by simp [List.range_succ]
end MineW
end

section
theorem MineW.fresh17 : True := by
  w_top off
  trivial
open PySem PySem.W PyProof.Rows
namespace MineW
theorem di_cls : ∀ {qs : List Quad} {es : Ents}, DI qs es → ∀ e ∈ es, e.2.cls = .type "tuple"
  | _ :: _, e :: es, ⟨⟨t1, t2, h⟩, r⟩, q, hq => by
    rcases List.mem_cons.mp hq with rfl | hq
    · rw [h]
    · exact di_cls r q hq
  | [], [], _, _, hq => nomatch hq
  | [], _ :: _, h, _, _ => h.elim
  | _ :: _, [], h, _, _ => h.elim
set_option maxRecDepth 100000 in
set_option maxHeartbeats 8000000 in
noncomputable def cut8 : (P : Prop) ×' (PLift P → cut7.1) := by
  refine' ⟨_, fun hp => _⟩
  rotate_left
  · skip
    intro w
    k_fill
    intro s₀ s₁ mg mb G Y fa o pm doc ho hg KX X V GL T B TE TW v2_0 v2_1 M v2_2 v2_3 hcd v2_4 v2_10 v2_11 v2_12 v2_13 v2_14 K0 hD v2_22 v2_23 c7 c6 c5 c4 c3 c2 c1 qk ek rH rK rT rU rV gg1 ys ds d0 d1 d2 hys v2_27 v2_28 v2_29 v2_31 seed x y hxy hx1 hx2 hy1 hy2 t4 h4 tk4 v2_32 v2_33 v2_34 TT tt1 tt2 hh2 tk2 hLw oLd v3_0 v2_36 v2_37 gg2 ys5 v2_39 v2_40 v2_41 v2_43 v2_44 v2_45 v2_48 v2_49 Lr wr hr Dl vl nl hl tkl Gl hBl hLo oLo v3_1 v3_2 v3_3 gg3 v4_0 v3_5 v3_6 v3_7 Lr2 wr2 hr2 Dh vh nh hh9 tkh Gh hBh hHi oHi v6_0 v3_9 v3_10 v3_11 v3_16 v3_17 v3_18 Ls ws hs Dsr vsr csr hsr Dsl wsl hsl2 hrg tkrg rt1 ru1 rv1 Dg usg cg hgg tkg v4_5 v4_6 v4_7 v4_8 v4_9 gg4 v6_1 v4_10 v4_11 v4_12 v4_16 v4_17 v4_18 v4_19 v4_20 v4_23 v4_24 v4_25 a b hab tkab ta tb oA oB ha13 hb13 dA dB v5_1 v5_2 v5_5 v5_6 v5_8 v5_9 v5_12 v5_13 Dt es nt ht tkt hES v6_2 v8_0 v6_3 v6_4 v6_5 v6_6 v6_7 gg5 ys6 ps hys6 hps Dp hDp tDp hPr oPr dPr hml hel gg6 g hg2 he2 hvr hT2 hTg v7_0 v7_1 v7_2 v7_5 v8_1 v8_2 v8_3 v8_4 v8_5 v8_6 v8_7 v8_8 v8_9 lF v8_10 tk lN3
    clear hys6 hps dPr he2 hvr hT2 hTg hg2 v7_5 v8_7 v8_10
    (iterate 2 (walk_at "W"))
    k_dflt (refine LCg.Assign_ListComp_U (F₀ := by k_asm) rfl (by rfl) (by with_unfolding_all rfl) (by decide) (by rfl) (by decide) (by rfl) (by rfl) (by rfl) ?_)
    (iterate 12 (walk_at "W"))
    k_here
    rename_i lR lF lN aXr8
    refine LCg.CompSrc.range (n := a) (by rfl) lF lN lR (small_one (by omega) (by omega) (by omega) (by omega)) (rng1 a) (by unfold sizeLine; omega) ?_
    intro gg8
    clear lF lN
    refine comp_range (fun k ys nw => ∃ da : Ents, nw = ([(Dt, listOf (refsOf es).toArray nt), (s₁.heap.objs.size + 1 + 1 + 1 + 1 + 1 + 1, oB), (s₁.heap.objs.size + 1 + 1 + 1 + 1 + 1, oA)] ++ (da ++ (es))) ∧ ys = refsOf da ∧ DI ((List.range k).map (fun j : Nat => (((a : Int) - (1 + (j : Int)), (b : Int), true, false) : Quad))) da) ?turn8 ?fin8 _ ⟨[], rfl, rfl, trivial⟩
    case turn8 =>
      rintro k t5 ys5 nw I oI C oC D m2 h tk E' hk ⟨dz, rfl, rfl, hDI⟩ hC hx lF lN off ne
      dsimp only [List.cons_append, List.nil_append] at lN off
      (iterate 14 (walk_at "W"))
      k_here
      rename_i Tp hTp FTp NTp lq
      rw [range_snoc]
      exact due_step (bs := [(Dt, listOf (refsOf es).toArray nt), (s₁.heap.objs.size + 1 + 1 + 1 + 1 + 1 + 1, oB), (s₁.heap.objs.size + 1 + 1 + 1 + 1 + 1, oA)]) (es := es) FTp NTp lq.1 lq.2.1 lq.2.2.1 off ⟨_, _, rfl⟩ hDI
    case fin8 =>
      rintro ys8 nw ⟨da, rfl, rfl, hDI8⟩
      dsimp only [List.cons_append, List.nil_append]
      walk_at "W"
      k_here
      rename_i D1 hD1 tD1 FD1 ND1 oD1
      (iterate 3 (walk_at "W"))
      k_here
      k_dflt (refine LCg.ListComp_U (F₀ := by k_asm) (by with_unfolding_all rfl) (by decide) (by rfl) (by decide) (by rfl) ?_)
      (iterate 12 (walk_at "W"))
      k_here
      rename_i lR lF lN aXr9
      refine LCg.CompSrc.range (n := b) (by rfl) lF lN lR (small_one (by omega) (by omega) (by omega) (by omega)) (rng1 b) (by unfold sizeLine; omega) ?_
      intro gg9
      clear lF lN
      refine comp_range (fun k ys nw => ∃ db : Ents, nw = ([(D1, listOf (refsOf da).toArray (refsOf da).length), (Dt, listOf (refsOf es).toArray nt), (s₁.heap.objs.size + 1 + 1 + 1 + 1 + 1 + 1, oB), (s₁.heap.objs.size + 1 + 1 + 1 + 1 + 1, oA)] ++ (db ++ (da ++ es))) ∧ ys = refsOf db ∧ DI ((List.range k).map (fun j : Nat => (((a : Int), (b : Int) - (1 + (j : Int)), false, true) : Quad))) db) ?turn9 ?fin9 _ ⟨[], rfl, rfl, trivial⟩
      case turn9 =>
        rintro k t5 ys5 nw I oI C oC D m2 h tk E' hk ⟨dz, rfl, rfl, hDI⟩ hC hx lF lN off ne
        dsimp only [List.cons_append, List.nil_append] at lN off
        (iterate 14 (walk_at "W"))
        k_here
        rename_i Tp hTp FTp NTp lq
        rw [range_snoc]
        exact due_step (bs := [(D1, listOf (refsOf da).toArray (refsOf da).length), (Dt, listOf (refsOf es).toArray nt), (s₁.heap.objs.size + 1 + 1 + 1 + 1 + 1 + 1, oB), (s₁.heap.objs.size + 1 + 1 + 1 + 1 + 1, oA)]) (es := da ++ es) FTp NTp lq.1 lq.2.1 lq.2.2.1 off ⟨_, _, rfl⟩ hDI
      case fin9 =>
        rintro ys9 nw ⟨db, rfl, rfl, hDI9⟩
        dsimp only [List.cons_append, List.nil_append]
        walk_at "W"
        k_here
        rename_i D2 hD2 tD2 FD2 ND2 oD2
        have hTD := told_di hES
        have hl8 : da.length = a := by rw [hDI8.len]; simp
        have hl9 : db.length = b := by rw [hDI9.len]; simp
        have hoffA : ∀ p ∈ (Dt, listOf (refsOf es).toArray nt) :: (s₁.heap.objs.size + 1 + 1 + 1 + 1 + 1 + 1, oB) :: (s₁.heap.objs.size + 1 + 1 + 1 + 1 + 1, oA) :: (db ++ (da ++ es)), p.1 ≠ D1 := by
          refine List.forall_mem_cons.mpr ⟨oD1.1, List.forall_mem_cons.mpr ⟨oD1.2.1, List.forall_mem_cons.mpr ⟨oD1.2.2.1, List.forall_mem_append.mpr ⟨?ha, List.forall_mem_append.mpr ⟨?hb, ?hc⟩⟩⟩⟩⟩
          case ha => exact fun p h => News.ne_of_cls (q := p) ND2 (by (repeat refine' List.Mem.tail _ ?_); exact List.mem_append_left _ h) (.tail _ (.head _)) (by rw [di_cls hDI9 p h]; simp)
          case hb => exact fun p h => News.ne_of_cls (q := p) ND2 (by (repeat refine' List.Mem.tail _ ?_); exact List.mem_append_right _ (List.mem_append_left _ h)) (.tail _ (.head _)) (by rw [di_cls hDI8 p h]; simp)
          case hc => exact fun p h => News.ne_of_cls (q := p) ND2 (by (repeat refine' List.Mem.tail _ ?_); exact List.mem_append_right _ (List.mem_append_right _ h)) (.tail _ (.head _)) (by rw [di_cls hTD p h]; simp)
        with_unfolding_all refine' iadd_lists2 FD2 ND2 oD2.1.symm hoffA ?szA ?szB ?_
        case szA => simp; omega
        case szB => simp; omega
        intro hA nA lF lN
        rw [show (refsOf da).toArray ++ (refsOf db).toArray = (refsOf (da ++ db)).toArray from by simp [refsOf]] at lN
        clear FD2 ND2
        (iterate 5 (walk_at "W"))
        k_here
        k_dflt (refine LCg.ListComp_U (F₀ := by k_asm) (by with_unfolding_all rfl) (by decide) (by rfl) (by decide) (by rfl) ?_)
        (iterate 20 (walk_at "W"))
        k_here
        rename_i lR lF9 lN9' aXr10
        refine LCg.CompSrc.range (n := min a b) (by rfl) lF9 lN9' lR (small_one (by omega) (by omega) (by split <;> omega) (by split <;> omega)) (rng2 a b) (by unfold sizeLine; omega) ?_
        intro gg10
        clear lF9 lN9'
        refine comp_range (fun k ys nw => ∃ dc : Ents, nw = ([(D1, listOf (refsOf (da ++ db)).toArray nA), (Dt, listOf (refsOf es).toArray nt), (s₁.heap.objs.size + 1 + 1 + 1 + 1 + 1 + 1, oB), (s₁.heap.objs.size + 1 + 1 + 1 + 1 + 1, oA)] ++ (dc ++ (db ++ (da ++ es)))) ∧ ys = refsOf dc ∧ DI ((List.range k).map (fun j : Nat => (((a : Int) - (1 + (j : Int)), (b : Int) - (1 + (j : Int)), true, true) : Quad))) dc) ?turn10 ?fin10 _ ⟨[], rfl, rfl, trivial⟩
        case turn10 =>
          rintro k t5 ys5 nw I oI C oC D m2 h tk E' hk ⟨dz, rfl, rfl, hDI⟩ hC hx lF lN off ne
          dsimp only [List.cons_append, List.nil_append] at lN off
          (iterate 17 (walk_at "W"))
          k_here
          rename_i Tp hTp FTp NTp lq
          rw [range_snoc]
          exact due_step (bs := [(D1, listOf (refsOf (da ++ db)).toArray nA), (Dt, listOf (refsOf es).toArray nt), (s₁.heap.objs.size + 1 + 1 + 1 + 1 + 1 + 1, oB), (s₁.heap.objs.size + 1 + 1 + 1 + 1 + 1, oA)]) (es := db ++ (da ++ es)) FTp NTp lq.1 lq.2.1 lq.2.2.1 off ⟨_, _, rfl⟩ hDI
        case fin10 =>
          rintro ys10 nw ⟨dc, rfl, rfl, hDI10⟩
          dsimp only [List.cons_append, List.nil_append]
          walk_at "W"
          k_here
          rename_i D3 hD3 tD3 FD3 ND3 oD3
          have hl10 : dc.length = min a b := by rw [hDI10.len]; simp
          have hoffB : ∀ p ∈ (Dt, listOf (refsOf es).toArray nt) :: (s₁.heap.objs.size + 1 + 1 + 1 + 1 + 1 + 1, oB) :: (s₁.heap.objs.size + 1 + 1 + 1 + 1 + 1, oA) :: (dc ++ (db ++ (da ++ es))), p.1 ≠ D1 := by
            refine List.forall_mem_cons.mpr ⟨oD1.1, List.forall_mem_cons.mpr ⟨oD1.2.1, List.forall_mem_cons.mpr ⟨oD1.2.2.1, List.forall_mem_append.mpr ⟨?hd1, List.forall_mem_append.mpr ⟨?ha1, List.forall_mem_append.mpr ⟨?hb1, ?hc1⟩⟩⟩⟩⟩⟩
            case hd1 => exact fun p h => News.ne_of_cls (q := p) ND3 (by (repeat refine' List.Mem.tail _ ?_); exact List.mem_append_left _ h) (.tail _ (.head _)) (by rw [di_cls hDI10 p h]; simp)
            case ha1 => exact fun p h => News.ne_of_cls (q := p) ND3 (by (repeat refine' List.Mem.tail _ ?_); exact List.mem_append_right _ (List.mem_append_left _ h)) (.tail _ (.head _)) (by rw [di_cls hDI9 p h]; simp)
            case hb1 => exact fun p h => News.ne_of_cls (q := p) ND3 (by (repeat refine' List.Mem.tail _ ?_); exact List.mem_append_right _ (List.mem_append_right _ (List.mem_append_left _ h))) (.tail _ (.head _)) (by rw [di_cls hDI8 p h]; simp)
            case hc1 => exact fun p h => News.ne_of_cls (q := p) ND3 (by (repeat refine' List.Mem.tail _ ?_); exact List.mem_append_right _ (List.mem_append_right _ (List.mem_append_right _ h))) (.tail _ (.head _)) (by rw [di_cls hTD p h]; simp)
          with_unfolding_all refine' iadd_lists2 FD3 ND3 oD3.1.symm hoffB ?szC ?szD ?_
          case szC => simp; omega
          case szD => simp; omega
          intro hB nB lF8 lN8
          rw [show (refsOf (da ++ db)).toArray ++ (refsOf dc).toArray = (refsOf (da ++ db ++ dc)).toArray from by simp [refsOf]] at lN8
          clear FD3 ND3
          walk_at "W"
          rename Fr _ _ _ _ => lF11
          rename News _ _ _ _ => lN11
          have hDue : DI ((movesOf a b).map (toldQ a b)) (da ++ db ++ dc) := by
            rw [moves_due]; exact (hDI8.append hDI9).append hDI10
          rename_i v9_0 v9_1 v9_2 v9_3 v9_4 v9_5 v9_6 v9_7 v9_8 v9_9 v9_10 v9_11 v9_12 v9_13 v9_14 v9_15 v9_16 v9_17 v9_18 v9_19 v9_20 v9_21 v9_22 v9_23 v9_24 v9_25
          revert w s₀ s₁ mg mb G Y fa o pm doc ho hg KX X V GL T B TE TW v2_0 v2_1 M v2_2 v2_3 hcd v2_4 v2_10 v2_11 v2_12 v2_13 v2_14 K0 hD v2_22 v2_23 c7 c6 c5 c4 c3 c2 c1 qk ek rH rK rT rU rV gg1 ys ds d0 d1 d2 hys v2_27 v2_28 v2_29 v2_31 seed x y hxy hx1 hx2 hy1 hy2 t4 h4 tk4 v2_32 v2_33 v2_34 TT tt1 tt2 hh2 tk2 hLw oLd v3_0 v2_36 v2_37 gg2 ys5 v2_39 v2_40 v2_41 v2_43 v2_44 v2_45 v2_48 v2_49 Lr wr hr Dl vl nl hl tkl Gl hBl hLo oLo v3_1 v3_2 v3_3 gg3 v4_0 v3_5 v3_6 v3_7 Lr2 wr2 hr2 Dh vh nh hh9 tkh Gh hBh hHi oHi v6_0 v3_9 v3_10 v3_11 v3_16 v3_17 v3_18 Ls ws hs Dsr vsr csr hsr Dsl wsl hsl2 hrg tkrg rt1 ru1 rv1 Dg usg cg hgg tkg v4_5 v4_6 v4_7 v4_8 v4_9 gg4 v6_1 v4_10 v4_11 v4_12 v4_16 v4_17 v4_18 v4_19 v4_20 v4_23 v4_24 v4_25 a b hab tkab ta tb oA oB ha13 hb13 dA dB v5_1 v5_2 v5_5 v5_6 v5_8 v5_9 v5_12 v5_13 Dt es nt ht tkt hES v6_2 v8_0 v6_3 v6_4 v6_5 v6_6 v6_7 gg5 ys6 ps Dp hDp tDp hPr oPr hml hel gg6 g v7_0 v7_1 v7_2 v8_1 v8_2 v8_3 v8_4 v8_5 v8_6 v8_8 v8_9 v9_0 v9_1 v9_2 v9_3 v9_4 v9_5 v9_6 v9_7 v9_8 aXr8 gg8 da hDI8 D1 hD1 tD1 v9_9 v9_10 oD1 v9_11 v9_12 v9_13 v9_14 v9_15 v9_16 aXr9 gg9 db hDI9 D2 hD2 tD2 oD2 hTD hl8 hl9 hoffA hA nA lF lN v9_17 tk v9_18 v9_19 v9_20 v9_21 v9_22 v9_23 v9_24 lR aXr10 gg10 dc hDI10 D3 hD3 tD3 oD3 hl10 hoffB hB nB v9_25 lF11 lN11 hDue
          exact hp.down
end MineW
end

section
open PySem PySem.W PyProof.Rows PySem.TypeEq
open Sem (wp)
set_option maxRecDepth 100000
namespace MineW
theorem slot_type_ne : Slot "type" (cmpInfo .NotEq).2.1 "object.__ne__" :=
  .of (owner := "object") (n := "__ne__") (by rw [typeLookup_type, builtinLookup_eq_fast]; kernel_rfl) (by decide +kernel) (by decide +kernel) (by decide +kernel)
    (by first | exact .inl (by decide +kernel) | exact .inr (by decide +kernel)) (by rw [isSubtype_type]; kernel_rfl)
section
variable {prog : Program} {w : World} {A : Around} {E : Value → Shared → Prop} {s : Shared} {Q : Value → Shared → Prop}
theorem call_eq_type {X : String} (hX : ∀ s' : Shared, s'.TypeIs (.type X) "type") {Q : Value → Shared → Prop} (h : Q (.bool true) s) : wpAny (model prog w) A (call (.builtin "object.__eq__") [.type X, .type X]) Q E s :=
  call_gives slot_type_eq (hX s) F.entry_object_eq (F.args_object_eq_2 _ _) (object_eq_same rfl (by simp)) h
theorem ne_type_same {X : String} (hX : ∀ s' : Shared, s'.TypeIs (.type X) "type") (h : Q (.bool false) s) : wpAny (model prog w) A (compareOp .NotEq (.type X) (.type X)) Q E s := by
  show wpAny _ A (richCompare .NotEq _ _) Q E s
  refine wpAny_richCompare_same (T := "type") (hX s) (hX s) slot_type_ne (wpAny_call_entry slot_type_ne (hX s) F.cmpEntry_ne ?_ (F.cmpArgs_ne _ _))
  have hq : (Value.bool false) ≠ .notImplemented ∧ Q (.bool false) s := ⟨(by intro e; cases e), h⟩
  unfold Builtin.«object.__ne__»
  repeat (first
    | with_reducible refine wpAny_cRoomFor_or (.inl rfl) ?_
    | (refine wpAny_bind (m := cRoomFor _ _) (wpAny_cRoomFor_or (.inl rfl) ?_))
    | (refine wpAny_bind (m := callSpecialIfBound? (.type X) (Str.ofString "__eq__") [.type X])
        (wpAny_callSpecialIfBound?_slot (hX _) slot_type_eq (call_eq_type hX (by
          repeat (first | exact ⟨_, rfl, hq⟩ | exact wpAny_pure ⟨_, rfl, hq⟩ | exact wpAny_truthy_bool (wpAny_pure ⟨_, rfl, hq⟩) | (refine wpAny_bind (m := truthy (.bool _)) (wpAny_truthy_bool ?_)) | wp_step)))))
    | wp_step)
theorem mb (s' : Shared) : s'.TypeIs (.type "bool") "type" := PySem.TypeEq.meta_bool s'
theorem ne_bool_bool (h : Q (.bool false) s) : wpAny (model prog w) A (compareOp .NotEq (.type "bool") (.type "bool")) Q E s := @ne_type_same prog w A E s Q "bool" mb h
end
end MineW
end

section
theorem MineW.fresh18 : True := by
  w_top off
  trivial
open PySem PySem.W PyProof.Rows
namespace MineW
set_option maxRecDepth 100000 in
set_option maxHeartbeats 8000000 in
noncomputable def cut9 : (P : Prop) ×' (PLift P → cut8.1) := by
  refine' ⟨_, fun hp => _⟩
  rotate_left
  · skip
    intro w
    k_fill
    intro s₀ s₁ mg mb G Y fa o pm doc ho hg KX X V GL T B TE TW v2_0 v2_1 M v2_2 v2_3 hcd v2_4 v2_10 v2_11 v2_12 v2_13 v2_14 K0 hD v2_22 v2_23 c7 c6 c5 c4 c3 c2 c1 qk ek rH rK rT rU rV gg1 ys ds d0 d1 d2 hys v2_27 v2_28 v2_29 v2_31 seed x y hxy hx1 hx2 hy1 hy2 t4 h4 tk4 v2_32 v2_33 v2_34 TT tt1 tt2 hh2 tk2 hLw oLd v3_0 v2_36 v2_37 gg2 ys5 v2_39 v2_40 v2_41 v2_43 v2_44 v2_45 v2_48 v2_49 Lr wr hr Dl vl nl hl tkl Gl hBl hLo oLo v3_1 v3_2 v3_3 gg3 v4_0 v3_5 v3_6 v3_7 Lr2 wr2 hr2 Dh vh nh hh9 tkh Gh hBh hHi oHi v6_0 v3_9 v3_10 v3_11 v3_16 v3_17 v3_18 Ls ws hs Dsr vsr csr hsr Dsl wsl hsl2 hrg tkrg rt1 ru1 rv1 Dg usg cg hgg tkg v4_5 v4_6 v4_7 v4_8 v4_9 gg4 v6_1 v4_10 v4_11 v4_12 v4_16 v4_17 v4_18 v4_19 v4_20 v4_23 v4_24 v4_25 a b hab tkab ta tb oA oB ha13 hb13 dA dB v5_1 v5_2 v5_5 v5_6 v5_8 v5_9 v5_12 v5_13 Dt es nt ht tkt hES v6_2 v8_0 v6_3 v6_4 v6_5 v6_6 v6_7 gg5 ys6 ps Dp hDp tDp hPr oPr hml hel gg6 g v7_0 v7_1 v7_2 v8_1 v8_2 v8_3 v8_4 v8_5 v8_6 v8_8 v8_9 v9_0 v9_1 v9_2 v9_3 v9_4 v9_5 v9_6 v9_7 v9_8 aXr8 gg8 da hDI8 D1 hD1 tD1 v9_9 v9_10 oD1 v9_11 v9_12 v9_13 v9_14 v9_15 v9_16 aXr9 gg9 db hDI9 D2 hD2 tD2 oD2 hTD hl8 hl9 hoffA hA nA lF lN v9_17 tk v9_18 v9_19 v9_20 v9_21 v9_22 v9_23 v9_24 lR aXr10 gg10 dc hDI10 D3 hD3 tD3 oD3 hl10 hoffB hB nB v9_25 lF11 lN11 hDue
    clear v9_0 v9_2 v9_8 aXr8 hDI8 v9_9 v9_10 oD1 v9_16 aXr9 hDI9 oD2 hTD hl8 hl9 hoffA lF lN lR aXr10 hDI10 oD3 hl10 hoffB
    (iterate 6 (walk_at "W"))
    k_here
    refine di_ne (qs := (movesOf a b).map (toldQ a b)) (es := es) (fs := da ++ db ++ dc) lN11 (.tail _ (.head _)) (.head _) (told_di hES) hDue (by k_memK) (by k_memK) ?hu9 ?_
    case hu9 => ktr_units
    have lN12 := cb_drop (news := (Dt, listOf (refsOf es).toArray nt) :: (s₁.heap.objs.size + 1 + 1 + 1 + 1 + 1 + 1, oB) :: (s₁.heap.objs.size + 1 + 1 + 1 + 1 + 1, oA) :: es) lN11 (by k_memK)
    clear lN11
    (iterate 4 (walk_at "W"))
    k_here
    k_dflt (refine LCt.ListComp_T (F₀ := by k_asm) (by with_unfolding_all rfl) (by decide) (by rfl) (by decide) (by rfl) ?_)
    walk_at "W"
    k_here
    refine LCt.CompSrcT.ledger (by rfl) lF11 lN12 (.head _) (by rw [List.size_toArray, List.length_map, hel]; unfold sizeLine; omega) ?_
    intro gg11
    refine comp_listT (fun vr yr nw => ∃ (m2 : List (Nat × Nat)) (e2 : Ents), ToldIs a b m2 e2 ∧ (∀ p ∈ e2, p ∈ es) ∧ vr = refsOf e2 ∧ yr = [] ∧
      nw = ((Dt, listOf (refsOf es).toArray nt) :: (s₁.heap.objs.size + 1 + 1 + 1 + 1 + 1 + 1, oB) :: (s₁.heap.objs.size + 1 + 1 + 1 + 1 + 1, oA) :: es)) ?turn11 ?fin11 _ ⟨_, es, hES, fun _ h => h, rfl, rfl, rfl⟩
    case turn11 =>
      clear lF11 lN12
      rintro v vr ys7 nw I oI C oC D m2' h tk E' ⟨m2, e2, hT2, he2, hvr, rfl, rfl⟩ hC hx lF lN off ne
      cases e2 with
      | nil => cases hvr
      | cons e e2 =>
      cases m2 with
      | nil => exact hT2.elim
      | cons p m2 =>
      obtain ⟨eT, eO⟩ := e
      obtain ⟨⟨u1, u2, rfl⟩, hT2⟩ := hT2
      simp only [List.map_cons, List.cons.injEq] at hvr
      obtain ⟨rfl, rfl⟩ := hvr
      have lN1 := news_cons lN (e := (eT, tupOf [.int (p.1 : Nat) u1, .int (p.2 : Nat) u2, .bool (decide (p.1 < a)), .bool (decide (p.2 < b))])) (by (repeat refine' List.Mem.tail _ ?_); exact he2 _ (.head _)) lN
      clear lN
      (iterate 14 (walk_at "W"))
      refine ne_bool_bool ?_
      (iterate 16 (walk_at "W"))
      k_here
      refine ne_bool_bool ?_
      (iterate 4 (walk_at "W"))
      k_here
      refine ⟨_, _, _, rfl, lF, cb_drop lN1 (by k_memK), off, .inr ⟨_, .head _, rfl, _, rfl⟩, m2, e2, hT2, fun q hq => he2 q (.tail _ hq), rfl, by trivial, rfl⟩
    case fin11 =>
      clear lF11 lN12
      rintro yr nw ⟨m2, e2, hT2, he2, hvr, rfl, rfl⟩
      (iterate 10 (walk_at "W"))
      rename Fr _ _ _ _ => lF12
      rename News _ _ _ _ => lN13
      have lN14 := cb_drop (news := (s₁.heap.objs.size + 1 + 1 + 1 + 1 + 1 + 1, oB) :: (s₁.heap.objs.size + 1 + 1 + 1 + 1 + 1, oA) :: []) lN13 (by k_memK)
      clear lN13
      rename_i v10_0 v10_1 v10_2 v10_3 v10_4 v10_5 v10_6
      revert w s₀ s₁ mg mb G Y fa o pm doc ho hg KX X V GL T B TE TW v2_0 v2_1 M v2_2 v2_3 hcd v2_4 v2_10 v2_11 v2_12 v2_13 v2_14 K0 hD v2_22 v2_23 c7 c6 c5 c4 c3 c2 c1 qk ek rH rK rT rU rV gg1 ys ds d0 d1 d2 hys v2_27 v2_28 v2_29 v2_31 seed x y hxy hx1 hx2 hy1 hy2 t4 h4 tk4 v2_32 v2_33 v2_34 TT tt1 tt2 hh2 tk2 hLw oLd v3_0 v2_36 v2_37 gg2 ys5 v2_39 v2_40 v2_41 v2_43 v2_44 v2_45 v2_48 v2_49 Lr wr hr Dl vl nl hl tkl Gl hBl hLo oLo v3_1 v3_2 v3_3 gg3 v4_0 v3_5 v3_6 v3_7 Lr2 wr2 hr2 Dh vh nh hh9 tkh Gh hBh hHi oHi v6_0 v3_9 v3_10 v3_11 v3_16 v3_17 v3_18 Ls ws hs Dsr vsr csr hsr Dsl wsl hsl2 hrg tkrg rt1 ru1 rv1 Dg usg cg hgg tkg v4_5 v4_6 v4_7 v4_8 v4_9 gg4 v6_1 v4_10 v4_11 v4_12 v4_16 v4_17 v4_18 v4_19 v4_20 v4_23 v4_24 v4_25 a b hab tkab ta tb oA oB ha13 hb13 dA dB v5_1 v5_2 v5_5 v5_6 v5_8 v5_9 v5_12 v5_13 Dt es nt ht tkt hES v6_2 v8_0 v6_3 v6_4 v6_5 v6_6 v6_7 gg5 ys6 ps Dp hDp tDp hPr oPr hml hel gg6 g v7_0 v7_1 v7_2 v8_1 v8_2 v8_3 v8_4 v8_5 v8_6 v8_8 v8_9 v9_1 v9_3 v9_4 v9_5 v9_6 v9_7 gg8 da D1 hD1 tD1 v9_11 v9_12 v9_13 v9_14 v9_15 gg9 db D2 hD2 tD2 hA nA v9_17 tk v9_18 v9_19 v9_20 v9_21 v9_22 v9_23 v9_24 gg10 dc D3 hD3 tD3 hB nB v9_25 hDue gg11 m2 e2 hT2 he2 hvr v10_0 v10_1 v10_2 v10_3 v10_4 v10_5 lF12 v10_6 lN14
      exact hp.down
end MineW
end

section
theorem MineW.fresh19 : True := by
  w_top off
  trivial
open PySem PySem.W PyProof.Rows
namespace MineW
set_option maxRecDepth 100000 in
set_option maxHeartbeats 8000000 in
noncomputable def cut10 : (P : Prop) ×' (Q : Prop) ×' (PLift P → PLift Q → cut9.1) := by
  refine' ⟨_, _, fun hp hq => _⟩
  rotate_left 2
  · skip
    intro w
    k_fill
    intro s₀ s₁ mg mb G Y fa o pm doc ho hg KX X V GL T B TE TW v2_0 v2_1 M v2_2 v2_3 hcd v2_4 v2_10 v2_11 v2_12 v2_13 v2_14 K0 hD v2_22 v2_23 c7 c6 c5 c4 c3 c2 c1 qk ek rH rK rT rU rV gg1 ys ds d0 d1 d2 hys v2_27 v2_28 v2_29 v2_31 seed x y hxy hx1 hx2 hy1 hy2 t4 h4 tk4 v2_32 v2_33 v2_34 TT tt1 tt2 hh2 tk2 hLw oLd v3_0 v2_36 v2_37 gg2 ys5 v2_39 v2_40 v2_41 v2_43 v2_44 v2_45 v2_48 v2_49 Lr wr hr Dl vl nl hl tkl Gl hBl hLo oLo v3_1 v3_2 v3_3 gg3 v4_0 v3_5 v3_6 v3_7 Lr2 wr2 hr2 Dh vh nh hh9 tkh Gh hBh hHi oHi v6_0 v3_9 v3_10 v3_11 v3_16 v3_17 v3_18 Ls ws hs Dsr vsr csr hsr Dsl wsl hsl2 hrg tkrg rt1 ru1 rv1 Dg usg cg hgg tkg v4_5 v4_6 v4_7 v4_8 v4_9 gg4 v6_1 v4_10 v4_11 v4_12 v4_16 v4_17 v4_18 v4_19 v4_20 v4_23 v4_24 v4_25 a b hab tkab ta tb oA oB ha13 hb13 dA dB v5_1 v5_2 v5_5 v5_6 v5_8 v5_9 v5_12 v5_13 Dt es nt ht tkt hES v6_2 v8_0 v6_3 v6_4 v6_5 v6_6 v6_7 gg5 ys6 ps Dp hDp tDp hPr oPr hml hel gg6 g v7_0 v7_1 v7_2 v8_1 v8_2 v8_3 v8_4 v8_5 v8_6 v8_8 v8_9 v9_1 v9_3 v9_4 v9_5 v9_6 v9_7 gg8 da D1 hD1 tD1 v9_11 v9_12 v9_13 v9_14 v9_15 gg9 db D2 hD2 tD2 hA nA v9_17 tk v9_18 v9_19 v9_20 v9_21 v9_22 v9_23 v9_24 gg10 dc D3 hD3 tD3 hB nB v9_25 hDue gg11 m2 e2 hT2 he2 hvr v10_0 v10_1 v10_2 v10_3 v10_4 v10_5 lF12 v10_6 lN14
    clear hES hml hel hDue hT2 he2 hvr v10_3 v10_6 hys hBl
    (iterate 26 (walk_at "W"))
    · rename_i nj tj uj hj9 tkj Ij oIj hloj hhij Fj Nj lj
      rename_i v11_0 v11_1 v11_2 v11_3 v11_4 v11_5 v11_6 v11_7 v11_8 v11_9 v11_10 v11_11 v11_12 v11_13 v11_14 v11_15
      revert w s₀ s₁ mg mb G Y fa o pm doc ho hg KX X V GL T B TE TW v2_0 v2_1 M v2_2 v2_3 hcd v2_4 v2_10 v2_11 v2_12 v2_13 v2_14 K0 hD v2_22 v2_23 c7 c6 c5 c4 c3 c2 c1 qk ek rH rK rT rU rV gg1 ys ds d0 d1 d2 v2_27 v2_28 v2_29 v2_31 seed x y hxy hx1 hx2 hy1 hy2 t4 h4 tk4 v2_32 v2_33 v2_34 TT tt1 tt2 hh2 tk2 hLw oLd v3_0 v2_36 v2_37 gg2 ys5 v2_39 v2_40 v2_41 v2_43 v2_44 v2_45 v2_48 v2_49 Lr wr hr Dl vl nl hl tkl Gl hLo oLo v3_1 v3_2 v3_3 gg3 v4_0 v3_5 v3_6 v3_7 Lr2 wr2 hr2 Dh vh nh hh9 tkh Gh hBh hHi oHi v6_0 v3_9 v3_10 v3_11 v3_16 v3_17 v3_18 Ls ws hs Dsr vsr csr hsr Dsl wsl hsl2 hrg tkrg rt1 ru1 rv1 Dg usg cg hgg tkg v4_5 v4_6 v4_7 v4_8 v4_9 gg4 v6_1 v4_10 v4_11 v4_12 v4_16 v4_17 v4_18 v4_19 v4_20 v4_23 v4_24 v4_25 a b hab tkab ta tb oA oB ha13 hb13 dA dB v5_1 v5_2 v5_5 v5_6 v5_8 v5_9 v5_12 v5_13 Dt es nt ht tkt v6_2 v8_0 v6_3 v6_4 v6_5 v6_6 v6_7 gg5 ys6 ps Dp hDp tDp hPr oPr gg6 g v7_0 v7_1 v7_2 v8_1 v8_2 v8_3 v8_4 v8_5 v8_6 v8_8 v8_9 v9_1 v9_3 v9_4 v9_5 v9_6 v9_7 gg8 da D1 hD1 tD1 v9_11 v9_12 v9_13 v9_14 v9_15 gg9 db D2 hD2 tD2 hA nA v9_17 tk v9_18 v9_19 v9_20 v9_21 v9_22 v9_23 v9_24 gg10 dc D3 hD3 tD3 hB nB v9_25 gg11 m2 e2 v10_0 v10_1 v10_2 v10_4 v10_5 v11_0 v11_1 v11_2 v11_3 v11_4 v11_5 v11_6 v11_7 v11_8 v11_9 v11_10 v11_11 v11_12 v11_13 v11_14 v11_15 nj tj uj hj9 tkj Ij oIj hloj hhij Fj Nj lj
      exact hp.down
    · rename_i v12_0 v12_1 v12_2 v12_3 v12_4 v12_5 v12_6 v12_7 v12_8 v12_9 v12_10 v12_11 v12_12 v12_13 v12_14 v12_15 v12_16 v12_17 v12_18 v12_19 v12_20
      revert w s₀ s₁ mg mb G Y fa o pm doc ho hg KX X V GL T B TE TW v2_0 v2_1 M v2_2 v2_3 hcd v2_4 v2_10 v2_11 v2_12 v2_13 v2_14 K0 hD v2_22 v2_23 c7 c6 c5 c4 c3 c2 c1 qk ek rH rK rT rU rV gg1 ys ds d0 d1 d2 v2_27 v2_28 v2_29 v2_31 seed x y hxy hx1 hx2 hy1 hy2 t4 h4 tk4 v2_32 v2_33 v2_34 TT tt1 tt2 hh2 tk2 hLw oLd v3_0 v2_36 v2_37 gg2 ys5 v2_39 v2_40 v2_41 v2_43 v2_44 v2_45 v2_48 v2_49 Lr wr hr Dl vl nl hl tkl Gl hLo oLo v3_1 v3_2 v3_3 gg3 v4_0 v3_5 v3_6 v3_7 Lr2 wr2 hr2 Dh vh nh hh9 tkh Gh hBh hHi oHi v6_0 v3_9 v3_10 v3_11 v3_16 v3_17 v3_18 Ls ws hs Dsr vsr csr hsr Dsl wsl hsl2 hrg tkrg rt1 ru1 rv1 Dg usg cg hgg tkg v4_5 v4_6 v4_7 v4_8 v4_9 gg4 v6_1 v4_10 v4_11 v4_12 v4_16 v4_17 v4_18 v4_19 v4_20 v4_23 v4_24 v4_25 a b hab tkab ta tb oA oB ha13 hb13 dA dB v5_1 v5_2 v5_5 v5_6 v5_8 v5_9 v5_12 v5_13 Dt es nt ht tkt v6_2 v8_0 v6_3 v6_4 v6_5 v6_6 v6_7 gg5 ys6 ps Dp hDp tDp hPr oPr gg6 g v7_0 v7_1 v7_2 v8_1 v8_2 v8_3 v8_4 v8_5 v8_6 v8_8 v8_9 v9_1 v9_3 v9_4 v9_5 v9_6 v9_7 gg8 da D1 hD1 tD1 v9_11 v9_12 v9_13 v9_14 v9_15 gg9 db D2 hD2 tD2 hA nA v9_17 tk v9_18 v9_19 v9_20 v9_21 v9_22 v9_23 v9_24 gg10 dc D3 hD3 tD3 hB nB v9_25 gg11 m2 e2 v10_0 v10_1 v10_2 v10_4 v10_5 v12_0 v12_1 v12_2 v12_3 v12_4 v12_5 v12_6 v12_7 v12_8 v12_9 v12_10 v12_11 v12_12 v12_13 v12_14 v12_15 v12_16 v12_17 v12_18 v12_19 v12_20
      exact hq.down
end MineW
end

section
open PySem PySem.W PyProof.Rows
namespace MineW
section
variable {prog : Program} {w : World} {A : Around} {E : Value → Shared → Prop} {s : Shared} {Q : Value → Shared → Prop} {x y : Str} {t u : Tok}
theorem add_le (m n : Nat) (hx : x.length ≤ m) (hy : y.length ≤ n) (hmn : m + n ≤ 1000) (h : ∀ t' tk, Q (.str (x ++ y) t') { s with toks := tk }) : wpAny (model prog w) A (binaryOp .Add (.str x t) (.str y u)) Q E s :=
  add_str h (by unfold sizeLine; omega)
end
theorem mul_len (n : Int) : (Txt.mul (Str.ofString " ") n).length = n.toNat := by rw [mul_blank]; simp [Str.length]
theorem app_len (x y : Str) : (x ++ y).length = x.length + y.length := by
  show (x.cps ++ y.cps).size = _
  simp [Str.length]
theorem ink_eq (l : List Nat) : Str.ofString "\t" ++ ⟨l.toArray⟩ ++ Str.ofString "\t" = ⟨(9 :: l ++ [9]).toArray⟩ := by
  show (⟨(Str.ofString "\t").cps ++ l.toArray ++ (Str.ofString "\t").cps⟩ : Str) = _
  rw [show (Str.ofString "\t").cps = #[9] from rfl]
  simp
theorem ink_line (a b : Int) (l : List Nat) : Txt.mul (Str.ofString " ") a ++ (Str.ofString "\t" ++ ⟨l.toArray⟩ ++ Str.ofString "\t") ++ Txt.mul (Str.ofString " ") b = line a.toNat (9 :: l ++ [9]) b.toNat := by
  rw [ink_eq, line_eq]
theorem ink_len (x y : Nat) : (Str.ofString "\t" ++ ⟨(wordOf x y).toArray⟩ ++ Str.ofString "\t").length = 10 := by
  rw [ink_eq]; simp [Str.length, wordOf]
end MineW
end

section
theorem MineW.fresh20 : True := by
  w_top off
  trivial
open PySem PySem.W PyProof.Rows
namespace MineW
set_option maxRecDepth 100000 in
set_option maxHeartbeats 8000000 in
theorem p11 : cut10.1 := by
  intro w
  k_fill
  intro s₀ s₁ mg mb G Y fa o pm doc ho hg KX X V GL T B TE TW v2_0 v2_1 M v2_2 v2_3 hcd v2_4 v2_10 v2_11 v2_12 v2_13 v2_14 K0 hD v2_22 v2_23 c7 c6 c5 c4 c3 c2 c1 qk ek rH rK rT rU rV gg1 ys ds d0 d1 d2 v2_27 v2_28 v2_29 v2_31 seed x y hxy hx1 hx2 hy1 hy2 t4 h4 tk4 v2_32 v2_33 v2_34 TT tt1 tt2 hh2 tk2 hLw oLd v3_0 v2_36 v2_37 gg2 ys5 v2_39 v2_40 v2_41 v2_43 v2_44 v2_45 v2_48 v2_49 Lr wr hr Dl vl nl hl tkl Gl hLo oLo v3_1 v3_2 v3_3 gg3 v4_0 v3_5 v3_6 v3_7 Lr2 wr2 hr2 Dh vh nh hh9 tkh Gh hBh hHi oHi v6_0 v3_9 v3_10 v3_11 v3_16 v3_17 v3_18 Ls ws hs Dsr vsr csr hsr Dsl wsl hsl2 hrg tkrg rt1 ru1 rv1 Dg usg cg hgg tkg v4_5 v4_6 v4_7 v4_8 v4_9 gg4 v6_1 v4_10 v4_11 v4_12 v4_16 v4_17 v4_18 v4_19 v4_20 v4_23 v4_24 v4_25 a b hab tkab ta tb oA oB ha13 hb13 dA dB v5_1 v5_2 v5_5 v5_6 v5_8 v5_9 v5_12 v5_13 Dt es nt ht tkt v6_2 v8_0 v6_3 v6_4 v6_5 v6_6 v6_7 gg5 ys6 ps Dp hDp tDp hPr oPr gg6 g v7_0 v7_1 v7_2 v8_1 v8_2 v8_3 v8_4 v8_5 v8_6 v8_8 v8_9 v9_1 v9_3 v9_4 v9_5 v9_6 v9_7 gg8 da D1 hD1 tD1 v9_11 v9_12 v9_13 v9_14 v9_15 gg9 db D2 hD2 tD2 hA nA v9_17 tk v9_18 v9_19 v9_20 v9_21 v9_22 v9_23 v9_24 gg10 dc D3 hD3 tD3 hB nB v9_25 gg11 m2 e2 v10_0 v10_1 v10_2 v10_4 v10_5 v11_0 v11_1 v11_2 v11_3 v11_4 v11_5 v11_6 v11_7 v11_8 v11_9 v11_10 v11_11 v11_12 v11_13 v11_14 v11_15 nj tj uj hj9 tkj Ij oIj hloj hhij Fj Nj lj
  (iterate 14 (walk_at "W"))
  refine add_le 20 20 (by rw [mul_len]; omega) (by rw [ink_len]; decide) (by decide) ?_
  intro ts1 ks1
  (iterate 4 (walk_at "W"))
  refine add_le 40 20 (by rw [app_len, mul_len, ink_len]; omega) (by rw [mul_len]; omega) (by decide) ?_
  intro ts2 ks2
  (iterate 4 (walk_at "W"))
  k_here
  rw [ink_line]
  rename Fr _ _ _ _ => lF
  rename News _ _ _ _ => lN
  with_unfolding_all refine' strip_spec w _ _ _ _ (9 :: wordOf x y ++ [9]) a b nj _ _ (by simp) (by simp) (by simp) ?_ ?_ (by simp) ?_ ?_ _ _ _ _ _ _ _ _ _ _ _ _ _ _ _ _ _ (by k_asm) lF (by k_asm) lN (by k_asm) rfl trivial (by ktr_room) (by ktr_units) ?_
  any_goals omega
  clear lF lN
  intro ts3 hs3 tks3 lF lN
  dsimp only
  (iterate 18 (walk_at "W"))
  refine add_le 20 20 (by rw [mul_len]; split <;> omega) (by rw [ink_len]; decide) (by decide) ?_
  intro ts4 ks4
  (iterate 26 (walk_at "W"))
  refine add_le 40 20 (by rw [app_len, mul_len, ink_len]; split <;> omega) (by rw [mul_len]; split <;> (try split) <;> omega) (by decide) ?_
  intro ts5 ks5
  rw [ink_line]
  have e1 : (if (a : Int) - nj > 0 then (a : Int) - nj else 0).toNat = a - nj.toNat := by split <;> omega
  have e2 : (if (if (a : Int) + (b : Int) - nj > 0 then (a : Int) + (b : Int) - nj else 0) < (b : Int) then if (a : Int) + (b : Int) - nj > 0 then (a : Int) + (b : Int) - nj else 0 else (b : Int)).toNat = min b (a + b - nj.toNat) := by
    split <;> (try split) <;> omega
  rw [e1, e2, show (9 :: wordOf x y ++ [9]) = [9, x, y, x, x, y, x, y, x, 9] from rfl]
  walk_at "W"
  first | rw [bne_self_eq_false] | (rw [beq_self_eq_true, Bool.not_true]) | (simp only [bne_self_eq_false, beq_self_eq_true, Bool.not_true, decide_true])
  (iterate 6 (walk_at "W"))
end MineW
end

section
theorem MineW.fresh21 : True := by
  w_top off
  trivial
open PySem PySem.W PyProof.Rows
namespace MineW
set_option maxRecDepth 100000 in
set_option maxHeartbeats 8000000 in
theorem p12 : cut10.2.1 := by
  intro w
  k_fill
  intro s₀ s₁ mg mb G Y fa o pm doc ho hg KX X V GL T B TE TW v2_0 v2_1 M v2_2 v2_3 hcd v2_4 v2_10 v2_11 v2_12 v2_13 v2_14 K0 hD v2_22 v2_23 c7 c6 c5 c4 c3 c2 c1 qk ek rH rK rT rU rV gg1 ys ds d0 d1 d2 v2_27 v2_28 v2_29 v2_31 seed x y hxy hx1 hx2 hy1 hy2 t4 h4 tk4 v2_32 v2_33 v2_34 TT tt1 tt2 hh2 tk2 hLw oLd v3_0 v2_36 v2_37 gg2 ys5 v2_39 v2_40 v2_41 v2_43 v2_44 v2_45 v2_48 v2_49 Lr wr hr Dl vl nl hl tkl Gl hLo oLo v3_1 v3_2 v3_3 gg3 v4_0 v3_5 v3_6 v3_7 Lr2 wr2 hr2 Dh vh nh hh9 tkh Gh hBh hHi oHi v6_0 v3_9 v3_10 v3_11 v3_16 v3_17 v3_18 Ls ws hs Dsr vsr csr hsr Dsl wsl hsl2 hrg tkrg rt1 ru1 rv1 Dg usg cg hgg tkg v4_5 v4_6 v4_7 v4_8 v4_9 gg4 v6_1 v4_10 v4_11 v4_12 v4_16 v4_17 v4_18 v4_19 v4_20 v4_23 v4_24 v4_25 a b hab tkab ta tb oA oB ha13 hb13 dA dB v5_1 v5_2 v5_5 v5_6 v5_8 v5_9 v5_12 v5_13 Dt es nt ht tkt v6_2 v8_0 v6_3 v6_4 v6_5 v6_6 v6_7 gg5 ys6 ps Dp hDp tDp hPr oPr gg6 g v7_0 v7_1 v7_2 v8_1 v8_2 v8_3 v8_4 v8_5 v8_6 v8_8 v8_9 v9_1 v9_3 v9_4 v9_5 v9_6 v9_7 gg8 da D1 hD1 tD1 v9_11 v9_12 v9_13 v9_14 v9_15 gg9 db D2 hD2 tD2 hA nA v9_17 tk v9_18 v9_19 v9_20 v9_21 v9_22 v9_23 v9_24 gg10 dc D3 hD3 tD3 hB nB v9_25 gg11 m2 e2 v10_0 v10_1 v10_2 v10_4 v10_5 v12_0 v12_1 v12_2 v12_3 v12_4 v12_5 v12_6 v12_7 v12_8 v12_9 v12_10 v12_11 v12_12 v12_13 v12_14 v12_15 v12_16 v12_17 v12_18 v12_19 v12_20
  (iterate 3 (walk_at "W"))
  rename Fr _ _ _ _ => lFz
  show GoodWG _ _ _ _ _ (.ok (.ret (.bool true))) _
  refine ⟨.inl ⟨_, .bool true, [], rfl, raisesW_false ?hn, .bool true, ?hp, unshared_nil⟩, .of_keep lFz.keep, rfl, hBh⟩
  case hn => wrow_none_raised
  case hp =>
    first | rfl | (refine' postW_of ?s ?v ?e; (case s => o_shape); (case v => wtm_val); (case e => w_fin)) | trace_state
end MineW
end

end

end

section
namespace MineW
theorem law_holds : PySem.Challenge.rw_st0044_01.Holds := cut1.2 ⟨cut2.2 ⟨cut3.2 ⟨cut4.2 ⟨cut5.2 ⟨cut6.2 ⟨cut7.2 ⟨cut8.2 ⟨cut9.2 ⟨cut10.2.2 ⟨p11⟩ ⟨p12⟩⟩⟩⟩⟩⟩⟩⟩⟩⟩
end MineW
end

theorem PySem.Challenge.cw_st0044_01_holds : PySem.Challenge.rw_st0044_01.Holds := by
  exact MineW.law_holds
