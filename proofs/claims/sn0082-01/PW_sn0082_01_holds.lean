import PyProof.Rows.All
import Wide.All
import OpenK.AllK
import Wide.FinOn
import PySem.Challenge.RW_sn0082_01
set_option Elab.async false
set_option compiler.extract_closed false
section
open PySem PySem.W PySem.Calls PyProof.Rows
set_option maxRecDepth 100000
namespace Mine
abbrev pw : Program := PySem.Challenge.pw_sn0082_01
noncomputable def partsOf : Stmt → Arguments × List Stmt × Scope
  | .FunctionDef _ a b _ _ _ s _ _ _ => (a, b, s)
  | _ => (⟨[], [], none, [], [], none, []⟩, [], ⟨.module, [], false, false, []⟩)
noncomputable def nthS : List Stmt → Nat → Stmt
  | [], _ => .Pass ⟨0, 0, 0, 0⟩
  | s :: _, 0 => s
  | _ :: r, n + 1 => nthS r n
noncomputable def bodyOf : Stmt → List Stmt
  | .ClassDef _ _ _ b _ _ _ _ _ _ _ => b
  | _ => []
noncomputable def fp (i : Nat) : Arguments × List Stmt × Scope := partsOf (nthS pw.main.body i)
noncomputable def fq (i j : Nat) : Arguments × List Stmt × Scope := partsOf (nthS (bodyOf (nthS pw.main.body i)) j)
end Mine
end
section
open PySem PySem.W PySem.Calls PyProof.Rows
set_option maxRecDepth 100000
namespace Mine
section
variable {p : Program} {w : World} {n₀ : Nat} {ann : Option Value}
theorem top_step {n : Nat} {s s₁ r : Shared} {t t₁ : Thread} (h0 : through t = false) (h1 : stepOk n₀ ann t = true) (h2 : step (denote treeTable) p w s t = .go s₁ t₁)
    (h3 : topRun treeTable p w n₀ ann n s₁ t₁ = some r) : topRun treeTable p w n₀ ann (n + 1) s t = some r := by
  unfold topRun
  rw [h0, h1, h2]
  exact h3

noncomputable def Goes (p : Program) (w : World) (n₀ : Nat) (ann : Option Value) {α : Type} (c : Code) (t : Sem α) (s : Shared) (q : Pos) (a : α) (s' : Shared) (q' : Pos) (n : Nat) : Prop :=
  ∀ (K : α → Sem Fin) (H : Value → Sem Fin) (gd : Bool → Bool) (lv : List Value → List Value) (F : Frame) (fs : List Frame) (N : Nat) (r : Shared),
    topRun treeTable p w n₀ ann N s' ⟨K a, c, q', F :: fs⟩ = some r → topRun treeTable p w n₀ ann (n + N) s ⟨t.wrap K H gd lv, c, q, F :: fs⟩ = some r

variable {α β : Type} {c : Code} {s s' s₁ : Shared} {q q' q₁ : Pos} {n n₁ n₂ : Nat}
theorem Goes.more {t : Sem α} {a : α} (g : Goes p w n₀ ann c t s q a s' q' n) {m : Nat} (h : n ≤ m) : Goes p w n₀ ann c t s q a s' q' m := by
  intro K H gd lv F fs N r k
  have := g K H gd lv F fs N r k
  have := topRun_mono (m - n) _ _ _ _ this
  rwa [show n + N + (m - n) = m + N by omega] at this
theorem goes_pure (a : α) : Goes p w n₀ ann c (.pure a) s q a s q 0 := by
  intro K H gd lv F fs N r k
  rw [Nat.zero_add]; exact k
theorem Goes.bind {m : Sem α} {f : α → Sem β} {a : α} {b : β} (g : Goes p w n₀ ann c m s q a s₁ q₁ n₁) (h : Goes p w n₀ ann c (f a) s₁ q₁ b s' q' n₂) :
    Goes p w n₀ ann c (m >>= f) s q b s' q' (n₁ + n₂) := by
  intro K H gd lv F fs N r k
  rw [Sem.bind_eq_wrap', Sem.wrap_wrap, Nat.add_assoc]
  exact g _ _ _ _ F fs _ r (h K H gd lv F fs N r k)
theorem Goes.keep {m : Sem α} {a : α} (vs : List Value) (g : Goes p w n₀ ann c m s q a s' q' n) : Goes p w n₀ ann c (m.keep vs) s q a s' q' n := by
  intro K H gd lv F fs N r k
  rw [Sem.keep_eq_wrap, Sem.wrap_wrap]
  exact g K _ _ _ F fs _ r k
theorem Goes.holding {m : Sem α} {a : α} (vs : List Value) (g : Goes p w n₀ ann c m s q a s' q' n) : Goes p w n₀ ann c (holding vs m) s q a s' q' n := by
  rw [holding_eq_keep]; exact g.keep _
theorem Goes.tryCatch {m : Sem α} {h : Value → Sem α} {a : α} (g : Goes p w n₀ ann c m s q a s' q' n) : Goes p w n₀ ann c (m.tryCatch h) s q a s' q' n := by
  intro K H gd lv F fs N r k
  rw [Sem.tryCatch_eq_wrap, Sem.wrap_wrap]
  exact g K _ _ _ F fs _ r k
theorem Goes.onRaise {m : Sem α} {h : Value → Sem Unit} {a : α} (g : Goes p w n₀ ann c m s q a s' q' n) : Goes p w n₀ ann c (m.onRaise h) s q a s' q' n := by
  intro K H gd lv F fs N r k
  rw [Sem.onRaise_eq_wrap, Sem.wrap_wrap]
  exact g K _ _ _ F fs _ r k
theorem Goes.eq {t t' : Sem α} {a : α} (e : t = t') (g : Goes p w n₀ ann c t' s q a s' q' n) : Goes p w n₀ ann c t s q a s' q' n := e ▸ g
section cmds
variable {a : α}
theorem goes_rule {tag : String} {k : Unit → Sem α} (g : Goes p w n₀ ann c (k ()) s q a s' q' n) : Goes p w n₀ ann c (.rule tag k) s q a s' q' (n + 1) := by
  intro K H gd lv F fs N r h
  rw [Nat.add_right_comm]
  obtain ⟨hp, gs, d, tk, os⟩ := s
  exact top_step rfl rfl rfl (g K H gd lv F fs N r h)
theorem goes_at {q₁ : Pos} {k : Unit → Sem α} (g : Goes p w n₀ ann c (k ()) s q₁ a s' q' n) : Goes p w n₀ ann c (.at q₁ k) s q a s' q' (n + 1) := by
  intro K H gd lv F fs N r h
  rw [Nat.add_right_comm]
  obtain ⟨hp, gs, d, tk, os⟩ := s
  exact top_step rfl rfl rfl (g K H gd lv F fs N r h)
theorem goes_point {l : List Value} {k : Unit → Sem α} (g : Goes p w n₀ ann c (k ()) s q a s' q' n) : Goes p w n₀ ann c (.point l k) s q a s' q' (n + 1) := by
  intro K H gd lv F fs N r h
  rw [Nat.add_right_comm]
  obtain ⟨hp, gs, d, tk, os⟩ := s
  exact top_step rfl rfl rfl (g K H gd lv F fs N r h)
theorem goes_ask {k : Setting → Sem α} (g : Goes p w n₀ ann c (k ⟨p, w.params⟩) s q a s' q' n) : Goes p w n₀ ann c (.ask k) s q a s' q' (n + 1) := by
  intro K H gd lv F fs N r h
  rw [Nat.add_right_comm]
  obtain ⟨hp, gs, d, tk, os⟩ := s
  exact top_step rfl rfl rfl (g K H gd lv F fs N r h)
theorem goes_fresh {hp : Heap} {gs : Array GenState} {d : Drawn} {tk : Nat} {os : OsState} {k : Tok → Sem α} (g : Goes p w n₀ ann c (k tk) ⟨hp, gs, d, tk + 1, os⟩ q a s' q' n) : Goes p w n₀ ann c (.fresh k) ⟨hp, gs, d, tk, os⟩ q a s' q' (n + 1) := by
  intro K H gd lv F fs N r h
  rw [Nat.add_right_comm]
  exact top_step rfl rfl rfl (g K H gd lv F fs N r h)
theorem goes_alloc {hp : Heap} {gs : Array GenState} {d : Drawn} {tk : Nat} {os : OsState} {o : Obj} {k : Addr → Sem α} (g : Goes p w n₀ ann c (k hp.objs.size) ⟨hp.push o, gs, d, tk, os⟩ q a s' q' n) : Goes p w n₀ ann c (.alloc o k) ⟨hp, gs, d, tk, os⟩ q a s' q' (n + 1) := by
  intro K H gd lv F fs N r h
  rw [Nat.add_right_comm]
  exact top_step rfl rfl rfl (g K H gd lv F fs N r h)
theorem goes_load {ad : Addr} {pt : Option Value} {o : Obj} {k : Obj → Sem α} (ho : s.heap.get? ad = some o) (g : Goes p w n₀ ann c (k o) s q a s' q' n) : Goes p w n₀ ann c (.load ad pt k) s q a s' q' (n + 1) := by
  intro K H gd lv F fs N r h
  rw [Nat.add_right_comm]
  obtain ⟨hp, gs, d, tk, os⟩ := s
  refine top_step rfl rfl ?_ (g K H gd lv F fs N r h)
  show (match hp.get? ad with | some o => _ | none => _) = _
  rw [show hp.get? ad = some o from ho]
theorem goes_update {hp : Heap} {gs : Array GenState} {d : Drawn} {tk : Nat} {os : OsState} {ad : Addr} {pt : Option Value} {f : Obj → Obj} {o : Obj} {k : Unit → Sem α} (ho : hp.get? ad = some o) (hn : n₀ ≤ ad)
    (g : Goes p w n₀ ann c (k ()) ⟨hp.update ad f, gs, d, tk, os⟩ q a s' q' n) : Goes p w n₀ ann c (.update ad pt f k) ⟨hp, gs, d, tk, os⟩ q a s' q' (n + 1) := by
  intro K H gd lv F fs N r h
  rw [Nat.add_right_comm]
  refine top_step rfl ?_ ?_ (g K H gd lv F fs N r h)
  · show (Thread.calm _ && (Nat.ble n₀ ad || ad == mainNs || ad == cStatics || ann == some (.ref ad))) = true
    rw [Nat.ble_eq_true_of_le hn]; rfl
  · show (if (hp.get? ad).isSome then _ else _) = _
    rw [ho]; rfl
end cmds

noncomputable def CGoes (p : Program) (w : World) (n₀ : Nat) (ann : Option Value) (x : Code) (s : Shared) (q : Pos) (f : Flow) (s' : Shared) (n : Nat) : Prop :=
  ∀ (kk : Result → Sem Fin) (m : Option Value) (g : Bool) (l : List Value) (code : Code) (pos : Pos) (kept : List Value) (fs : List Frame) (N : Nat) (r : Shared),
    topRun treeTable p w n₀ ann N s' ⟨kk (.ok f), code, pos, fs⟩ = some r → topRun treeTable p w n₀ ann (n + N) s ⟨denote treeTable x, x, q, .ret kk m g l code pos kept :: fs⟩ = some r
theorem wrap_id (t : Sem Fin) : t.wrap Sem.pure Sem.raise id id = t := by
  induction t <;> simp only [Sem.wrap, id, *]
theorem cgoes_done {x : Code} {f : Flow} (g : Goes p w n₀ ann x (denote treeTable x) s q (.done f) s' q' n) : CGoes p w n₀ ann x s q f s' (n + 1) := by
  intro kk m gg l code pos kept fs N r h
  have := g Sem.pure Sem.raise id id (.ret kk m gg l code pos kept) fs (N + 1) r
  rw [wrap_id] at this
  rw [show n + 1 + N = n + (N + 1) by omega]
  refine this ?_
  obtain ⟨hp, gs, d, tk, os⟩ := s'
  exact top_step rfl rfl rfl h
theorem cgoes_again {x y : Code} {f : Flow} (g : Goes p w n₀ ann x (denote treeTable x) s q (.again y) s₁ q₁ n₁) (hq : (⟨.pure (.again y), x, q₁, []⟩ : Thread).atCollectorCode = false) (h : CGoes p w n₀ ann y s₁ q₁ f s' n₂) : CGoes p w n₀ ann x s q f s' (n₁ + (n₂ + 1)) := by
  intro kk m gg l code pos kept fs N r k
  have := g Sem.pure Sem.raise id id (.ret kk m gg l code pos kept) fs (n₂ + N + 1) r
  rw [wrap_id] at this
  rw [show n₁ + (n₂ + 1) + N = n₁ + (n₂ + N + 1) by omega]
  refine this ?_
  obtain ⟨hp, gs, d, tk, os⟩ := s₁
  refine top_step rfl ?_ step_again (h kk m gg l code pos _ fs N r k)
  show ((!(Thread.atCollectorCode _) || _) && _ && _ && _) = true
  rw [show Thread.atCollectorCode ⟨.pure (.again y), x, q₁, .ret kk m gg l code pos kept :: fs⟩ = false from hq]
  rfl
theorem goes_call {x : Code} {m : Option Value} {gg : Bool} {l : List Value} {k : Result → Sem α} {f : Flow} {a : α} (g : CGoes p w n₀ ann x s q f s₁ n₁) (h : Goes p w n₀ ann c (k (.ok f)) s₁ q a s' q' n₂) :
    Goes p w n₀ ann c (.call x m gg l k) s q a s' q' (n₁ + n₂ + 1) := by
  intro K H gd lv F fs N r hh
  rw [Nat.add_right_comm]
  obtain ⟨hp, gs, d, tk, os⟩ := s
  refine top_step rfl rfl rfl ?_
  rw [Nat.add_assoc]
  exact g _ _ _ _ _ _ _ _ _ r (h K H gd lv F fs N r hh)
end
end Mine
end
section
open PySem PySem.W PySem.Calls PyProof.Rows
set_option maxRecDepth 100000
namespace Mine
theorem den_hash1 (k : Int) (t : Tok) : denote treeTable (.call (.builtin "int.__hash__") ⟨[.int k t], []⟩) = .pure (.again (.builtin "int.__hash__" ⟨[.int k t], []⟩)) := by kernel_rfl
theorem den_hash2 (k : Int) (t : Tok) : denote treeTable (.builtin "int.__hash__" ⟨[.int k t], []⟩) = .fresh fun u => .pure (.done (.ret (.int (rawHash k) u))) := by kernel_rfl
section
variable {p : Program} {w : World} {n₀ : Nat} {ann : Option Value} {α β : Type} {c : Code} {s s' s₁ : Shared} {q q' q₁ : Pos} {n n₁ n₂ : Nat}
theorem cgoes_hash (k : Int) (t : Tok) (hp : Heap) (gs : Array GenState) (d : Drawn) (tk : Nat) (os : OsState) (q : Pos) :
    CGoes p w n₀ ann (.call (.builtin "int.__hash__") ⟨[.int k t], []⟩) ⟨hp, gs, d, tk, os⟩ q (.ret (.int (rawHash k) tk)) ⟨hp, gs, d, tk + 1, os⟩ 3 := by
  refine cgoes_again (n₁ := 0) (n₂ := 2) (s₁ := ⟨hp, gs, d, tk, os⟩) (q₁ := q) (y := .builtin "int.__hash__" ⟨[.int k t], []⟩) ?_ ?_ ?_
  · rw [den_hash1]; exact goes_pure _
  · show "int.__hash__".startsWith "lifetime." = false
    decide +kernel
  · refine cgoes_done (n := 1) (q' := q) ?_
    rw [den_hash2]
    exact goes_fresh (goes_pure _)
theorem goes_special (k : Int) (t : Tok) : Goes p w n₀ ann c (specialOf (.int k t) "__hash__") s q (some (.builtin "int.__hash__")) s q 0 := by
  unfold specialOf
  exact Goes.bind (n₁ := 0) (n₂ := 0) (a := Value.type "int") (goes_pure _) (Goes.eq slot_int_hash.lookup (goes_pure _))
theorem hash_small {k : Int} (h0 : 0 ≤ k) (h1 : k < 2 ^ 60) : rawHash k = k := by
  have e : ((k.natAbs : Nat) : Int) % ((2 ^ 61 - 1 : Nat) : Int) = k := by
    rw [Int.emod_eq_of_lt (by omega) (by omega)]; omega
  simp only [rawHash]
  rw [if_neg (Int.not_lt.mpr h0), e, if_neg (by rw [beq_iff_eq]; omega)]
theorem goes_pyHash (k : Int) (t : Tok) (h0 : 0 ≤ k) (h1 : k < 2 ^ 60) (hp : Heap) (gs : Array GenState) (d : Drawn) (tk : Nat) (os : OsState) (q : Pos) :
    Goes p w n₀ ann c (pyHash (.int k t)) ⟨hp, gs, d, tk, os⟩ q k ⟨hp, gs, d, tk + 1, os⟩ q 5 := by
  have hb : Goes p w n₀ ann c (bindSpecialIfBound? (.int k t) "__hash__") ⟨hp, gs, d, tk, os⟩ q (some (Value.builtin "int.__hash__", [Value.int k t])) ⟨hp, gs, d, tk, os⟩ q 1 := by
    have hbd : Goes p w n₀ ann c (do return some (← bindSpecial (.builtin "int.__hash__") (.int k t)) : Sem (Option (Value × List Value))) ⟨hp, gs, d, tk, os⟩ q (some (Value.builtin "int.__hash__", [Value.int k t])) ⟨hp, gs, d, tk, os⟩ q 0 := by
      rw [slot_int_hash.bind]; exact goes_pure _
    unfold bindSpecialIfBound?
    refine Goes.bind (n₁ := 0) (n₂ := 1) (goes_special k t) ?_
    refine Goes.bind (m := ask) (n₁ := 1) (n₂ := 0) (goes_ask (goes_pure _)) ?_
    dsimp only
    split
    · exact hbd
    · exact Goes.tryCatch hbd
  have hc : Goes p w n₀ ann c (callSpecialIfBoundUnlessNone? (.int k t) "__hash__" (do rule "hash.unhashable"; raiseError "TypeError" s!"unhashable type: '{← typeNameOf (.int k t)}'")) ⟨hp, gs, d, tk, os⟩ q (some (.int k tk)) ⟨hp, gs, d, tk + 1, os⟩ q 5 := by
    unfold callSpecialIfBoundUnlessNone?
    refine Goes.holding _ (Goes.bind (n₁ := 1) (n₂ := 4) hb ?_)
    dsimp only
    rw [if_neg (by decide)]
    refine Goes.bind (n₁ := 4) (n₂ := 0) (a := Value.int k tk) (q₁ := q) ?_ (goes_pure _)
    have := cgoes_hash (p := p) (w := w) (n₀ := n₀) (ann := ann) k t hp gs d tk os q
    rw [hash_small h0 h1] at this
    exact goes_call (n₁ := 3) (n₂ := 0) this (goes_pure _)
  show Goes p w n₀ ann c (pyHashByItsType (.int k t)) _ q k _ q 5
  unfold pyHashByItsType
  refine Goes.bind (n₁ := 0) (n₂ := 5) (a := ()) (q₁ := q) (s₁ := ⟨hp, gs, d, tk, os⟩) ?_ ?_
  · rw [cRoomFor, if_neg (show ¬ ([Value.int k t].any Value.onHeap = true) from Bool.false_ne_true)]; exact goes_pure _
  refine Goes.bind (n₁ := 0) (n₂ := 5) (goes_special k t) ?_
  rw [if_neg (by decide)]
  refine Goes.bind (n₁ := 0) (n₂ := 5) (goes_special k t) ?_
  refine Goes.bind (n₁ := 5) (n₂ := 0) hc ?_
  show Goes p w n₀ ann c (if (decide (-(2 : Int) ^ 63 ≤ k) && decide (k < 2 ^ 63)) = true then _ else _) _ q k _ q 0
  rw [if_pos (by rw [decide_eq_true (by omega), decide_eq_true (by omega)]; rfl)]
  show Goes p w n₀ ann c (pure (if (k == -1) = true then -2 else k)) _ q k _ q 0
  rw [if_neg (by rw [beq_iff_eq]; omega)]
  exact goes_pure _
end
end Mine
end
section
open PySem PySem.W PySem.Calls PyProof.Rows
set_option maxRecDepth 100000
namespace Mine
noncomputable def Hp (f : List Obj) (x : Obj) (b : List Obj) : Heap := ⟨(f ++ x :: b).toArray, {}⟩
noncomputable abbrev Dc (es : List DictEntry) (n : Nat) : Obj := ⟨.type "dict", none, .dict es.toArray n, #[]⟩
theorem hp_get {f b : List Obj} {x : Obj} (hx : x.isFreed = false) : (Hp f x b).get? f.length = some x := by
  have e : (Hp f x b).objs[f.length]? = some x := by
    show ((f ++ x :: b).toArray)[f.length]? = some x
    rw [List.getElem?_toArray, List.getElem?_append_right (Nat.le_refl _), Nat.sub_self]; rfl
  unfold Heap.get?
  rw [e]
  obtain ⟨c, d, dt, sl⟩ := x
  cases dt <;> first | rfl | cases hx
theorem modify_mid {α : Type} (g : α → α) (x : α) (b : List α) : ∀ f : List α, (f ++ x :: b).modify f.length g = f ++ g x :: b
  | [] => rfl
  | y :: f => by
    show (y :: (f ++ x :: b)).modify (f.length + 1) g = _
    rw [List.modify_succ_cons, modify_mid g x b f]; rfl
theorem hp_update {f b : List Obj} {x : Obj} (g : Obj → Obj) : (Hp f x b).update f.length g = Hp f (g x) b := by
  show Heap.mk ((f ++ x :: b).toArray.modify f.length g) {} = Heap.mk (f ++ g x :: b).toArray {}
  rw [← modify_mid g x b f]
  congr 1
  simp
theorem hp_push {f b : List Obj} {x o : Obj} : (Hp f x b).push o = Hp f x (b ++ [o]) := by
  show Heap.mk ((f ++ x :: b).toArray.push o) {} = Heap.mk (f ++ x :: (b ++ [o])).toArray {}
  congr 1
  simp
theorem hp_size {f b : List Obj} {x : Obj} : (Hp f x b).objs.size = f.length + 1 + b.length := by
  show ((f ++ x :: b).toArray).size = _
  simp; omega
theorem hp_last {f b : List Obj} {x y : Obj} : Hp f x (b ++ [y]) = Hp (f ++ x :: b) y [] := by
  show Heap.mk _ _ = Heap.mk _ _
  congr 2
  simp
section
variable {p : Program} {w : World} {n₀ : Nat} {ann : Option Value} {α β : Type} {c : Code} {s s' s₁ : Shared} {q q' q₁ : Pos} {n n₁ n₂ : Nat} {gs : Array GenState} {d : Drawn} {tk : Nat} {os : OsState}
  {f b : List Obj} {es : List DictEntry} {m : Nat}
theorem goes_loadPart {ad : Addr} {pt : Option Value} {o : Obj} (ho : s.heap.get? ad = some o) : Goes p w n₀ ann c (loadPart ad pt) s q o s q 1 := goes_load ho (goes_pure _)
theorem goes_entries {pt : Option Value} : Goes p w n₀ ann c (dictEntries f.length pt) ⟨Hp f (Dc es m) b, gs, d, tk, os⟩ q es.toArray ⟨Hp f (Dc es m) b, gs, d, tk, os⟩ q 1 := by
  unfold dictEntries
  exact Goes.bind (n₁ := 1) (n₂ := 0) (goes_loadPart (hp_get rfl)) (goes_pure _)
theorem goes_find {k : Int} {t : Tok} (hn : ∀ e ∈ es, e.hash ≠ k) : Goes p w n₀ ann c (dictFind f.length (.int k t) k) ⟨Hp f (Dc es m) b, gs, d, tk, os⟩ q none ⟨Hp f (Dc es m) b, gs, d, tk, os⟩ q 1 := by
  unfold dictFind
  refine Goes.holding _ (Goes.bind (n₁ := 1) (n₂ := 0) goes_entries ?_)
  have hp : placesWithHash es.toArray.size (fun i => es.toArray[i]?.map (·.hash)) k = [] := by
    unfold placesWithHash
    refine List.filter_eq_nil_iff.mpr fun i _ => ?_
    show ¬ ((es.toArray[i]?.map (·.hash)) == some k) = true
    rw [List.getElem?_toArray]
    cases h : es[i]? with
    | none => simp
    | some e => simpa using hn e (List.mem_of_getElem? h)
  dsimp only
  rw [hp, List.filterMap_nil, if_pos (by rfl)]
  unfold dictWalkPlain
  rw [List.forIn_nil]
  exact goes_pure _
theorem goes_push {pt : Option Value} {e : DictEntry} (hf : n₀ ≤ f.length) (hz : es.length < 1000) :
    Goes p w n₀ ann c (updateDictKeys f.length (·.push e) pt) ⟨Hp f (Dc es m) b, gs, d, tk, os⟩ q () ⟨Hp f (Dc (es ++ [e]) (m + 1)) b, gs, d, tk, os⟩ q 3 := by
  have e1 : Obj.mapDictKeys (·.push e) (Dc es m) = Dc (es ++ [e]) (m + 1) := by
    show (⟨_, _, .dict (es.toArray.push e) (m + 1), _⟩ : Obj) = ⟨_, _, .dict (es ++ [e]).toArray (m + 1), _⟩
    simp
  unfold updateDictKeys
  refine Goes.bind (n₁ := 1) (n₂ := 2) (goes_loadPart (hp_get rfl)) ?_
  dsimp only
  refine Goes.bind (m := updatePart f.length pt (Obj.mapDictKeys (·.push e))) (n₁ := 1) (n₂ := 1) (a := ()) (s₁ := ⟨Hp f (Dc (es ++ [e]) (m + 1)) b, gs, d, tk, os⟩) (q₁ := q) ?_ ?_
  · refine goes_update (hp_get rfl) hf ?_
    rw [hp_update, e1]
    exact goes_pure _
  · unfold lookBehind
    refine Goes.bind (n₁ := 1) (n₂ := 0) (goes_loadPart (hp_get rfl)) ?_
    have : (Dc (es ++ [e]) (m + 1)).data.pastItsLine = none := pastItsLine_dict (by rw [List.size_toArray, sizeLine_eq, List.length_append]; simp; omega)
    rw [this]
    exact goes_pure _
theorem goes_dictSetHashed {k : Int} {t : Tok} {v : Value} (hn : ∀ e ∈ es, e.hash ≠ k) (hf : n₀ ≤ f.length) (hz : es.length < 1000) :
    Goes p w n₀ ann c (dictSetHashed f.length (.int k t) k v) ⟨Hp f (Dc es m) b, gs, d, tk, os⟩ q () ⟨Hp f (Dc (es ++ [⟨k, .int k t, v⟩]) (m + 1)) b, gs, d, tk, os⟩ q 5 := by
  unfold dictSetHashed
  refine Goes.holding _ (Goes.bind (n₁ := 1) (n₂ := 4) (goes_find hn) ?_)
  dsimp only
  refine Goes.bind (m := rule _) (n₁ := 1) (n₂ := 3) (goes_rule (goes_pure _)) ?_
  exact goes_push hf hz
theorem goes_dictSet {k : Int} {t : Tok} {v : Value} (h0 : 0 ≤ k) (h1 : k < 2 ^ 60) (hn : ∀ e ∈ es, e.hash ≠ k) (hf : n₀ ≤ f.length) (hz : es.length < 1000) :
    Goes p w n₀ ann c (dictSet f.length (.int k t) v) ⟨Hp f (Dc es m) b, gs, d, tk, os⟩ q () ⟨Hp f (Dc (es ++ [⟨k, .int k t, v⟩]) (m + 1)) b, gs, d, tk + 1, os⟩ q 10 := by
  unfold dictSet
  exact Goes.holding _ (Goes.bind (n₁ := 5) (n₂ := 5) (goes_pyHash k t h0 h1 _ _ _ _ _ _) (goes_dictSetHashed hn hf hz))
theorem goes_dictPut {k : Int} {t : Tok} {v : Value} (hn : ∀ e ∈ es, e.hash ≠ k) (hf : n₀ ≤ f.length) (hz : es.length < 1000) :
    Goes p w n₀ ann c (dictPut f.length k (.int k t) v) ⟨Hp f (Dc es m) b, gs, d, tk, os⟩ q () ⟨Hp f (Dc (es ++ [⟨k, .int k t, v⟩]) (m + 1)) b, gs, d, tk, os⟩ q 4 := by
  unfold dictPut
  refine Goes.bind (n₁ := 1) (n₂ := 3) (goes_find hn) ?_
  exact goes_push hf hz
end
end Mine
end
section
open PySem PySem.W PySem.Calls PyProof.Rows
set_option maxRecDepth 100000
namespace Mine
noncomputable abbrev KV := Int × Str
noncomputable def pairT (P : Pos) (kv : KV) : Sem Value × Sem Value := (mkInt kv.1, do let x ← mkText kv.2; standAt P; pure x)
noncomputable def ents : List KV → Nat → List DictEntry
  | [], _ => []
  | kv :: r, t => ⟨kv.1, .int kv.1 t, .str kv.2 (t + 1)⟩ :: ents r (t + 3)
noncomputable def ents2 : List KV → Nat → List DictEntry
  | [], _ => []
  | kv :: r, t => ⟨kv.1, .int kv.1 t, .str kv.2 (t + 1)⟩ :: ents2 r (t + 2)
theorem ents_keys : ∀ (L : List KV) (t : Nat), (ents L t).map (·.hash) = L.map (·.1)
  | [], _ => rfl
  | kv :: r, t => by show _ :: _ = _ :: _; rw [ents_keys r]
theorem ents2_keys : ∀ (L : List KV) (t : Nat), (ents2 L t).map (·.hash) = L.map (·.1)
  | [], _ => rfl
  | kv :: r, t => by show _ :: _ = _ :: _; rw [ents2_keys r]
theorem ents_len : ∀ (L : List KV) (t : Nat), (ents L t).length = L.length
  | [], _ => rfl
  | kv :: r, t => by show _ + 1 = _ + 1; rw [ents_len r]
theorem ents2_len : ∀ (L : List KV) (t : Nat), (ents2 L t).length = L.length
  | [], _ => rfl
  | kv :: r, t => by show _ + 1 = _ + 1; rw [ents2_len r]
theorem ents_append : ∀ (L M : List KV) (t : Nat), ents (L ++ M) t = ents L t ++ ents M (t + 3 * L.length)
  | [], _, _ => rfl
  | kv :: r, M, t => by
    show _ :: ents (r ++ M) (t + 3) = _ :: (ents r (t + 3) ++ _)
    rw [ents_append r M (t + 3), List.length_cons, show t + 3 + 3 * r.length = t + 3 * (r.length + 1) by omega]
noncomputable def okE (e : DictEntry) : Prop := ∃ t v, e = ⟨e.hash, .int e.hash t, v⟩
theorem ents_ok : ∀ (L : List KV) (t : Nat), ∀ e ∈ ents L t, okE e
  | [], _, _, h => nomatch h
  | _ :: _, _, _, .head _ => ⟨_, _, rfl⟩
  | _ :: r, t, e, .tail _ h => ents_ok r (t + 3) e h
theorem ents2_ok : ∀ (L : List KV) (t : Nat), ∀ e ∈ ents2 L t, okE e
  | [], _, _, h => nomatch h
  | _ :: _, _, _, .head _ => ⟨_, _, rfl⟩
  | _ :: r, t, e, .tail _ h => ents2_ok r (t + 2) e h
noncomputable def small (L : List KV) : Prop := ∀ kv ∈ L, 0 ≤ kv.1 ∧ kv.1 < 2 ^ 60
noncomputable def Hl (l : List Obj) : Heap := ⟨l.toArray, {}⟩
theorem hl_hp (f : List Obj) (x : Obj) (b : List Obj) : Hl (f ++ x :: b) = Hp f x b := rfl
section
variable {p : Program} {w : World} {n₀ : Nat} {ann : Option Value} {α β : Type} {c : Code} {s s' s₁ : Shared} {q q' q₁ : Pos} {n n₁ n₂ : Nat} {gs : Array GenState} {d : Drawn} {os : OsState}
  {f b : List Obj}
theorem goes_forIn_cons {σ : Type} {l : List β} {x : β} {b₀ b₁ a : σ} {F : β → σ → Sem (ForInStep σ)} (h1 : Goes p w n₀ ann c (F x b₀) s q (.yield b₁) s₁ q₁ n₁) (h2 : Goes p w n₀ ann c (forIn l b₁ F) s₁ q₁ a s' q' n₂) :
    Goes p w n₀ ann c (forIn (x :: l) b₀ F) s q a s' q' (n₁ + n₂) := by
  rw [List.forIn_cons]
  exact Goes.bind h1 h2
theorem goes_forIn_nil {σ : Type} {b₀ : σ} {F : β → σ → Sem (ForInStep σ)} : Goes p w n₀ ann c (forIn [] b₀ F) s q b₀ s q 0 := by
  rw [List.forIn_nil]; exact goes_pure _
theorem nodup_ne {es : List DictEntry} {k : Int} {r : List Int} (h : (es.map (·.hash) ++ k :: r).Nodup) : ∀ e ∈ es, e.hash ≠ k := by
  intro e he z
  have := (List.nodup_append.mp h).2.2
  exact this _ (List.mem_map_of_mem he) k (.head _) z
theorem nodup_step {es : List DictEntry} {e : DictEntry} {r : List Int} (h : (es.map (·.hash) ++ e.hash :: r).Nodup) : ((es ++ [e]).map (·.hash) ++ r).Nodup := by
  rw [List.map_append, List.append_assoc]; exact h
theorem sub_loop (P : Pos) (hf : n₀ ≤ f.length) : ∀ (L : List KV) (es : List DictEntry) (m tk : Nat) (q : Pos), small L → (es.map (·.hash) ++ L.map (·.1)).Nodup → es.length + L.length < 1000 →
    Goes p w n₀ ann c (forIn (L.map (pairT P)) PUnit.unit fun x _ => match x with
        | (k, v) => do
          let kv ← k
          let vv ← holding [kv] v
          holding [kv, vv] (dictSet f.length kv vv)
          pure (ForInStep.yield PUnit.unit)) ⟨Hp f (Dc es m) b, gs, d, tk, os⟩ q PUnit.unit ⟨Hp f (Dc (es ++ ents L tk) (m + L.length)) b, gs, d, tk + 3 * L.length, os⟩ (if L.isEmpty then q else P) (13 * L.length)
  | [], es, m, tk, q, _, _, _ => by
    rw [show es ++ ents [] tk = es by simp [ents]]
    exact goes_forIn_nil
  | kv :: r, es, m, tk, q, hs, hn, hz => by
    have hk := hs kv (.head _)
    have step : Goes p w n₀ ann c (match pairT P kv with
        | (k, v) => (do
          let kv ← k
          let vv ← holding [kv] v
          holding [kv, vv] (dictSet f.length kv vv)
          pure (ForInStep.yield PUnit.unit) : Sem (ForInStep PUnit))) ⟨Hp f (Dc es m) b, gs, d, tk, os⟩ q (.yield PUnit.unit) ⟨Hp f (Dc (es ++ [⟨kv.1, .int kv.1 tk, .str kv.2 (tk + 1)⟩]) (m + 1)) b, gs, d, tk + 3, os⟩ P 13 := by
      unfold pairT
      dsimp only
      refine Goes.bind (n₁ := 1) (n₂ := 12) (a := Value.int kv.1 tk) (goes_fresh (goes_pure _)) ?_
      refine Goes.bind (n₁ := 2) (n₂ := 10) (a := Value.str kv.2 (tk + 1)) (q₁ := P) (Goes.holding _ (Goes.bind (n₁ := 1) (n₂ := 1) (goes_fresh (goes_pure _)) (Goes.bind (m := standAt P) (n₁ := 1) (n₂ := 0) (goes_at (goes_pure _)) (goes_pure _)))) ?_
      exact Goes.bind (n₁ := 10) (n₂ := 0) (Goes.holding _ (goes_dictSet hk.1 hk.2 (nodup_ne hn) hf (by simp at hz; omega))) (goes_pure _)
    have ih := sub_loop P hf r (es ++ [⟨kv.1, .int kv.1 tk, .str kv.2 (tk + 1)⟩]) (m + 1) (tk + 3) P (fun x h => hs x (.tail _ h)) (nodup_step (e := ⟨kv.1, .int kv.1 tk, .str kv.2 (tk + 1)⟩) hn) (by simp at hz ⊢; omega)
    rw [List.map_cons]
    rw [show es ++ ents (kv :: r) tk = (es ++ [⟨kv.1, .int kv.1 tk, .str kv.2 (tk + 1)⟩]) ++ ents r (tk + 3) by simp [ents]]
    rw [List.length_cons, show m + (r.length + 1) = m + 1 + r.length by omega, show tk + 3 * (r.length + 1) = tk + 3 + 3 * r.length by omega, show 13 * (r.length + 1) = 13 + 13 * r.length by omega]
    have e : (if (kv :: r).isEmpty then q else P) = (if r.isEmpty then P else P) := by simp
    rw [e]
    exact goes_forIn_cons (x := pairT P kv) step ih
theorem goes_sub_long {P : Pos} {L : List KV} {l : List Obj} {tk : Nat} (hf : n₀ ≤ l.length) (h15 : 15 < L.length) (hs : small L) (hn : (L.map (·.1)).Nodup) (hz : L.length < 1000) :
    Goes p w n₀ ann c (subDict (L.map (pairT P))) ⟨Hl l, gs, d, tk, os⟩ q l.length ⟨Hl (l ++ [Dc (ents L tk) L.length]), gs, d, tk + 3 * L.length, os⟩ P (13 * L.length + 2) := by
  unfold subDict
  have hsz : (Hl l).objs.size = l.length := by show l.toArray.size = _; simp
  refine Goes.more (n := 1 + (1 + 13 * L.length)) ?_ (by omega)
  refine Goes.bind (m := alloc _) (n₁ := 1) (n₂ := 1 + 13 * L.length) (a := l.length) (s₁ := ⟨Hp l (Dc [] 0) [], gs, d, tk, os⟩) (q₁ := q) ?_ ?_
  · have := goes_alloc (p := p) (w := w) (n₀ := n₀) (ann := ann) (c := c) (q := q) (hp := Hl l) (gs := gs) (d := d) (tk := tk) (os := os) (o := ({ cls := .type "dict", data := .dict #[] } : Obj)) (k := Sem.pure)
      (a := l.length) (s' := ⟨Hp l (Dc [] 0) [], gs, d, tk, os⟩) (q' := q) (n := 0)
    refine this ?_
    rw [hsz]
    have e : (Hl l).push ({ cls := .type "dict", data := .dict #[] } : Obj) = Hp l (Dc [] 0) [] := by
      show Heap.mk (l.toArray.push _) {} = Heap.mk (l ++ [_]).toArray {}
      congr 1
      simp
    rw [e]
    exact goes_pure _
  · have hl := sub_loop (p := p) (w := w) (ann := ann) (c := c) (gs := gs) (d := d) (os := os) (b := []) P hf L [] 0 tk q hs (by simpa using hn) (by simpa using hz)
    rw [if_neg (by rw [List.isEmpty_iff]; intro e; rw [e] at h15; simp at h15), List.nil_append, Nat.zero_add] at hl
    refine Goes.bind (n₁ := 1 + 13 * L.length) (n₂ := 0) (a := ()) (Goes.holding _ ?_) (goes_pure _)
    rw [if_neg (by rw [List.length_map]; omega)]
    refine Goes.bind (m := rule _) (n₁ := 1) (n₂ := 13 * L.length) (goes_rule (goes_pure _)) ?_
    exact Goes.bind (n₁ := 13 * L.length) (n₂ := 0) hl (goes_pure _)
end
end Mine
end
section
open PySem PySem.W PySem.Calls PyProof.Rows
set_option maxRecDepth 100000
namespace Mine
noncomputable def vals2 : List KV → Nat → List (Value × Value)
  | [], _ => []
  | kv :: r, t => (.int kv.1 t, .str kv.2 (t + 1)) :: vals2 r (t + 2)
section
variable {p : Program} {w : World} {n₀ : Nat} {ann : Option Value} {α β : Type} {c : Code} {s s' s₁ : Shared} {q q' q₁ : Pos} {n n₁ n₂ : Nat} {gs : Array GenState} {d : Drawn} {os : OsState}
  {f b : List Obj}
theorem goes_pairs (P : Pos) (h : Heap) : ∀ (L : List KV) (tk : Nat) (q : Pos), Goes p w n₀ ann c (evalPairs (L.map (pairT P))) ⟨h, gs, d, tk, os⟩ q (vals2 L tk) ⟨h, gs, d, tk + 2 * L.length, os⟩ (if L.isEmpty then q else P) (3 * L.length)
  | [], tk, q => goes_pure _
  | kv :: r, tk, q => by
    have ih := goes_pairs P h r (tk + 2) P
    have e : (if (kv :: r).isEmpty then q else P) = (if r.isEmpty then P else P) := by simp
    rw [e, List.length_cons, show tk + 2 * (r.length + 1) = tk + 2 + 2 * r.length by omega, show 3 * (r.length + 1) = 1 + (2 + (3 * r.length + 0)) by omega]
    show Goes p w n₀ ann c (do
      let kv' ← mkInt kv.1
      let vv ← holding [kv'] (do let x ← mkText kv.2; standAt P; pure x)
      return (kv', vv) :: (← holding [kv', vv] (evalPairs (r.map (pairT P))))) _ q ((Value.int kv.1 tk, Value.str kv.2 (tk + 1)) :: vals2 r (tk + 2)) _ _ _
    refine Goes.bind (n₁ := 1) (a := Value.int kv.1 tk) (goes_fresh (goes_pure _)) ?_
    refine Goes.bind (n₁ := 2) (a := Value.str kv.2 (tk + 1)) (q₁ := P) (Goes.holding _ (Goes.bind (n₁ := 1) (n₂ := 1) (goes_fresh (goes_pure _)) (Goes.bind (m := standAt P) (n₁ := 1) (n₂ := 0) (goes_at (goes_pure _)) (goes_pure _)))) ?_
    exact Goes.bind (n₂ := 0) (Goes.holding _ ih) (goes_pure _)
theorem set_loop (hf : n₀ ≤ f.length) (q : Pos) : ∀ (L : List KV) (es : List DictEntry) (m t tk : Nat), small L → (es.map (·.hash) ++ L.map (·.1)).Nodup → es.length + L.length < 1000 →
    Goes p w n₀ ann c (forIn (vals2 L t) PUnit.unit fun x _ => match x with
        | (k, v) => do
          dictSet f.length k v
          pure (ForInStep.yield PUnit.unit)) ⟨Hp f (Dc es m) b, gs, d, tk, os⟩ q PUnit.unit ⟨Hp f (Dc (es ++ ents2 L t) (m + L.length)) b, gs, d, tk + L.length, os⟩ q (10 * L.length)
  | [], es, m, t, tk, _, _, _ => by
    rw [show es ++ ents2 [] t = es by simp [ents2]]
    exact goes_forIn_nil
  | kv :: r, es, m, t, tk, hs, hn, hz => by
    have hk := hs kv (.head _)
    have ih := set_loop hf q r (es ++ [⟨kv.1, .int kv.1 t, .str kv.2 (t + 1)⟩]) (m + 1) (t + 2) (tk + 1) (fun x h => hs x (.tail _ h)) (nodup_step (e := ⟨kv.1, .int kv.1 t, .str kv.2 (t + 1)⟩) hn) (by simp at hz ⊢; omega)
    rw [show es ++ ents2 (kv :: r) t = (es ++ [⟨kv.1, .int kv.1 t, .str kv.2 (t + 1)⟩]) ++ ents2 r (t + 2) by simp [ents2]]
    rw [List.length_cons, show m + (r.length + 1) = m + 1 + r.length by omega, show tk + (r.length + 1) = tk + 1 + r.length by omega, show 10 * (r.length + 1) = 10 + 10 * r.length by omega]
    refine goes_forIn_cons (x := (Value.int kv.1 t, Value.str kv.2 (t + 1))) (Goes.bind (n₁ := 10) (n₂ := 0) (goes_dictSet hk.1 hk.2 (nodup_ne hn) hf (by simp at hz; omega)) (goes_pure _)) ih
theorem goes_sub_short {P : Pos} {L : List KV} {l : List Obj} {tk : Nat} (hf : n₀ ≤ l.length) (h15 : L.length ≤ 15) (hs : small L) (hn : (L.map (·.1)).Nodup) (hne : L.isEmpty = false) :
    Goes p w n₀ ann c (subDict (L.map (pairT P))) ⟨Hl l, gs, d, tk, os⟩ q l.length ⟨Hl (l ++ [Dc (ents2 L tk) L.length]), gs, d, tk + 3 * L.length, os⟩ P (13 * L.length + 1) := by
  unfold subDict
  have hsz : (Hl l).objs.size = l.length := by show l.toArray.size = _; simp
  refine Goes.more (n := 1 + (13 * L.length)) ?_ (by omega)
  refine Goes.bind (m := alloc _) (n₁ := 1) (n₂ := 13 * L.length) (a := l.length) (s₁ := ⟨Hp l (Dc [] 0) [], gs, d, tk, os⟩) (q₁ := q) ?_ ?_
  · have := goes_alloc (p := p) (w := w) (n₀ := n₀) (ann := ann) (c := c) (q := q) (hp := Hl l) (gs := gs) (d := d) (tk := tk) (os := os) (o := ({ cls := .type "dict", data := .dict #[] } : Obj)) (k := Sem.pure)
      (a := l.length) (s' := ⟨Hp l (Dc [] 0) [], gs, d, tk, os⟩) (q' := q) (n := 0)
    refine this ?_
    rw [hsz]
    have e : (Hl l).push ({ cls := .type "dict", data := .dict #[] } : Obj) = Hp l (Dc [] 0) [] := by
      show Heap.mk (l.toArray.push _) {} = Heap.mk (l ++ [_]).toArray {}
      congr 1
      simp
    rw [e]
    exact goes_pure _
  · have hl := set_loop (p := p) (w := w) (ann := ann) (c := c) (gs := gs) (d := d) (os := os) (b := []) hf P L [] 0 tk (tk + 2 * L.length) hs (by simpa using hn) (by simp; omega)
    have hp := goes_pairs (p := p) (w := w) (n₀ := n₀) (ann := ann) (c := c) (gs := gs) (d := d) (os := os) P (Hp l (Dc [] 0) []) L tk q
    rw [hne] at hp
    rw [List.nil_append, Nat.zero_add, show tk + 2 * L.length + L.length = tk + 3 * L.length by omega] at hl
    refine Goes.bind (n₁ := 13 * L.length) (n₂ := 0) (a := ()) (Goes.holding _ ?_) (goes_pure _)
    rw [if_pos (by rw [List.length_map]; omega)]
    refine Goes.more (n := 3 * L.length + 10 * L.length) ?_ (by omega)
    refine Goes.bind hp (Goes.holding _ ?_)
    exact Goes.bind (n₁ := 10 * L.length) (n₂ := 0) hl (goes_pure _)
theorem dict_sub : isSubtype (.type "dict") (.type "dict") = pure true := by kernel_rfl
theorem dict_iter : typeLookup (.type "dict") "__iter__" = pure (some (.builtin "dict.__iter__")) := by kernel_rfl
theorem merge_loop {a : Addr} {es' : List DictEntry} {m' : Nat} (hf : n₀ ≤ f.length) (ha : a = f.length + 1 + b.length) (hok : ∀ e ∈ es', okE e) : ∀ (r i : Nat) (es : List DictEntry) (m tk : Nat), i + r = es'.length →
    (es.map (·.hash) ++ (es'.drop i).map (·.hash)).Nodup → es.length + r < 1000 →
    Goes p w n₀ ann c (forIn (List.range' i r) PUnit.unit fun i _ => do
              let l ← dictEntries a
              match l[i]? with
                | some e => do
                  holding [e.key, e.val] (dictPut f.length e.hash e.key e.val)
                  let z ← dictEpoch a
                  if (z != m') = true then do
                      unsupported "dict.changed-during-merge"
                      pure (ForInStep.yield PUnit.unit)
                    else pure (ForInStep.yield PUnit.unit)
                | _ => do
                  unsupported "dict.changed-during-merge"
                  pure (ForInStep.yield PUnit.unit)) ⟨Hp f (Dc es m) (b ++ [Dc es' m']), gs, d, tk, os⟩ q PUnit.unit ⟨Hp f (Dc (es ++ es'.drop i) (m + r)) (b ++ [Dc es' m']), gs, d, tk, os⟩ q (6 * r)
  | 0, i, es, m, tk, hi, _, _ => by
    rw [List.drop_eq_nil_of_le (by omega), List.append_nil]
    exact goes_forIn_nil
  | r + 1, i, es, m, tk, hi, hn, hz => by
    have hlt : i < es'.length := by omega
    have hd : es'.drop i = es'[i] :: es'.drop (i + 1) := List.drop_eq_getElem_cons hlt
    rw [hd, List.map_cons] at hn
    obtain ⟨t, v, he⟩ := hok es'[i] (List.getElem_mem hlt)
    generalize hE : es'[i] = E at *
    have ih := merge_loop (m' := m') hf ha hok r (i + 1) (es ++ [E]) (m + 1) tk (by omega) (nodup_step hn) (by simp at hz ⊢; omega)
    rw [hd, show es ++ E :: es'.drop (i + 1) = (es ++ [E]) ++ es'.drop (i + 1) by simp, show m + (r + 1) = m + 1 + r by omega, show 6 * (r + 1) = 6 + 6 * r by omega]
    show Goes p w n₀ ann c (forIn (i :: List.range' (i + 1) r) _ _) _ q _ _ q _
    have look : ∀ (es : List DictEntry) (m : Nat) (pt : Option Value), Goes p w n₀ ann c (loadPart a pt) ⟨Hp f (Dc es m) (b ++ [Dc es' m']), gs, d, tk, os⟩ q (Dc es' m') ⟨Hp f (Dc es m) (b ++ [Dc es' m']), gs, d, tk, os⟩ q 1 := fun es m pt => by
      refine goes_loadPart ?_
      rw [hp_last, ha, show f.length + 1 + b.length = (f ++ Dc es m :: b).length by simp; omega]
      exact hp_get rfl
    refine goes_forIn_cons (b₁ := PUnit.unit) ?_ ih
    unfold dictEntries
    refine Goes.bind (n₁ := 1) (n₂ := 5) (a := es'.toArray) (Goes.bind (n₁ := 1) (n₂ := 0) (look es m _) (goes_pure _)) ?_
    rw [List.getElem?_toArray, List.getElem?_eq_getElem hlt, hE]
    dsimp only
    refine Goes.bind (n₁ := 4) (n₂ := 1) (a := ()) (q₁ := q) (s₁ := ⟨Hp f (Dc (es ++ [E]) (m + 1)) (b ++ [Dc es' m']), gs, d, tk, os⟩) (Goes.holding _ ?_) ?_
    · have := goes_dictPut (p := p) (w := w) (n₀ := n₀) (ann := ann) (c := c) (q := q) (gs := gs) (d := d) (tk := tk) (os := os) (b := b ++ [Dc es' m']) (m := m) (k := E.hash) (t := t) (v := v) (nodup_ne hn) hf (by omega)
      rw [← he] at this
      have e1 : E.key = .int E.hash t := by rw [he]
      have e2 : E.val = v := by rw [he]
      rw [e1, e2]
      exact this
    · unfold dictEpoch
      refine Goes.bind (n₁ := 1) (n₂ := 0) (a := m') (Goes.bind (n₁ := 1) (n₂ := 0) (look _ _ _) (goes_pure _)) ?_
      rw [if_neg (by simp)]
      exact goes_pure _
theorem goes_merge {a : Addr} {es es' : List DictEntry} {m m' tk : Nat} (hf : n₀ ≤ f.length) (h1 : 1 < f.length) (ha : a = f.length + 1 + b.length) (hok : ∀ e ∈ es', okE e) (hne : es.isEmpty = false)
    (hn : (es.map (·.hash) ++ es'.map (·.hash)).Nodup) (hz : es.length + es'.length < 1000) :
    Goes p w n₀ ann c (mergeMapping f.length (.ref a) false) ⟨Hp f (Dc es m) (b ++ [Dc es' m']), gs, d, tk, os⟩ q () ⟨Hp f (Dc (es ++ es') (m + es'.length)) (b ++ [Dc es' m']), gs, d, tk, os⟩ q (5 + 6 * es'.length) := by
  have look : ∀ (es : List DictEntry) (m : Nat) (pt : Option Value), Goes p w n₀ ann c (loadPart a pt) ⟨Hp f (Dc es m) (b ++ [Dc es' m']), gs, d, tk, os⟩ q (Dc es' m') ⟨Hp f (Dc es m) (b ++ [Dc es' m']), gs, d, tk, os⟩ q 1 := fun es m pt => by
    refine goes_loadPart ?_
    rw [hp_last, ha, show f.length + 1 + b.length = (f ++ Dc es m :: b).length by simp; omega]
    exact hp_get rfl
  have ty : Goes p w n₀ ann c (typeOf (.ref a)) ⟨Hp f (Dc es m) (b ++ [Dc es' m']), gs, d, tk, os⟩ q (.type "dict") ⟨Hp f (Dc es m) (b ++ [Dc es' m']), gs, d, tk, os⟩ q 1 :=
    Goes.bind (n₁ := 1) (n₂ := 0) (look es m _) (goes_pure _)
  unfold mergeMapping
  refine Goes.more (n := 1 + (1 + (0 + (1 + (1 + (1 + 6 * es'.length)))))) ?_ (by omega)
  refine Goes.bind (a := true) (n₁ := 1) (Goes.bind (n₁ := 1) (n₂ := 0) ty (Goes.eq dict_sub (goes_pure _))) ?_
  rw [if_pos rfl]
  refine Goes.bind (n₁ := 1) (Goes.bind (n₁ := 1) (n₂ := 0) ty (Goes.eq dict_iter (goes_pure _))) ?_
  refine Goes.bind (m := pure _) (n₁ := 0) (goes_pure _) ?_
  rw [show (some (Value.builtin "dict.__iter__") == some (Value.builtin "dict.__iter__")) = true from by decide]
  dsimp only
  rw [if_neg (by rw [beq_iff_eq, ha]; intro h; exact absurd (show f.length + 1 + b.length = 1 from h) (by omega))]
  refine Goes.bind (n₁ := 1) goes_entries ?_
  rw [if_neg (by rw [← Array.isEmpty_toList]; simp [hne])]
  unfold dictEntries
  refine Goes.bind (n₁ := 1) (a := es'.toArray) (Goes.bind (n₁ := 1) (n₂ := 0) (look es m _) (goes_pure _)) ?_
  unfold dictEpoch
  refine Goes.bind (n₁ := 1) (a := m') (Goes.bind (n₁ := 1) (n₂ := 0) (look es m _) (goes_pure _)) ?_
  refine Goes.bind (n₁ := 6 * es'.length) (n₂ := 0) (a := PUnit.unit) ?_ (goes_pure _)
  have := merge_loop (p := p) (w := w) (n₀ := n₀) (ann := ann) (c := c) (q := q) (gs := gs) (d := d) (os := os) (m' := m') hf ha hok es'.length 0 es m tk (by omega) (by simpa using hn) (by omega)
  rw [List.drop_zero] at this
  rw [List.size_toArray, List.range_eq_range']
  exact this
end
end Mine
end
section
open PySem PySem.W PySem.Calls PyProof.Rows
set_option maxRecDepth 100000
namespace Mine
noncomputable abbrev Run := List (Sem Value × Sem Value)
noncomputable def flushD (run : Run) (main : Option Addr) : Sem (Option Addr) :=
  if run.isEmpty = true then pure main else
  match main with
  | none => do
    let a ← subDict run
    pure (some a)
  | some d => do
    let sub ← holding [Value.ref d] (subDict run)
    (holding [Value.ref d, Value.ref sub] (mergeMapping d (Value.ref sub) false)).onRaise fun x => do
      let _ ← holding [Value.ref d, x] (runValue (Code.builtin "proto.let_go" {}))
      pure ()
    pure (some d)
noncomputable def itm (P : Pos) (L : List KV) : List (Option (Sem Value) × Sem Value) := L.map fun kv => (some (pairT P kv).1, (pairT P kv).2)
noncomputable abbrev FT := (Option (Sem Value) × Sem Value) → (Option Addr × Run) → Sem (ForInStep (Option Addr × Run))
structure Flushes (F : FT) : Prop where
  on : ∀ (x : Sem Value × Sem Value) (run : Run) (main : Option Addr), run.length + 1 ≠ 17 → F (some x.1, x.2) (main, run) = pure (.yield (main, run ++ [x]))
  full : ∀ (x : Sem Value × Sem Value) (run : Run) (main : Option Addr), run.length + 1 = 17 → F (some x.1, x.2) (main, run) = flushD (run ++ [x]) main >>= fun m => pure (.yield (m, []))
theorem gather {F : FT} (hF : Flushes F) (P : Pos) (rest : List (Option (Sem Value) × Sem Value)) : ∀ (A : List KV) (run : Run) (main : Option Addr), run.length + A.length < 17 →
    forIn (itm P A ++ rest) (main, run) F = forIn rest (main, run ++ A.map (pairT P)) F
  | [], run, main, _ => by simp [itm]
  | kv :: A, run, main, h => by
    show forIn ((some (pairT P kv).1, (pairT P kv).2) :: (itm P A ++ rest)) (main, run) F = _
    rw [List.forIn_cons, hF.on (pairT P kv) run main (by simp at h; omega), pure_bind]
    dsimp only
    rw [gather hF P rest A (run ++ [pairT P kv]) main (by simp at h ⊢; omega)]
    simp
theorem chunk {F : FT} (hF : Flushes F) (P : Pos) (rest : List (Option (Sem Value) × Sem Value)) (C : List KV) (main : Option Addr) (h : C.length = 17) :
    forIn (itm P C ++ rest) (main, []) F = flushD (C.map (pairT P)) main >>= fun m => forIn rest (m, []) F := by
  have hne : C ≠ [] := by intro e; rw [e] at h; cases h
  obtain ⟨A, kv, rfl⟩ : ∃ A kv, C = A ++ [kv] := ⟨C.dropLast, C.getLast hne, (List.dropLast_concat_getLast hne).symm⟩
  have hA : A.length = 16 := by simpa using h
  have e : itm P (A ++ [kv]) ++ rest = itm P A ++ ((some (pairT P kv).1, (pairT P kv).2) :: rest) := by simp [itm]
  rw [e, gather hF P _ A [] main (by simp; omega), List.forIn_cons, hF.full (pairT P kv) _ main (by simp; omega), List.nil_append, bind_assoc]
  simp
section
variable {p : Program} {w : World} {n₀ : Nat} {ann : Option Value} {c : Code} {s s' s₁ : Shared} {q q' q₁ : Pos} {n n₁ n₂ : Nat} {gs : Array GenState} {d : Drawn} {os : OsState}
  {f b : List Obj} {P : Pos} {tk m : Nat} {es : List DictEntry}
theorem goes_flush_none {C : List KV} {l : List Obj} (hf : n₀ ≤ l.length) (h17 : C.length = 17) (hs : small C) (hn : (C.map (·.1)).Nodup) :
    Goes p w n₀ ann c (flushD (C.map (pairT P)) none) ⟨Hl l, gs, d, tk, os⟩ q (some l.length) ⟨Hl (l ++ [Dc (ents C tk) 17]), gs, d, tk + 51, os⟩ P 223 := by
  unfold flushD
  rw [if_neg (by rw [List.isEmpty_map, List.isEmpty_iff]; intro e; rw [e] at h17; cases h17)]
  have := goes_sub_long (p := p) (w := w) (ann := ann) (c := c) (q := q) (gs := gs) (d := d) (os := os) (P := P) (tk := tk) hf (by omega) hs hn (by omega)
  rw [h17] at this
  exact Goes.bind (n₁ := 223) (n₂ := 0) this (goes_pure _)
theorem goes_flush_some {C : List KV} (hf : n₀ ≤ f.length) (h1 : 1 < f.length) (h17 : C.length = 17) (hs : small C) (hne : es.isEmpty = false) (hn : (es.map (·.hash) ++ C.map (·.1)).Nodup) (hz : es.length + 17 < 1000) :
    Goes p w n₀ ann c (flushD (C.map (pairT P)) (some f.length)) ⟨Hp f (Dc es m) b, gs, d, tk, os⟩ q (some f.length) ⟨Hp f (Dc (es ++ ents C tk) (m + 17)) (b ++ [Dc (ents C tk) 17]), gs, d, tk + 51, os⟩ P 330 := by
  unfold flushD
  rw [if_neg (by rw [List.isEmpty_map, List.isEmpty_iff]; intro e; rw [e] at h17; cases h17)]
  have sub := goes_sub_long (p := p) (w := w) (ann := ann) (c := c) (q := q) (gs := gs) (d := d) (os := os) (P := P) (tk := tk) (L := C) (l := f ++ Dc es m :: b) (n₀ := n₀) (by simp; omega) (by omega) hs (List.nodup_append.mp hn).2.1 (by omega)
  rw [h17] at sub
  have e1 : Hl (f ++ Dc es m :: b ++ [Dc (ents C tk) 17]) = Hp f (Dc es m) (b ++ [Dc (ents C tk) 17]) := by
    show Heap.mk _ _ = Heap.mk _ _
    congr 2
    simp
  rw [e1, hl_hp] at sub
  refine Goes.bind (n₁ := 223) (n₂ := 107) (Goes.holding _ sub) ?_
  have mg := goes_merge (p := p) (w := w) (n₀ := n₀) (ann := ann) (c := c) (q := P) (gs := gs) (d := d) (os := os) (f := f) (b := b) (a := (f ++ Dc es m :: b).length) (es := es) (es' := ents C tk) (m := m) (m' := 17) (tk := tk + 51) hf h1 (show (f ++ Dc es m :: b).length = f.length + 1 + b.length by simp; omega) (ents_ok C tk) hne
    (by rw [ents_keys]; exact hn) (by rw [ents_len]; omega)
  rw [ents_len, h17] at mg
  exact Goes.bind (n₁ := 107) (n₂ := 0) (Goes.onRaise (Goes.holding _ mg)) (goes_pure _)
theorem goes_flush_end {C : List KV} (hf : n₀ ≤ f.length) (h1 : 1 < f.length) (h15 : C.length ≤ 15) (hC : C.isEmpty = false) (hs : small C) (hne : es.isEmpty = false) (hn : (es.map (·.hash) ++ C.map (·.1)).Nodup) (hz : es.length + 17 < 1000) :
    Goes p w n₀ ann c (flushD (C.map (pairT P)) (some f.length)) ⟨Hp f (Dc es m) b, gs, d, tk, os⟩ q (some f.length) ⟨Hp f (Dc (es ++ ents2 C tk) (m + C.length)) (b ++ [Dc (ents2 C tk) C.length]), gs, d, tk + 3 * C.length, os⟩ P 330 := by
  unfold flushD
  rw [if_neg (by rw [List.isEmpty_map, hC]; exact Bool.false_ne_true)]
  have sub := goes_sub_short (p := p) (w := w) (ann := ann) (c := c) (q := q) (gs := gs) (d := d) (os := os) (P := P) (tk := tk) (L := C) (l := f ++ Dc es m :: b) (n₀ := n₀) (by simp; omega) h15 hs (List.nodup_append.mp hn).2.1 hC
  have e1 : Hl (f ++ Dc es m :: b ++ [Dc (ents2 C tk) C.length]) = Hp f (Dc es m) (b ++ [Dc (ents2 C tk) C.length]) := by
    show Heap.mk _ _ = Heap.mk _ _
    congr 2
    simp
  rw [e1, hl_hp] at sub
  refine Goes.more (n := 13 * C.length + 1 + (5 + 6 * C.length + 0)) ?_ (by omega)
  refine Goes.bind (Goes.holding _ sub) ?_
  have mg := goes_merge (p := p) (w := w) (n₀ := n₀) (ann := ann) (c := c) (q := P) (gs := gs) (d := d) (os := os) (f := f) (b := b) (a := (f ++ Dc es m :: b).length) (es := es) (es' := ents2 C tk) (m := m) (m' := C.length) (tk := tk + 3 * C.length) hf h1 (show (f ++ Dc es m :: b).length = f.length + 1 + b.length by simp; omega) (ents2_ok C tk) hne
    (by rw [ents2_keys]; exact hn) (by rw [ents2_len]; omega)
  rw [ents2_len] at mg
  exact Goes.bind (n₂ := 0) (Goes.onRaise (Goes.holding _ mg)) (goes_pure _)
noncomputable def subsOf : List (List KV) → Nat → List Obj
  | [], _ => []
  | C :: r, t => Dc (ents C t) 17 :: subsOf r (t + 51)
theorem nodup_shift {es : List DictEntry} {C : List KV} {r : List Int} (t : Nat) (h : (es.map (·.hash) ++ (C.map (·.1) ++ r)).Nodup) : ((es ++ ents C t).map (·.hash) ++ r).Nodup := by
  rw [List.map_append, ents_keys, List.append_assoc]; exact h
theorem display_rest {F : FT} (hF : Flushes F) (hf : n₀ ≤ f.length) (h1 : 1 < f.length) (rest : List (Option (Sem Value) × Sem Value)) (lastK : List Int) {a : Option Addr × Run} : ∀ (Cs : List (List KV)) (es : List DictEntry) (m : Nat) (b : List Obj) (tk n₂ : Nat),
    (∀ C ∈ Cs, C.length = 17) → small Cs.flatten → es.isEmpty = false → (es.map (·.hash) ++ (Cs.flatten.map (·.1) ++ lastK)).Nodup → es.length + Cs.flatten.length < 900 →
    Goes p w n₀ ann c (forIn rest (some f.length, []) F) ⟨Hp f (Dc (es ++ ents Cs.flatten tk) (m + Cs.flatten.length)) (b ++ subsOf Cs tk), gs, d, tk + 51 * Cs.length, os⟩ P a s' q' n₂ →
    Goes p w n₀ ann c (forIn (itm P Cs.flatten ++ rest) (some f.length, []) F) ⟨Hp f (Dc es m) b, gs, d, tk, os⟩ P a s' q' (330 * Cs.length + n₂)
  | [], es, m, b, tk, n₂, _, _, _, _, _, g => by
    rw [show es ++ ents ([] : List (List KV)).flatten tk = es by simp [ents], show b ++ subsOf [] tk = b by simp [subsOf]] at g
    simpa [itm] using g
  | C :: Cs, es, m, b, tk, n₂, h17, hs, hne, hn, hz, g => by
    have hC := h17 C (.head _)
    have hfl : (C :: Cs).flatten = C ++ Cs.flatten := rfl
    rw [hfl] at hs hn hz g ⊢
    rw [List.map_append, List.append_assoc] at hn
    have hsC : small C := fun x h => hs x (List.mem_append_left _ h)
    have hsR : small Cs.flatten := fun x h => hs x (List.mem_append_right _ h)
    have hnC : (es.map (·.hash) ++ C.map (·.1)).Nodup := by
      have : (es.map (·.hash) ++ C.map (·.1) ++ (Cs.flatten.map (·.1) ++ lastK)).Nodup := by rw [List.append_assoc]; exact hn
      exact (List.nodup_append.mp this).1
    rw [List.length_append, hC] at hz
    have e : itm P (C ++ Cs.flatten) ++ rest = itm P C ++ (itm P Cs.flatten ++ rest) := by simp [itm]
    rw [e, chunk hF P _ C _ hC]
    have ih := display_rest hF hf h1 rest lastK Cs (es ++ ents C tk) (m + 17) (b ++ [Dc (ents C tk) 17]) (tk + 51) n₂ (fun x h => h17 x (.tail _ h)) hsR
      (by cases es with | nil => cases hne | cons _ _ => rfl) (nodup_shift tk hn) (by rw [List.length_append, ents_len, hC]; omega) (by
        have g' := g
        rw [ents_append, hC, List.length_append, hC, List.length_cons] at g'
        rw [List.append_assoc, List.append_assoc]
        rw [show m + 17 + Cs.flatten.length = m + (17 + Cs.flatten.length) by omega, show tk + 51 + 51 * Cs.length = tk + 51 * (Cs.length + 1) by omega]
        exact g')
    rw [List.length_cons, show 330 * (Cs.length + 1) + n₂ = 330 + (330 * Cs.length + n₂) by omega]
    exact Goes.bind (goes_flush_some hf h1 hC hsC hne hnC (by omega)) ih
theorem goes_display {C₀ : List KV} {Cs : List (List KV)} {Cl : List KV} {l : List Obj} (hf : n₀ ≤ l.length) (h1 : 1 < l.length) (h0 : C₀.length = 17) (h17 : ∀ C ∈ Cs, C.length = 17) (h15 : Cl.length ≤ 15) (hl : Cl.isEmpty = false)
    (hs : small (C₀ ++ (Cs.flatten ++ Cl))) (hn : ((C₀ ++ (Cs.flatten ++ Cl)).map (·.1)).Nodup) (hz : Cs.flatten.length < 800) :
    Goes p w n₀ ann c (dictDisplay (itm P (C₀ ++ (Cs.flatten ++ Cl)))) ⟨Hl l, gs, d, tk, os⟩ q (.ref l.length)
      ⟨Hp l (Dc (ents C₀ tk ++ ents Cs.flatten (tk + 51) ++ ents2 Cl (tk + 51 + 51 * Cs.length)) (17 + Cs.flatten.length + Cl.length)) (subsOf Cs (tk + 51) ++ [Dc (ents2 Cl (tk + 51 + 51 * Cs.length)) Cl.length]), gs, d, tk + 51 + 51 * Cs.length + 3 * Cl.length, os⟩ P
      (223 + (330 * Cs.length + 0) + 330) := by
  rw [List.map_append, List.map_append] at hn
  have hs0 : small C₀ := fun x h => hs x (List.mem_append_left _ h)
  have hsR : small Cs.flatten := fun x h => hs x (List.mem_append_right _ (List.mem_append_left _ h))
  have hsL : small Cl := fun x h => hs x (List.mem_append_right _ (List.mem_append_right _ h))
  unfold dictDisplay
  dsimp only
  have e : itm P (C₀ ++ (Cs.flatten ++ Cl)) = itm P C₀ ++ (itm P Cs.flatten ++ (itm P Cl ++ [])) := by simp [itm]
  rw [e]
  refine Goes.bind (a := (some l.length, Cl.map (pairT P))) (q₁ := P) (s₁ := ⟨Hp l (Dc (ents C₀ tk ++ ents Cs.flatten (tk + 51)) (17 + Cs.flatten.length)) (subsOf Cs (tk + 51)), gs, d, tk + 51 + 51 * Cs.length, os⟩) ?_ ?_
  · generalize hFd : (fun (x : Option (Sem Value) × Sem Value) (__s : Option Addr × Run) => _) = F
    have hF : Flushes F := by
      subst hFd
      refine ⟨fun x run main h => ?_, fun x run main h => ?_⟩
      · have hne : ((run ++ [(x.1, x.2)]).length == 17) = false := by simp; omega
        simp only [hne, Bool.false_eq_true, if_false]
      · have he : ((run ++ [(x.1, x.2)]).length == 17) = true := by simp; omega
        simp only [he, if_true]
        rfl
    rw [chunk hF P _ C₀ _ h0]
    refine Goes.bind (goes_flush_none hf h0 hs0 (List.nodup_append.mp hn).1) ?_
    refine display_rest hF hf h1 (itm P Cl ++ []) (Cl.map (·.1)) Cs (ents C₀ tk) 17 [] (tk + 51) 0 h17 hsR (by cases C₀ with | nil => cases h0 | cons _ _ => rfl) (by rw [ents_keys]; exact hn) (by rw [ents_len]; omega) ?_
    rw [gather hF P [] Cl [] _ (by simp; omega), List.nil_append, List.nil_append]
    exact goes_forIn_nil
  · have hfl := goes_flush_end (p := p) (w := w) (n₀ := n₀) (ann := ann) (c := c) (q := P) (gs := gs) (d := d) (os := os) (f := l) (b := subsOf Cs (tk + 51)) (P := P) (tk := tk + 51 + 51 * Cs.length) (m := 17 + Cs.flatten.length) (es := ents C₀ tk ++ ents Cs.flatten (tk + 51)) (C := Cl) hf h1 h15 hl hsL
      (by cases C₀ with | nil => cases h0 | cons _ _ => rfl) (by rw [List.map_append, ents_keys, ents_keys, List.append_assoc]; exact hn) (by rw [List.length_append, ents_len, ents_len]; omega)
    exact Goes.bind (n₁ := 330) (n₂ := 0) hfl (goes_pure _)
end
end Mine
end
section
open PySem PySem.W PySem.Calls PyProof.Rows
set_option maxRecDepth 100000
namespace Mine
noncomputable def chunk17 : Nat → List KV → List (List KV)
  | 0, _ => []
  | n + 1, L => L.take 17 :: chunk17 n (L.drop 17)
noncomputable def asgV : Stmt → Expr
  | .Assign _ v _ => v
  | _ => .Constant .none 0 ⟨0, 0, 0, 0⟩
noncomputable def asgT : Stmt → List Expr
  | .Assign t _ _ => t
  | _ => []
noncomputable def kvOf : Option Expr → Expr → KV
  | some (.Constant (.int k) _ _), .Constant (.str v) _ _ => (k, v)
  | _, _ => (0, ⟨#[]⟩)
noncomputable def dictL : Expr → List KV
  | .Dict ks vs _ => List.zipWith kvOf ks vs
  | _ => []
noncomputable def b3L : List KV := dictL (asgV (nthS pw.main.body 11))
noncomputable def b3C0 : List KV := b3L.take 17
noncomputable def b3Cs : List (List KV) := chunk17 37 (b3L.drop 17)
noncomputable def b3Cl : List KV := b3L.drop 646
noncomputable def b3main (_ : Params) : Obj := Dc (ents b3C0 360 ++ ents b3Cs.flatten 411 ++ ents2 b3Cl 2298) 650
noncomputable def b3sub (j : Nat) (_ : Params) : Obj := ((subsOf b3Cs 411 ++ [Dc (ents2 b3Cl 2298) 4])[j]?).getD default
noncomputable def sortedI : List Int → Bool
  | a :: b :: r => decide (a < b) && sortedI (b :: r)
  | _ => true
theorem sortedI_pw : ∀ {l : List Int}, sortedI l = true → l.Pairwise (· < ·)
  | [], _ => List.Pairwise.nil
  | [a], _ => List.pairwise_singleton _ _
  | a :: b :: r, h => by
    obtain ⟨h1, h2⟩ := Bool.and_eq_true_iff.mp (show (decide (a < b) && sortedI (b :: r)) = true from h)
    have ih := sortedI_pw h2
    refine List.Pairwise.cons (fun x hx => ?_) ih
    have hab := of_decide_eq_true h1
    rcases List.mem_cons.mp hx with rfl | hx
    · exact hab
    · exact Int.lt_trans hab ((List.pairwise_cons.mp ih).1 x hx)
theorem b3_split : b3L = b3C0 ++ (b3Cs.flatten ++ b3Cl) := by kernel_rfl
theorem b3_nodup : ((b3C0 ++ (b3Cs.flatten ++ b3Cl)).map (·.1)).Nodup := by
  rw [← b3_split]
  have : sortedI (b3L.map (·.1)) = true := by kernel_rfl
  exact (sortedI_pw this).imp fun h e => by omega
theorem b3_small : small (b3C0 ++ (b3Cs.flatten ++ b3Cl)) := by
  rw [← b3_split]
  have : (b3L.all fun kv => decide (0 ≤ kv.1) && decide (kv.1 < 2 ^ 60)) = true := by kernel_rfl
  intro kv hk
  have := List.all_eq_true.mp this kv hk
  obtain ⟨a, b⟩ := Bool.and_eq_true_iff.mp this
  exact ⟨of_decide_eq_true a, of_decide_eq_true b⟩
theorem b3_17 : ∀ C ∈ b3Cs, C.length = 17 := by
  have : (b3Cs.all fun C => Nat.beq C.length 17) = true := by kernel_rfl
  intro C hC
  exact Nat.eq_of_beq_eq_true (List.all_eq_true.mp this C hC)
end Mine
end
section
open PySem PySem.W PySem.Calls PyProof.Rows
set_option maxRecDepth 100000
namespace Mine
noncomputable def o11 (_ : Params) : Obj := ⟨(.type "tuple"), none, (.seq ([]).toArray 0), ([]).toArray⟩
noncomputable def o12 (_ : Params) : Obj := ⟨.none, none, (.fields ([]).toArray), ([]).toArray⟩
noncomputable def o13 (_ : Params) : Obj := ⟨(.type "code"), none, (.fields ([(.str (Str.ofString "<module>") 182), (.str (Str.ofString "<module>") 183), (.str (Str.ofString "/claim/cut.py") 184), (.int 1 0), (.int 0 0), (.int 0 0), (.int 0 0), (.int 0 0), (.ref 11), (.bool false), (.int 181 0), (.ref 12), .none, .none, .none, .none, (.int 185 0), (.int 1 0), (.str (Str.ofString "/claim/cut.py") 186)]).toArray), ([]).toArray⟩
noncomputable def o14 (_ : Params) : Obj := ⟨(.type "frame"), none, .plain, ([(some (.ref 13)), (some (.ref 3)), (some (.ref 3)), none, (some (.str (Str.ofString "__main__") 164)), none, (some (.ref 0))]).toArray⟩
noncomputable def o3_1 (P : Params) : Obj := ⟨(.type "dict"), none, (.dict ([⟨PyData.keyHash P (Str.ofString "__name__"), (.str (Str.ofString "__name__") 165), (.str (Str.ofString "cpy313.email.utils") 247)⟩, ⟨PyData.keyHash P (Str.ofString "__doc__"), (.str (Str.ofString "__doc__") 166), .none⟩, ⟨PyData.keyHash P (Str.ofString "__package__"), (.str (Str.ofString "__package__") 167), .none⟩, ⟨PyData.keyHash P (Str.ofString "__loader__"), (.str (Str.ofString "__loader__") 168), (.builtin "__main__.__loader__#opaque")⟩, ⟨PyData.keyHash P (Str.ofString "__spec__"), (.str (Str.ofString "__spec__") 169), .none⟩, ⟨PyData.keyHash P (Str.ofString "__annotations__"), (.str (Str.ofString "__annotations__") 170), (.ref 6)⟩, ⟨PyData.keyHash P (Str.ofString "__builtins__"), (.str (Str.ofString "__builtins__") 171), (.ref 4)⟩, ⟨PyData.keyHash P (Str.ofString "__file__"), (.str (Str.ofString "__file__") 173), (.str (Str.ofString "/claim/cut.py") 172)⟩, ⟨PyData.keyHash P (Str.ofString "__cached__"), (.str (Str.ofString "__cached__") 174), .none⟩, ⟨PyData.keyHash P (Str.ofString "_netrclex"), (.str (Str.ofString "_netrclex") 246), (.ref 52)⟩, ⟨PyData.keyHash P (Str.ofString "TICK"), (.str (Str.ofString "TICK") 250), (.str (Str.ofString "'") 249)⟩]).toArray 11), ([]).toArray⟩
noncomputable def o12_1 (_ : Params) : Obj := ⟨.none, none, (.fields ([(.int 2 0), (.int 0 0), (.ref 20)]).toArray), ([]).toArray⟩
noncomputable def o15 (_ : Params) : Obj := ⟨(.type "tuple"), none, (.seq ([]).toArray 0), ([]).toArray⟩
noncomputable def o16 (_ : Params) : Obj := ⟨(.type "builtin_function_or_method"), none, (.fields ([(.builtin "type.__prepare__"), (.type "type")]).toArray), ([]).toArray⟩
noncomputable def o17 (P : Params) : Obj := ⟨(.type "dict"), none, (.dict ([⟨PyData.keyHash P (Str.ofString "__module__"), (.str (Str.ofString "__module__") 196), (.str (Str.ofString "cpy313.netrc") 187)⟩, ⟨PyData.keyHash P (Str.ofString "__qualname__"), (.str (Str.ofString "__qualname__") 198), (.str (Str.ofString "_netrclex") 197)⟩, ⟨PyData.keyHash P (Str.ofString "__firstlineno__"), (.str (Str.ofString "__firstlineno__") 200), (.int 2 199)⟩, ⟨PyData.keyHash P (Str.ofString "__init__"), (.str (Str.ofString "__init__") 208), (.ref 28)⟩, ⟨PyData.keyHash P (Str.ofString "_read_char"), (.str (Str.ofString "_read_char") 216), (.ref 35)⟩, ⟨PyData.keyHash P (Str.ofString "get_token"), (.str (Str.ofString "get_token") 226), (.ref 42)⟩, ⟨PyData.keyHash P (Str.ofString "push_token"), (.str (Str.ofString "push_token") 234), (.ref 49)⟩, ⟨PyData.keyHash P (Str.ofString "__static_attributes__"), (.str (Str.ofString "__static_attributes__") 239), (.ref 50)⟩]).toArray 8), ([]).toArray⟩
noncomputable def o18 (_ : Params) : Obj := ⟨(.type "tuple"), none, (.seq ([]).toArray 0), ([]).toArray⟩
noncomputable def o19 (_ : Params) : Obj := ⟨.none, none, (.fields ([(.int 4 0), (.int 4 0), (.ref 27), (.int 10 0), (.int 4 0), (.ref 34), (.int 16 0), (.int 4 0), (.ref 41), (.int 43 0), (.int 4 0), (.ref 48)]).toArray), ([]).toArray⟩
noncomputable def o20 (_ : Params) : Obj := ⟨(.type "code"), none, (.fields ([(.str (Str.ofString "_netrclex") 191), (.str (Str.ofString "_netrclex") 192), (.str (Str.ofString "/claim/cut.py") 193), (.int 2 0), (.int 0 0), (.int 0 0), (.int 0 0), (.int 0 0), (.ref 18), (.bool false), (.int 181 0), (.ref 19), .none, .none, .none, .none, (.int 194 0), (.int 2 0), (.str (Str.ofString "/claim/cut.py") 195)]).toArray), ([]).toArray⟩
noncomputable def o21 (_ : Params) : Obj := ⟨(.type "frame"), none, .plain, ([(some (.ref 20)), (some (.ref 3)), (some (.ref 17)), none, (some (.str (Str.ofString "cpy313.netrc") 187)), none, (some (.ref 0))]).toArray⟩
noncomputable def o22 (_ : Params) : Obj := ⟨(.type "tuple"), none, (.seq ([]).toArray 0), ([]).toArray⟩
noncomputable def o23 (_ : Params) : Obj := ⟨.none, none, (.fields ([]).toArray), ([]).toArray⟩
noncomputable def o24 (_ : Params) : Obj := ⟨(.type "tuple"), none, (.seq ([(.str (Str.ofString "self") 204), (.str (Str.ofString "fp") 205)]).toArray 0), ([]).toArray⟩
noncomputable def o25 (_ : Params) : Obj := ⟨(.type "tuple"), none, (.seq ([]).toArray 0), ([]).toArray⟩
noncomputable def o26 (_ : Params) : Obj := ⟨.none, none, (.func ⟨(Str.ofString "__init__"), (Str.ofString "_netrclex.__init__"), (fq 1 0).1, (.stmts (fq 1 0).2.1), (fq 1 0).2.2, 0, [], .none, .none, .none, .none, none, .none, .none, 0⟩), ([]).toArray⟩
noncomputable def o27 (_ : Params) : Obj := ⟨(.type "code"), none, (.fields ([(.str (Str.ofString "__init__") 201), (.str (Str.ofString "_netrclex.__init__") 202), (.str (Str.ofString "/claim/cut.py") 203), (.int 4 0), (.int 2 0), (.int 0 0), (.int 0 0), (.int 3 0), (.ref 22), (.bool true), (.int 181 0), (.ref 23), .none, (.ref 24), (.ref 25), (.ref 26), (.int 206 0), (.int 4 0), (.str (Str.ofString "/claim/cut.py") 207)]).toArray), ([]).toArray⟩
noncomputable def o28 (_ : Params) : Obj := ⟨(.type "function"), none, (.func ⟨(Str.ofString "__init__"), (Str.ofString "_netrclex.__init__"), (fq 1 0).1, (.stmts (fq 1 0).2.1), (fq 1 0).2.2, 3, [], .none, .none, .none, (.str (Str.ofString "cpy313.netrc") 187), none, (.ref 27), .none, 0⟩), ([]).toArray⟩
noncomputable def o29 (_ : Params) : Obj := ⟨(.type "tuple"), none, (.seq ([]).toArray 0), ([]).toArray⟩
noncomputable def o30 (_ : Params) : Obj := ⟨.none, none, (.fields ([]).toArray), ([]).toArray⟩
noncomputable def o31 (_ : Params) : Obj := ⟨(.type "tuple"), none, (.seq ([(.str (Str.ofString "self") 212), (.str (Str.ofString "ch") 213)]).toArray 0), ([]).toArray⟩
noncomputable def o32 (_ : Params) : Obj := ⟨(.type "tuple"), none, (.seq ([]).toArray 0), ([]).toArray⟩
noncomputable def o33 (_ : Params) : Obj := ⟨.none, none, (.func ⟨(Str.ofString "_read_char"), (Str.ofString "_netrclex._read_char"), (fq 1 1).1, (.stmts (fq 1 1).2.1), (fq 1 1).2.2, 0, [], .none, .none, .none, .none, none, .none, .none, 0⟩), ([]).toArray⟩
noncomputable def o34 (_ : Params) : Obj := ⟨(.type "code"), none, (.fields ([(.str (Str.ofString "_read_char") 209), (.str (Str.ofString "_netrclex._read_char") 210), (.str (Str.ofString "/claim/cut.py") 211), (.int 10 0), (.int 1 0), (.int 0 0), (.int 0 0), (.int 3 0), (.ref 29), (.bool true), (.int 181 0), (.ref 30), .none, (.ref 31), (.ref 32), (.ref 33), (.int 214 0), (.int 10 0), (.str (Str.ofString "/claim/cut.py") 215)]).toArray), ([]).toArray⟩
noncomputable def o35 (_ : Params) : Obj := ⟨(.type "function"), none, (.func ⟨(Str.ofString "_read_char"), (Str.ofString "_netrclex._read_char"), (fq 1 1).1, (.stmts (fq 1 1).2.1), (fq 1 1).2.2, 3, [], .none, .none, .none, (.str (Str.ofString "cpy313.netrc") 187), none, (.ref 34), .none, 0⟩), ([]).toArray⟩
noncomputable def o36 (_ : Params) : Obj := ⟨(.type "tuple"), none, (.seq ([]).toArray 0), ([]).toArray⟩
noncomputable def o37 (_ : Params) : Obj := ⟨.none, none, (.fields ([]).toArray), ([]).toArray⟩
noncomputable def o38 (_ : Params) : Obj := ⟨(.type "tuple"), none, (.seq ([(.str (Str.ofString "self") 220), (.str (Str.ofString "token") 221), (.str (Str.ofString "fiter") 222), (.str (Str.ofString "ch") 223)]).toArray 0), ([]).toArray⟩
noncomputable def o39 (_ : Params) : Obj := ⟨(.type "tuple"), none, (.seq ([]).toArray 0), ([]).toArray⟩
noncomputable def o40 (_ : Params) : Obj := ⟨.none, none, (.func ⟨(Str.ofString "get_token"), (Str.ofString "_netrclex.get_token"), (fq 1 2).1, (.stmts (fq 1 2).2.1), (fq 1 2).2.2, 0, [], .none, .none, .none, .none, none, .none, .none, 0⟩), ([]).toArray⟩
noncomputable def o41 (_ : Params) : Obj := ⟨(.type "code"), none, (.fields ([(.str (Str.ofString "get_token") 217), (.str (Str.ofString "_netrclex.get_token") 218), (.str (Str.ofString "/claim/cut.py") 219), (.int 16 0), (.int 1 0), (.int 0 0), (.int 0 0), (.int 3 0), (.ref 36), (.bool true), (.int 181 0), (.ref 37), .none, (.ref 38), (.ref 39), (.ref 40), (.int 224 0), (.int 16 0), (.str (Str.ofString "/claim/cut.py") 225)]).toArray), ([]).toArray⟩
noncomputable def o42 (_ : Params) : Obj := ⟨(.type "function"), none, (.func ⟨(Str.ofString "get_token"), (Str.ofString "_netrclex.get_token"), (fq 1 2).1, (.stmts (fq 1 2).2.1), (fq 1 2).2.2, 3, [], .none, .none, .none, (.str (Str.ofString "cpy313.netrc") 187), none, (.ref 41), .none, 0⟩), ([]).toArray⟩
noncomputable def o43 (_ : Params) : Obj := ⟨(.type "tuple"), none, (.seq ([]).toArray 0), ([]).toArray⟩
noncomputable def o44 (_ : Params) : Obj := ⟨.none, none, (.fields ([]).toArray), ([]).toArray⟩
noncomputable def o45 (_ : Params) : Obj := ⟨(.type "tuple"), none, (.seq ([(.str (Str.ofString "self") 230), (.str (Str.ofString "token") 231)]).toArray 0), ([]).toArray⟩
noncomputable def o46 (_ : Params) : Obj := ⟨(.type "tuple"), none, (.seq ([]).toArray 0), ([]).toArray⟩
noncomputable def o47 (_ : Params) : Obj := ⟨.none, none, (.func ⟨(Str.ofString "push_token"), (Str.ofString "_netrclex.push_token"), (fq 1 3).1, (.stmts (fq 1 3).2.1), (fq 1 3).2.2, 0, [], .none, .none, .none, .none, none, .none, .none, 0⟩), ([]).toArray⟩
noncomputable def o48 (_ : Params) : Obj := ⟨(.type "code"), none, (.fields ([(.str (Str.ofString "push_token") 227), (.str (Str.ofString "_netrclex.push_token") 228), (.str (Str.ofString "/claim/cut.py") 229), (.int 43 0), (.int 2 0), (.int 0 0), (.int 0 0), (.int 3 0), (.ref 43), (.bool true), (.int 181 0), (.ref 44), .none, (.ref 45), (.ref 46), (.ref 47), (.int 232 0), (.int 43 0), (.str (Str.ofString "/claim/cut.py") 233)]).toArray), ([]).toArray⟩
noncomputable def o49 (_ : Params) : Obj := ⟨(.type "function"), none, (.func ⟨(Str.ofString "push_token"), (Str.ofString "_netrclex.push_token"), (fq 1 3).1, (.stmts (fq 1 3).2.1), (fq 1 3).2.2, 3, [], .none, .none, .none, (.str (Str.ofString "cpy313.netrc") 187), none, (.ref 48), .none, 0⟩), ([]).toArray⟩
noncomputable def o50 (_ : Params) : Obj := ⟨(.type "tuple"), none, (.seq ([(.str (Str.ofString "instream") 235), (.str (Str.ofString "lineno") 236), (.str (Str.ofString "pushback") 237), (.str (Str.ofString "whitespace") 238)]).toArray 0), ([]).toArray⟩
noncomputable def o51 (P : Params) : Obj := ⟨(.type "dict"), none, (.dict ([⟨PyData.keyHash P (Str.ofString "__module__"), (.str (Str.ofString "__module__") 196), (.str (Str.ofString "cpy313.netrc") 187)⟩, ⟨PyData.keyHash P (Str.ofString "__firstlineno__"), (.str (Str.ofString "__firstlineno__") 200), (.int 2 199)⟩, ⟨PyData.keyHash P (Str.ofString "__init__"), (.str (Str.ofString "__init__") 208), (.ref 28)⟩, ⟨PyData.keyHash P (Str.ofString "_read_char"), (.str (Str.ofString "_read_char") 216), (.ref 35)⟩, ⟨PyData.keyHash P (Str.ofString "get_token"), (.str (Str.ofString "get_token") 226), (.ref 42)⟩, ⟨PyData.keyHash P (Str.ofString "push_token"), (.str (Str.ofString "push_token") 234), (.ref 49)⟩, ⟨PyData.keyHash P (Str.ofString "__static_attributes__"), (.str (Str.ofString "__static_attributes__") 239), (.ref 50)⟩, ⟨PyData.keyHash P (Str.ofString "__dict__"), (.str (Str.ofString "__dict__") 241), (.ref 53)⟩, ⟨PyData.keyHash P (Str.ofString "__weakref__"), (.str (Str.ofString "__weakref__") 243), (.ref 54)⟩, ⟨PyData.keyHash P (Str.ofString "__doc__"), (.str (Str.ofString "__doc__") 244), .none⟩]).toArray 4), ([]).toArray⟩
noncomputable def o52 (_ : Params) : Obj := ⟨(.type "type"), none, (.cls ⟨(Str.ofString "_netrclex"), [(.type "object")], [(.ref 52), (.type "object")], 51, (Str.ofString "_netrclex"), true, [], [], false, none, false⟩), ([none, none, (some (.str (Str.ofString "_netrclex") 189)), (some (.str (Str.ofString "_netrclex") 197)), (some (.builtin "object.__new__")), (some (.bool true))]).toArray⟩
noncomputable def o53 (_ : Params) : Obj := ⟨(.type "getset_descriptor"), none, (.fields ([(.str (Str.ofString "__dict__") 240), (.ref 52), (.builtin "function.__dict__"), (.builtin "function.__dict__#set")]).toArray), ([]).toArray⟩
noncomputable def o54 (_ : Params) : Obj := ⟨(.type "getset_descriptor"), none, (.fields ([(.str (Str.ofString "__weakref__") 242), (.ref 52), (.builtin "ExceptionGroup.__weakref__"), .none]).toArray), ([]).toArray⟩
noncomputable def o55 (_ : Params) : Obj := ⟨(.type "super"), none, (.fields ([(.ref 52), (.ref 52), (.ref 52)]).toArray), ([]).toArray⟩
noncomputable def o56 (_ : Params) : Obj := ⟨(.type "builtin_function_or_method"), none, (.fields ([(.builtin "object.__init_subclass__"), (.ref 52)]).toArray), ([]).toArray⟩
noncomputable def o3_2 (P : Params) : Obj := ⟨(.type "dict"), none, (.dict ([⟨PyData.keyHash P (Str.ofString "__name__"), (.str (Str.ofString "__name__") 165), (.str (Str.ofString "cpy313.stringprep") 291)⟩, ⟨PyData.keyHash P (Str.ofString "__doc__"), (.str (Str.ofString "__doc__") 166), .none⟩, ⟨PyData.keyHash P (Str.ofString "__package__"), (.str (Str.ofString "__package__") 167), .none⟩, ⟨PyData.keyHash P (Str.ofString "__loader__"), (.str (Str.ofString "__loader__") 168), (.builtin "__main__.__loader__#opaque")⟩, ⟨PyData.keyHash P (Str.ofString "__spec__"), (.str (Str.ofString "__spec__") 169), .none⟩, ⟨PyData.keyHash P (Str.ofString "__annotations__"), (.str (Str.ofString "__annotations__") 170), (.ref 6)⟩, ⟨PyData.keyHash P (Str.ofString "__builtins__"), (.str (Str.ofString "__builtins__") 171), (.ref 4)⟩, ⟨PyData.keyHash P (Str.ofString "__file__"), (.str (Str.ofString "__file__") 173), (.str (Str.ofString "/claim/cut.py") 172)⟩, ⟨PyData.keyHash P (Str.ofString "__cached__"), (.str (Str.ofString "__cached__") 174), .none⟩, ⟨PyData.keyHash P (Str.ofString "_netrclex"), (.str (Str.ofString "_netrclex") 246), (.ref 52)⟩, ⟨PyData.keyHash P (Str.ofString "TICK"), (.str (Str.ofString "TICK") 250), (.str (Str.ofString "'") 249)⟩, ⟨PyData.keyHash P (Str.ofString "_iter_escaped_chars"), (.str (Str.ofString "_iter_escaped_chars") 260), (.ref 63)⟩, ⟨PyData.keyHash P (Str.ofString "_strip_quoted_realnames"), (.str (Str.ofString "_strip_quoted_realnames") 272), (.ref 70)⟩, ⟨PyData.keyHash P (Str.ofString "_check_parenthesis"), (.str (Str.ofString "_check_parenthesis") 282), (.ref 77)⟩, ⟨PyData.keyHash P (Str.ofString "decode_rfc2231"), (.str (Str.ofString "decode_rfc2231") 290), (.ref 84)⟩]).toArray 15), ([]).toArray⟩
noncomputable def o12_2 (_ : Params) : Obj := ⟨.none, none, (.fields ([(.int 2 0), (.int 0 0), (.ref 20), (.int 47 0), (.int 0 0), (.ref 62), (.int 60 0), (.int 0 0), (.ref 69), (.int 78 0), (.int 0 0), (.ref 76), (.int 89 0), (.int 0 0), (.ref 83)]).toArray), ([]).toArray⟩
noncomputable def o57 (_ : Params) : Obj := ⟨(.type "tuple"), none, (.seq ([]).toArray 0), ([]).toArray⟩
noncomputable def o58 (_ : Params) : Obj := ⟨.none, none, (.fields ([]).toArray), ([]).toArray⟩
noncomputable def o59 (_ : Params) : Obj := ⟨(.type "tuple"), none, (.seq ([(.str (Str.ofString "addr") 254), (.str (Str.ofString "pos") 255), (.str (Str.ofString "escape") 256), (.str (Str.ofString "ch") 257)]).toArray 0), ([]).toArray⟩
noncomputable def o60 (_ : Params) : Obj := ⟨(.type "tuple"), none, (.seq ([]).toArray 0), ([]).toArray⟩
noncomputable def o61 (_ : Params) : Obj := ⟨.none, none, (.func ⟨(Str.ofString "_iter_escaped_chars"), (Str.ofString "_iter_escaped_chars"), (fp 4).1, (.stmts (fp 4).2.1), (fp 4).2.2, 0, [], .none, .none, .none, .none, none, .none, .none, 0⟩), ([]).toArray⟩
noncomputable def o62 (_ : Params) : Obj := ⟨(.type "code"), none, (.fields ([(.str (Str.ofString "_iter_escaped_chars") 251), (.str (Str.ofString "_iter_escaped_chars") 252), (.str (Str.ofString "/claim/cut.py") 253), (.int 47 0), (.int 1 0), (.int 0 0), (.int 0 0), (.int 35 0), (.ref 57), (.bool true), (.int 181 0), (.ref 58), .none, (.ref 59), (.ref 60), (.ref 61), (.int 258 0), (.int 47 0), (.str (Str.ofString "/claim/cut.py") 259)]).toArray), ([]).toArray⟩
noncomputable def o63 (_ : Params) : Obj := ⟨(.type "function"), none, (.func ⟨(Str.ofString "_iter_escaped_chars"), (Str.ofString "_iter_escaped_chars"), (fp 4).1, (.stmts (fp 4).2.1), (fp 4).2.2, 3, [], .none, .none, .none, (.str (Str.ofString "cpy313.email.utils") 247), none, (.ref 62), .none, 0⟩), ([]).toArray⟩
noncomputable def o64 (_ : Params) : Obj := ⟨(.type "tuple"), none, (.seq ([]).toArray 0), ([]).toArray⟩
noncomputable def o65 (_ : Params) : Obj := ⟨.none, none, (.fields ([]).toArray), ([]).toArray⟩
noncomputable def o66 (_ : Params) : Obj := ⟨(.type "tuple"), none, (.seq ([(.str (Str.ofString "addr") 264), (.str (Str.ofString "start") 265), (.str (Str.ofString "open_pos") 266), (.str (Str.ofString "result") 267), (.str (Str.ofString "pos") 268), (.str (Str.ofString "ch") 269)]).toArray 0), ([]).toArray⟩
noncomputable def o67 (_ : Params) : Obj := ⟨(.type "tuple"), none, (.seq ([]).toArray 0), ([]).toArray⟩
noncomputable def o68 (_ : Params) : Obj := ⟨.none, none, (.func ⟨(Str.ofString "_strip_quoted_realnames"), (Str.ofString "_strip_quoted_realnames"), (fp 5).1, (.stmts (fp 5).2.1), (fp 5).2.2, 0, [], .none, .none, .none, .none, none, .none, .none, 0⟩), ([]).toArray⟩
noncomputable def o69 (_ : Params) : Obj := ⟨(.type "code"), none, (.fields ([(.str (Str.ofString "_strip_quoted_realnames") 261), (.str (Str.ofString "_strip_quoted_realnames") 262), (.str (Str.ofString "/claim/cut.py") 263), (.int 60 0), (.int 1 0), (.int 0 0), (.int 0 0), (.int 3 0), (.ref 64), (.bool true), (.int 181 0), (.ref 65), .none, (.ref 66), (.ref 67), (.ref 68), (.int 270 0), (.int 60 0), (.str (Str.ofString "/claim/cut.py") 271)]).toArray), ([]).toArray⟩
noncomputable def o70 (_ : Params) : Obj := ⟨(.type "function"), none, (.func ⟨(Str.ofString "_strip_quoted_realnames"), (Str.ofString "_strip_quoted_realnames"), (fp 5).1, (.stmts (fp 5).2.1), (fp 5).2.2, 3, [], .none, .none, .none, (.str (Str.ofString "cpy313.email.utils") 247), none, (.ref 69), .none, 0⟩), ([]).toArray⟩
noncomputable def o71 (_ : Params) : Obj := ⟨(.type "tuple"), none, (.seq ([]).toArray 0), ([]).toArray⟩
noncomputable def o72 (_ : Params) : Obj := ⟨.none, none, (.fields ([]).toArray), ([]).toArray⟩
noncomputable def o73 (_ : Params) : Obj := ⟨(.type "tuple"), none, (.seq ([(.str (Str.ofString "addr") 276), (.str (Str.ofString "opens") 277), (.str (Str.ofString "pos") 278), (.str (Str.ofString "ch") 279)]).toArray 0), ([]).toArray⟩
noncomputable def o74 (_ : Params) : Obj := ⟨(.type "tuple"), none, (.seq ([]).toArray 0), ([]).toArray⟩
noncomputable def o75 (_ : Params) : Obj := ⟨.none, none, (.func ⟨(Str.ofString "_check_parenthesis"), (Str.ofString "_check_parenthesis"), (fp 6).1, (.stmts (fp 6).2.1), (fp 6).2.2, 0, [], .none, .none, .none, .none, none, .none, .none, 0⟩), ([]).toArray⟩
noncomputable def o76 (_ : Params) : Obj := ⟨(.type "code"), none, (.fields ([(.str (Str.ofString "_check_parenthesis") 273), (.str (Str.ofString "_check_parenthesis") 274), (.str (Str.ofString "/claim/cut.py") 275), (.int 78 0), (.int 1 0), (.int 0 0), (.int 0 0), (.int 3 0), (.ref 71), (.bool true), (.int 181 0), (.ref 72), .none, (.ref 73), (.ref 74), (.ref 75), (.int 280 0), (.int 78 0), (.str (Str.ofString "/claim/cut.py") 281)]).toArray), ([]).toArray⟩
noncomputable def o77 (_ : Params) : Obj := ⟨(.type "function"), none, (.func ⟨(Str.ofString "_check_parenthesis"), (Str.ofString "_check_parenthesis"), (fp 6).1, (.stmts (fp 6).2.1), (fp 6).2.2, 3, [], .none, .none, .none, (.str (Str.ofString "cpy313.email.utils") 247), none, (.ref 76), .none, 0⟩), ([]).toArray⟩
noncomputable def o78 (_ : Params) : Obj := ⟨(.type "tuple"), none, (.seq ([]).toArray 0), ([]).toArray⟩
noncomputable def o79 (_ : Params) : Obj := ⟨.none, none, (.fields ([]).toArray), ([]).toArray⟩
noncomputable def o80 (_ : Params) : Obj := ⟨(.type "tuple"), none, (.seq ([(.str (Str.ofString "s") 286), (.str (Str.ofString "parts") 287)]).toArray 0), ([]).toArray⟩
noncomputable def o81 (_ : Params) : Obj := ⟨(.type "tuple"), none, (.seq ([]).toArray 0), ([]).toArray⟩
noncomputable def o82 (_ : Params) : Obj := ⟨.none, none, (.func ⟨(Str.ofString "decode_rfc2231"), (Str.ofString "decode_rfc2231"), (fp 7).1, (.stmts (fp 7).2.1), (fp 7).2.2, 0, [], .none, .none, .none, .none, none, .none, .none, 0⟩), ([]).toArray⟩
noncomputable def o83 (_ : Params) : Obj := ⟨(.type "code"), none, (.fields ([(.str (Str.ofString "decode_rfc2231") 283), (.str (Str.ofString "decode_rfc2231") 284), (.str (Str.ofString "/claim/cut.py") 285), (.int 89 0), (.int 1 0), (.int 0 0), (.int 0 0), (.int 3 0), (.ref 78), (.bool true), (.int 181 0), (.ref 79), .none, (.ref 80), (.ref 81), (.ref 82), (.int 288 0), (.int 89 0), (.str (Str.ofString "/claim/cut.py") 289)]).toArray), ([]).toArray⟩
noncomputable def o84 (_ : Params) : Obj := ⟨(.type "function"), none, (.func ⟨(Str.ofString "decode_rfc2231"), (Str.ofString "decode_rfc2231"), (fp 7).1, (.stmts (fp 7).2.1), (fp 7).2.2, 3, [], .none, .none, .none, (.str (Str.ofString "cpy313.email.utils") 247), none, (.ref 83), .none, 0⟩), ([]).toArray⟩
noncomputable def o3_3 (P : Params) : Obj := ⟨(.type "dict"), none, (.dict ([⟨PyData.keyHash P (Str.ofString "__name__"), (.str (Str.ofString "__name__") 165), (.str (Str.ofString "cpy313.stringprep") 291)⟩, ⟨PyData.keyHash P (Str.ofString "__doc__"), (.str (Str.ofString "__doc__") 166), .none⟩, ⟨PyData.keyHash P (Str.ofString "__package__"), (.str (Str.ofString "__package__") 167), .none⟩, ⟨PyData.keyHash P (Str.ofString "__loader__"), (.str (Str.ofString "__loader__") 168), (.builtin "__main__.__loader__#opaque")⟩, ⟨PyData.keyHash P (Str.ofString "__spec__"), (.str (Str.ofString "__spec__") 169), .none⟩, ⟨PyData.keyHash P (Str.ofString "__annotations__"), (.str (Str.ofString "__annotations__") 170), (.ref 6)⟩, ⟨PyData.keyHash P (Str.ofString "__builtins__"), (.str (Str.ofString "__builtins__") 171), (.ref 4)⟩, ⟨PyData.keyHash P (Str.ofString "__file__"), (.str (Str.ofString "__file__") 173), (.str (Str.ofString "/claim/cut.py") 172)⟩, ⟨PyData.keyHash P (Str.ofString "__cached__"), (.str (Str.ofString "__cached__") 174), .none⟩, ⟨PyData.keyHash P (Str.ofString "_netrclex"), (.str (Str.ofString "_netrclex") 246), (.ref 52)⟩, ⟨PyData.keyHash P (Str.ofString "TICK"), (.str (Str.ofString "TICK") 250), (.str (Str.ofString "'") 249)⟩, ⟨PyData.keyHash P (Str.ofString "_iter_escaped_chars"), (.str (Str.ofString "_iter_escaped_chars") 260), (.ref 63)⟩, ⟨PyData.keyHash P (Str.ofString "_strip_quoted_realnames"), (.str (Str.ofString "_strip_quoted_realnames") 272), (.ref 70)⟩, ⟨PyData.keyHash P (Str.ofString "_check_parenthesis"), (.str (Str.ofString "_check_parenthesis") 282), (.ref 77)⟩, ⟨PyData.keyHash P (Str.ofString "decode_rfc2231"), (.str (Str.ofString "decode_rfc2231") 290), (.ref 84)⟩, ⟨PyData.keyHash P (Str.ofString "b1_set"), (.str (Str.ofString "b1_set") 352), (.ref 92)⟩]).toArray 16), ([]).toArray⟩
noncomputable def o85 (_ : Params) : Obj := ⟨(.type "list"), none, (.seq ([(.int 173 293), (.int 847 294), (.int 6150 295), (.int 6155 296), (.int 6156 297), (.int 6157 298), (.int 8203 299), (.int 8204 300), (.int 8205 301), (.int 8288 302), (.int 65279 303)]).toArray 0), ([]).toArray⟩
noncomputable def o86 (_ : Params) : Obj := ⟨(.type "range"), none, (.fields ([(.int 65024 304), (.int 65040 305), (.int 1 306)]).toArray), ([]).toArray⟩
noncomputable def o87 (_ : Params) : Obj := ⟨(.type "list"), none, (.seq ([(.int 65024 309), (.int 65025 310), (.int 65026 311), (.int 65027 312), (.int 65028 313), (.int 65029 314), (.int 65030 315), (.int 65031 316), (.int 65032 317), (.int 65033 318), (.int 65034 319), (.int 65035 320), (.int 65036 321), (.int 65037 322), (.int 65038 323), (.int 65039 324)]).toArray 18), ([]).toArray⟩
noncomputable def o88 (_ : Params) : Obj := ⟨(.type "range_iterator"), none, (.fields ([(.int 65040 0), (.int 0 0), (.int 1 0)]).toArray), ([]).toArray⟩
noncomputable def o89 (_ : Params) : Obj := ⟨(.type "tuple"), none, (.seq ([]).toArray 0), ([]).toArray⟩
noncomputable def o90 (_ : Params) : Obj := ⟨(.type "StopIteration"), none, (.fields ([(.ref 89), .none, .none, .none, (.bool false), .none]).toArray), ([]).toArray⟩
noncomputable def o91 (_ : Params) : Obj := ⟨(.type "list"), none, (.seq ([(.int 173 293), (.int 847 294), (.int 6150 295), (.int 6155 296), (.int 6156 297), (.int 6157 298), (.int 8203 299), (.int 8204 300), (.int 8205 301), (.int 8288 302), (.int 65279 303), (.int 65024 309), (.int 65025 310), (.int 65026 311), (.int 65027 312), (.int 65028 313), (.int 65029 314), (.int 65030 315), (.int 65031 316), (.int 65032 317), (.int 65033 318), (.int 65034 319), (.int 65035 320), (.int 65036 321), (.int 65037 322), (.int 65038 323), (.int 65039 324)]).toArray 0), ([]).toArray⟩
noncomputable def o92 (P : Params) : Obj := ⟨(.type "set"), none, (.set ([(65024, (.int 65024 309)), (65025, (.int 65025 310)), (65026, (.int 65026 311)), (65027, (.int 65027 312)), (65028, (.int 65028 313)), (65029, (.int 65029 314)), (6150, (.int 6150 295)), (65030, (.int 65030 315)), (65031, (.int 65031 316)), (65032, (.int 65032 317)), (65033, (.int 65033 318)), (6155, (.int 6155 296)), (6156, (.int 6156 297)), (6157, (.int 6157 298)), (8203, (.int 8203 299)), (8204, (.int 8204 300)), (8205, (.int 8205 301)), (65034, (.int 65034 319)), (65035, (.int 65035 320)), (65036, (.int 65036 321)), (65037, (.int 65037 322)), (65038, (.int 65038 323)), (65039, (.int 65039 324)), (173, (.int 173 293)), (847, (.int 847 294)), (8288, (.int 8288 302)), (65279, (.int 65279 303))]).toArray 29 ⟨127, ([0, 1, 2, 3, 4, 5, 6, 7, 8, 9, 10, 11, 12, 13, 14, 15, 16, 17, 18, 19, 20, 21, 22, 45, 79, 96, 127]).toArray, ([]).toArray, 0, (!P.followText "set-order"), 2, true⟩), ([]).toArray⟩
noncomputable def o93 (_ : Params) : Obj := ⟨(.type "list_iterator"), none, (.fields ([.none, (.int 27 0)]).toArray), ([]).toArray⟩
noncomputable def o94 (_ : Params) : Obj := ⟨(.type "tuple"), none, (.seq ([]).toArray 0), ([]).toArray⟩
noncomputable def o95 (_ : Params) : Obj := ⟨(.type "StopIteration"), none, (.fields ([(.ref 94), .none, .none, .none, (.bool false), .none]).toArray), ([]).toArray⟩
noncomputable def o3_4 (P : Params) : Obj := ⟨(.type "dict"), none, (.dict ([⟨PyData.keyHash P (Str.ofString "__name__"), (.str (Str.ofString "__name__") 165), (.str (Str.ofString "cpy313.stringprep") 291)⟩, ⟨PyData.keyHash P (Str.ofString "__doc__"), (.str (Str.ofString "__doc__") 166), .none⟩, ⟨PyData.keyHash P (Str.ofString "__package__"), (.str (Str.ofString "__package__") 167), .none⟩, ⟨PyData.keyHash P (Str.ofString "__loader__"), (.str (Str.ofString "__loader__") 168), (.builtin "__main__.__loader__#opaque")⟩, ⟨PyData.keyHash P (Str.ofString "__spec__"), (.str (Str.ofString "__spec__") 169), .none⟩, ⟨PyData.keyHash P (Str.ofString "__annotations__"), (.str (Str.ofString "__annotations__") 170), (.ref 6)⟩, ⟨PyData.keyHash P (Str.ofString "__builtins__"), (.str (Str.ofString "__builtins__") 171), (.ref 4)⟩, ⟨PyData.keyHash P (Str.ofString "__file__"), (.str (Str.ofString "__file__") 173), (.str (Str.ofString "/claim/cut.py") 172)⟩, ⟨PyData.keyHash P (Str.ofString "__cached__"), (.str (Str.ofString "__cached__") 174), .none⟩, ⟨PyData.keyHash P (Str.ofString "_netrclex"), (.str (Str.ofString "_netrclex") 246), (.ref 52)⟩, ⟨PyData.keyHash P (Str.ofString "TICK"), (.str (Str.ofString "TICK") 250), (.str (Str.ofString "'") 249)⟩, ⟨PyData.keyHash P (Str.ofString "_iter_escaped_chars"), (.str (Str.ofString "_iter_escaped_chars") 260), (.ref 63)⟩, ⟨PyData.keyHash P (Str.ofString "_strip_quoted_realnames"), (.str (Str.ofString "_strip_quoted_realnames") 272), (.ref 70)⟩, ⟨PyData.keyHash P (Str.ofString "_check_parenthesis"), (.str (Str.ofString "_check_parenthesis") 282), (.ref 77)⟩, ⟨PyData.keyHash P (Str.ofString "decode_rfc2231"), (.str (Str.ofString "decode_rfc2231") 290), (.ref 84)⟩, ⟨PyData.keyHash P (Str.ofString "b1_set"), (.str (Str.ofString "b1_set") 352), (.ref 92)⟩, ⟨PyData.keyHash P (Str.ofString "in_table_b1"), (.str (Str.ofString "in_table_b1") 359), (.ref 102)⟩]).toArray 17), ([]).toArray⟩
noncomputable def o12_3 (_ : Params) : Obj := ⟨.none, none, (.fields ([(.int 2 0), (.int 0 0), (.ref 20), (.int 47 0), (.int 0 0), (.ref 62), (.int 60 0), (.int 0 0), (.ref 69), (.int 78 0), (.int 0 0), (.ref 76), (.int 89 0), (.int 0 0), (.ref 83), (.int 96 0), (.int 0 0), (.ref 101)]).toArray), ([]).toArray⟩
noncomputable def o96 (_ : Params) : Obj := ⟨(.type "tuple"), none, (.seq ([]).toArray 0), ([]).toArray⟩
noncomputable def o97 (_ : Params) : Obj := ⟨.none, none, (.fields ([]).toArray), ([]).toArray⟩
noncomputable def o98 (_ : Params) : Obj := ⟨(.type "tuple"), none, (.seq ([(.str (Str.ofString "code") 356)]).toArray 0), ([]).toArray⟩
noncomputable def o99 (_ : Params) : Obj := ⟨(.type "tuple"), none, (.seq ([]).toArray 0), ([]).toArray⟩
noncomputable def o100 (_ : Params) : Obj := ⟨.none, none, (.func ⟨(Str.ofString "in_table_b1"), (Str.ofString "in_table_b1"), (fp 10).1, (.stmts (fp 10).2.1), (fp 10).2.2, 0, [], .none, .none, .none, .none, none, .none, .none, 0⟩), ([]).toArray⟩
noncomputable def o101 (_ : Params) : Obj := ⟨(.type "code"), none, (.fields ([(.str (Str.ofString "in_table_b1") 353), (.str (Str.ofString "in_table_b1") 354), (.str (Str.ofString "/claim/cut.py") 355), (.int 96 0), (.int 1 0), (.int 0 0), (.int 0 0), (.int 3 0), (.ref 96), (.bool true), (.int 181 0), (.ref 97), .none, (.ref 98), (.ref 99), (.ref 100), (.int 357 0), (.int 96 0), (.str (Str.ofString "/claim/cut.py") 358)]).toArray), ([]).toArray⟩
noncomputable def o102 (_ : Params) : Obj := ⟨(.type "function"), none, (.func ⟨(Str.ofString "in_table_b1"), (Str.ofString "in_table_b1"), (fp 10).1, (.stmts (fp 10).2.1), (fp 10).2.2, 3, [], .none, .none, .none, (.str (Str.ofString "cpy313.stringprep") 291), none, (.ref 101), .none, 0⟩), ([]).toArray⟩
noncomputable def o3_5 (P : Params) : Obj := ⟨(.type "dict"), none, (.dict ([⟨PyData.keyHash P (Str.ofString "__name__"), (.str (Str.ofString "__name__") 165), (.str (Str.ofString "cpy313.stringprep") 291)⟩, ⟨PyData.keyHash P (Str.ofString "__doc__"), (.str (Str.ofString "__doc__") 166), .none⟩, ⟨PyData.keyHash P (Str.ofString "__package__"), (.str (Str.ofString "__package__") 167), .none⟩, ⟨PyData.keyHash P (Str.ofString "__loader__"), (.str (Str.ofString "__loader__") 168), (.builtin "__main__.__loader__#opaque")⟩, ⟨PyData.keyHash P (Str.ofString "__spec__"), (.str (Str.ofString "__spec__") 169), .none⟩, ⟨PyData.keyHash P (Str.ofString "__annotations__"), (.str (Str.ofString "__annotations__") 170), (.ref 6)⟩, ⟨PyData.keyHash P (Str.ofString "__builtins__"), (.str (Str.ofString "__builtins__") 171), (.ref 4)⟩, ⟨PyData.keyHash P (Str.ofString "__file__"), (.str (Str.ofString "__file__") 173), (.str (Str.ofString "/claim/cut.py") 172)⟩, ⟨PyData.keyHash P (Str.ofString "__cached__"), (.str (Str.ofString "__cached__") 174), .none⟩, ⟨PyData.keyHash P (Str.ofString "_netrclex"), (.str (Str.ofString "_netrclex") 246), (.ref 52)⟩, ⟨PyData.keyHash P (Str.ofString "TICK"), (.str (Str.ofString "TICK") 250), (.str (Str.ofString "'") 249)⟩, ⟨PyData.keyHash P (Str.ofString "_iter_escaped_chars"), (.str (Str.ofString "_iter_escaped_chars") 260), (.ref 63)⟩, ⟨PyData.keyHash P (Str.ofString "_strip_quoted_realnames"), (.str (Str.ofString "_strip_quoted_realnames") 272), (.ref 70)⟩, ⟨PyData.keyHash P (Str.ofString "_check_parenthesis"), (.str (Str.ofString "_check_parenthesis") 282), (.ref 77)⟩, ⟨PyData.keyHash P (Str.ofString "decode_rfc2231"), (.str (Str.ofString "decode_rfc2231") 290), (.ref 84)⟩, ⟨PyData.keyHash P (Str.ofString "b1_set"), (.str (Str.ofString "b1_set") 352), (.ref 92)⟩, ⟨PyData.keyHash P (Str.ofString "in_table_b1"), (.str (Str.ofString "in_table_b1") 359), (.ref 102)⟩, ⟨PyData.keyHash P (Str.ofString "b3_exceptions"), (.str (Str.ofString "b3_exceptions") 2310), (.ref 103)⟩]).toArray 18), ([]).toArray⟩
noncomputable def o3_6 (P : Params) : Obj := ⟨(.type "dict"), none, (.dict ([⟨PyData.keyHash P (Str.ofString "__name__"), (.str (Str.ofString "__name__") 165), (.str (Str.ofString "cpy313.token") 2319)⟩, ⟨PyData.keyHash P (Str.ofString "__doc__"), (.str (Str.ofString "__doc__") 166), .none⟩, ⟨PyData.keyHash P (Str.ofString "__package__"), (.str (Str.ofString "__package__") 167), .none⟩, ⟨PyData.keyHash P (Str.ofString "__loader__"), (.str (Str.ofString "__loader__") 168), (.builtin "__main__.__loader__#opaque")⟩, ⟨PyData.keyHash P (Str.ofString "__spec__"), (.str (Str.ofString "__spec__") 169), .none⟩, ⟨PyData.keyHash P (Str.ofString "__annotations__"), (.str (Str.ofString "__annotations__") 170), (.ref 6)⟩, ⟨PyData.keyHash P (Str.ofString "__builtins__"), (.str (Str.ofString "__builtins__") 171), (.ref 4)⟩, ⟨PyData.keyHash P (Str.ofString "__file__"), (.str (Str.ofString "__file__") 173), (.str (Str.ofString "/claim/cut.py") 172)⟩, ⟨PyData.keyHash P (Str.ofString "__cached__"), (.str (Str.ofString "__cached__") 174), .none⟩, ⟨PyData.keyHash P (Str.ofString "_netrclex"), (.str (Str.ofString "_netrclex") 246), (.ref 52)⟩, ⟨PyData.keyHash P (Str.ofString "TICK"), (.str (Str.ofString "TICK") 250), (.str (Str.ofString "'") 249)⟩, ⟨PyData.keyHash P (Str.ofString "_iter_escaped_chars"), (.str (Str.ofString "_iter_escaped_chars") 260), (.ref 63)⟩, ⟨PyData.keyHash P (Str.ofString "_strip_quoted_realnames"), (.str (Str.ofString "_strip_quoted_realnames") 272), (.ref 70)⟩, ⟨PyData.keyHash P (Str.ofString "_check_parenthesis"), (.str (Str.ofString "_check_parenthesis") 282), (.ref 77)⟩, ⟨PyData.keyHash P (Str.ofString "decode_rfc2231"), (.str (Str.ofString "decode_rfc2231") 290), (.ref 84)⟩, ⟨PyData.keyHash P (Str.ofString "b1_set"), (.str (Str.ofString "b1_set") 352), (.ref 92)⟩, ⟨PyData.keyHash P (Str.ofString "in_table_b1"), (.str (Str.ofString "in_table_b1") 359), (.ref 102)⟩, ⟨PyData.keyHash P (Str.ofString "b3_exceptions"), (.str (Str.ofString "b3_exceptions") 2310), (.ref 103)⟩, ⟨PyData.keyHash P (Str.ofString "map_table_b3"), (.str (Str.ofString "map_table_b3") 2318), (.ref 148)⟩, ⟨PyData.keyHash P (Str.ofString "ENDMARKER"), (.str (Str.ofString "ENDMARKER") 2322), (.int 0 2321)⟩, ⟨PyData.keyHash P (Str.ofString "LPAR"), (.str (Str.ofString "LPAR") 2324), (.int 7 2323)⟩, ⟨PyData.keyHash P (Str.ofString "RPAR"), (.str (Str.ofString "RPAR") 2326), (.int 8 2325)⟩, ⟨PyData.keyHash P (Str.ofString "LSQB"), (.str (Str.ofString "LSQB") 2328), (.int 9 2327)⟩, ⟨PyData.keyHash P (Str.ofString "RSQB"), (.str (Str.ofString "RSQB") 2330), (.int 10 2329)⟩, ⟨PyData.keyHash P (Str.ofString "COLON"), (.str (Str.ofString "COLON") 2332), (.int 11 2331)⟩, ⟨PyData.keyHash P (Str.ofString "COMMA"), (.str (Str.ofString "COMMA") 2334), (.int 12 2333)⟩, ⟨PyData.keyHash P (Str.ofString "SEMI"), (.str (Str.ofString "SEMI") 2336), (.int 13 2335)⟩, ⟨PyData.keyHash P (Str.ofString "PLUS"), (.str (Str.ofString "PLUS") 2338), (.int 14 2337)⟩, ⟨PyData.keyHash P (Str.ofString "MINUS"), (.str (Str.ofString "MINUS") 2340), (.int 15 2339)⟩, ⟨PyData.keyHash P (Str.ofString "STAR"), (.str (Str.ofString "STAR") 2342), (.int 16 2341)⟩, ⟨PyData.keyHash P (Str.ofString "SLASH"), (.str (Str.ofString "SLASH") 2344), (.int 17 2343)⟩, ⟨PyData.keyHash P (Str.ofString "VBAR"), (.str (Str.ofString "VBAR") 2346), (.int 18 2345)⟩, ⟨PyData.keyHash P (Str.ofString "AMPER"), (.str (Str.ofString "AMPER") 2348), (.int 19 2347)⟩, ⟨PyData.keyHash P (Str.ofString "LESS"), (.str (Str.ofString "LESS") 2350), (.int 20 2349)⟩, ⟨PyData.keyHash P (Str.ofString "GREATER"), (.str (Str.ofString "GREATER") 2352), (.int 21 2351)⟩, ⟨PyData.keyHash P (Str.ofString "EQUAL"), (.str (Str.ofString "EQUAL") 2354), (.int 22 2353)⟩, ⟨PyData.keyHash P (Str.ofString "DOT"), (.str (Str.ofString "DOT") 2356), (.int 23 2355)⟩, ⟨PyData.keyHash P (Str.ofString "PERCENT"), (.str (Str.ofString "PERCENT") 2358), (.int 24 2357)⟩, ⟨PyData.keyHash P (Str.ofString "LBRACE"), (.str (Str.ofString "LBRACE") 2360), (.int 25 2359)⟩, ⟨PyData.keyHash P (Str.ofString "RBRACE"), (.str (Str.ofString "RBRACE") 2362), (.int 26 2361)⟩, ⟨PyData.keyHash P (Str.ofString "EQEQUAL"), (.str (Str.ofString "EQEQUAL") 2364), (.int 27 2363)⟩, ⟨PyData.keyHash P (Str.ofString "NOTEQUAL"), (.str (Str.ofString "NOTEQUAL") 2366), (.int 28 2365)⟩, ⟨PyData.keyHash P (Str.ofString "LESSEQUAL"), (.str (Str.ofString "LESSEQUAL") 2368), (.int 29 2367)⟩, ⟨PyData.keyHash P (Str.ofString "GREATEREQUAL"), (.str (Str.ofString "GREATEREQUAL") 2370), (.int 30 2369)⟩, ⟨PyData.keyHash P (Str.ofString "TILDE"), (.str (Str.ofString "TILDE") 2372), (.int 31 2371)⟩, ⟨PyData.keyHash P (Str.ofString "CIRCUMFLEX"), (.str (Str.ofString "CIRCUMFLEX") 2374), (.int 32 2373)⟩, ⟨PyData.keyHash P (Str.ofString "LEFTSHIFT"), (.str (Str.ofString "LEFTSHIFT") 2376), (.int 33 2375)⟩, ⟨PyData.keyHash P (Str.ofString "RIGHTSHIFT"), (.str (Str.ofString "RIGHTSHIFT") 2378), (.int 34 2377)⟩, ⟨PyData.keyHash P (Str.ofString "DOUBLESTAR"), (.str (Str.ofString "DOUBLESTAR") 2380), (.int 35 2379)⟩, ⟨PyData.keyHash P (Str.ofString "PLUSEQUAL"), (.str (Str.ofString "PLUSEQUAL") 2382), (.int 36 2381)⟩, ⟨PyData.keyHash P (Str.ofString "MINEQUAL"), (.str (Str.ofString "MINEQUAL") 2384), (.int 37 2383)⟩, ⟨PyData.keyHash P (Str.ofString "STAREQUAL"), (.str (Str.ofString "STAREQUAL") 2386), (.int 38 2385)⟩, ⟨PyData.keyHash P (Str.ofString "SLASHEQUAL"), (.str (Str.ofString "SLASHEQUAL") 2388), (.int 39 2387)⟩, ⟨PyData.keyHash P (Str.ofString "PERCENTEQUAL"), (.str (Str.ofString "PERCENTEQUAL") 2390), (.int 40 2389)⟩, ⟨PyData.keyHash P (Str.ofString "AMPEREQUAL"), (.str (Str.ofString "AMPEREQUAL") 2392), (.int 41 2391)⟩, ⟨PyData.keyHash P (Str.ofString "VBAREQUAL"), (.str (Str.ofString "VBAREQUAL") 2394), (.int 42 2393)⟩, ⟨PyData.keyHash P (Str.ofString "CIRCUMFLEXEQUAL"), (.str (Str.ofString "CIRCUMFLEXEQUAL") 2396), (.int 43 2395)⟩, ⟨PyData.keyHash P (Str.ofString "LEFTSHIFTEQUAL"), (.str (Str.ofString "LEFTSHIFTEQUAL") 2398), (.int 44 2397)⟩, ⟨PyData.keyHash P (Str.ofString "RIGHTSHIFTEQUAL"), (.str (Str.ofString "RIGHTSHIFTEQUAL") 2400), (.int 45 2399)⟩, ⟨PyData.keyHash P (Str.ofString "DOUBLESTAREQUAL"), (.str (Str.ofString "DOUBLESTAREQUAL") 2402), (.int 46 2401)⟩, ⟨PyData.keyHash P (Str.ofString "DOUBLESLASH"), (.str (Str.ofString "DOUBLESLASH") 2404), (.int 47 2403)⟩, ⟨PyData.keyHash P (Str.ofString "DOUBLESLASHEQUAL"), (.str (Str.ofString "DOUBLESLASHEQUAL") 2406), (.int 48 2405)⟩, ⟨PyData.keyHash P (Str.ofString "AT"), (.str (Str.ofString "AT") 2408), (.int 49 2407)⟩, ⟨PyData.keyHash P (Str.ofString "ATEQUAL"), (.str (Str.ofString "ATEQUAL") 2410), (.int 50 2409)⟩, ⟨PyData.keyHash P (Str.ofString "RARROW"), (.str (Str.ofString "RARROW") 2412), (.int 51 2411)⟩, ⟨PyData.keyHash P (Str.ofString "ELLIPSIS"), (.str (Str.ofString "ELLIPSIS") 2414), (.int 52 2413)⟩, ⟨PyData.keyHash P (Str.ofString "COLONEQUAL"), (.str (Str.ofString "COLONEQUAL") 2416), (.int 53 2415)⟩, ⟨PyData.keyHash P (Str.ofString "EXCLAMATION"), (.str (Str.ofString "EXCLAMATION") 2418), (.int 54 2417)⟩]).toArray 68), ([]).toArray⟩
noncomputable def o12_4 (_ : Params) : Obj := ⟨.none, none, (.fields ([(.int 2 0), (.int 0 0), (.ref 20), (.int 47 0), (.int 0 0), (.ref 62), (.int 60 0), (.int 0 0), (.ref 69), (.int 78 0), (.int 0 0), (.ref 76), (.int 89 0), (.int 0 0), (.ref 83), (.int 96 0), (.int 0 0), (.ref 101), (.int 99 0), (.int 0 0), (.ref 147)]).toArray), ([]).toArray⟩
noncomputable def o142 (_ : Params) : Obj := ⟨(.type "tuple"), none, (.seq ([]).toArray 0), ([]).toArray⟩
noncomputable def o143 (_ : Params) : Obj := ⟨.none, none, (.fields ([]).toArray), ([]).toArray⟩
noncomputable def o144 (_ : Params) : Obj := ⟨(.type "tuple"), none, (.seq ([(.str (Str.ofString "code") 2314), (.str (Str.ofString "r") 2315)]).toArray 0), ([]).toArray⟩
noncomputable def o145 (_ : Params) : Obj := ⟨(.type "tuple"), none, (.seq ([]).toArray 0), ([]).toArray⟩
noncomputable def o146 (_ : Params) : Obj := ⟨.none, none, (.func ⟨(Str.ofString "map_table_b3"), (Str.ofString "map_table_b3"), (fp 12).1, (.stmts (fp 12).2.1), (fp 12).2.2, 0, [], .none, .none, .none, .none, none, .none, .none, 0⟩), ([]).toArray⟩
noncomputable def o147 (_ : Params) : Obj := ⟨(.type "code"), none, (.fields ([(.str (Str.ofString "map_table_b3") 2311), (.str (Str.ofString "map_table_b3") 2312), (.str (Str.ofString "/claim/cut.py") 2313), (.int 99 0), (.int 1 0), (.int 0 0), (.int 0 0), (.int 3 0), (.ref 142), (.bool true), (.int 181 0), (.ref 143), .none, (.ref 144), (.ref 145), (.ref 146), (.int 2316 0), (.int 99 0), (.str (Str.ofString "/claim/cut.py") 2317)]).toArray), ([]).toArray⟩
noncomputable def o148 (_ : Params) : Obj := ⟨(.type "function"), none, (.func ⟨(Str.ofString "map_table_b3"), (Str.ofString "map_table_b3"), (fp 12).1, (.stmts (fp 12).2.1), (fp 12).2.2, 3, [], .none, .none, .none, (.str (Str.ofString "cpy313.stringprep") 291), none, (.ref 147), .none, 0⟩), ([]).toArray⟩
noncomputable def o3_7 (P : Params) : Obj := ⟨(.type "dict"), none, (.dict ([⟨PyData.keyHash P (Str.ofString "__name__"), (.str (Str.ofString "__name__") 165), (.str (Str.ofString "cpy313.token") 2319)⟩, ⟨PyData.keyHash P (Str.ofString "__doc__"), (.str (Str.ofString "__doc__") 166), .none⟩, ⟨PyData.keyHash P (Str.ofString "__package__"), (.str (Str.ofString "__package__") 167), .none⟩, ⟨PyData.keyHash P (Str.ofString "__loader__"), (.str (Str.ofString "__loader__") 168), (.builtin "__main__.__loader__#opaque")⟩, ⟨PyData.keyHash P (Str.ofString "__spec__"), (.str (Str.ofString "__spec__") 169), .none⟩, ⟨PyData.keyHash P (Str.ofString "__annotations__"), (.str (Str.ofString "__annotations__") 170), (.ref 6)⟩, ⟨PyData.keyHash P (Str.ofString "__builtins__"), (.str (Str.ofString "__builtins__") 171), (.ref 4)⟩, ⟨PyData.keyHash P (Str.ofString "__file__"), (.str (Str.ofString "__file__") 173), (.str (Str.ofString "/claim/cut.py") 172)⟩, ⟨PyData.keyHash P (Str.ofString "__cached__"), (.str (Str.ofString "__cached__") 174), .none⟩, ⟨PyData.keyHash P (Str.ofString "_netrclex"), (.str (Str.ofString "_netrclex") 246), (.ref 52)⟩, ⟨PyData.keyHash P (Str.ofString "TICK"), (.str (Str.ofString "TICK") 250), (.str (Str.ofString "'") 249)⟩, ⟨PyData.keyHash P (Str.ofString "_iter_escaped_chars"), (.str (Str.ofString "_iter_escaped_chars") 260), (.ref 63)⟩, ⟨PyData.keyHash P (Str.ofString "_strip_quoted_realnames"), (.str (Str.ofString "_strip_quoted_realnames") 272), (.ref 70)⟩, ⟨PyData.keyHash P (Str.ofString "_check_parenthesis"), (.str (Str.ofString "_check_parenthesis") 282), (.ref 77)⟩, ⟨PyData.keyHash P (Str.ofString "decode_rfc2231"), (.str (Str.ofString "decode_rfc2231") 290), (.ref 84)⟩, ⟨PyData.keyHash P (Str.ofString "b1_set"), (.str (Str.ofString "b1_set") 352), (.ref 92)⟩, ⟨PyData.keyHash P (Str.ofString "in_table_b1"), (.str (Str.ofString "in_table_b1") 359), (.ref 102)⟩, ⟨PyData.keyHash P (Str.ofString "b3_exceptions"), (.str (Str.ofString "b3_exceptions") 2310), (.ref 103)⟩, ⟨PyData.keyHash P (Str.ofString "map_table_b3"), (.str (Str.ofString "map_table_b3") 2318), (.ref 148)⟩, ⟨PyData.keyHash P (Str.ofString "ENDMARKER"), (.str (Str.ofString "ENDMARKER") 2322), (.int 0 2321)⟩, ⟨PyData.keyHash P (Str.ofString "LPAR"), (.str (Str.ofString "LPAR") 2324), (.int 7 2323)⟩, ⟨PyData.keyHash P (Str.ofString "RPAR"), (.str (Str.ofString "RPAR") 2326), (.int 8 2325)⟩, ⟨PyData.keyHash P (Str.ofString "LSQB"), (.str (Str.ofString "LSQB") 2328), (.int 9 2327)⟩, ⟨PyData.keyHash P (Str.ofString "RSQB"), (.str (Str.ofString "RSQB") 2330), (.int 10 2329)⟩, ⟨PyData.keyHash P (Str.ofString "COLON"), (.str (Str.ofString "COLON") 2332), (.int 11 2331)⟩, ⟨PyData.keyHash P (Str.ofString "COMMA"), (.str (Str.ofString "COMMA") 2334), (.int 12 2333)⟩, ⟨PyData.keyHash P (Str.ofString "SEMI"), (.str (Str.ofString "SEMI") 2336), (.int 13 2335)⟩, ⟨PyData.keyHash P (Str.ofString "PLUS"), (.str (Str.ofString "PLUS") 2338), (.int 14 2337)⟩, ⟨PyData.keyHash P (Str.ofString "MINUS"), (.str (Str.ofString "MINUS") 2340), (.int 15 2339)⟩, ⟨PyData.keyHash P (Str.ofString "STAR"), (.str (Str.ofString "STAR") 2342), (.int 16 2341)⟩, ⟨PyData.keyHash P (Str.ofString "SLASH"), (.str (Str.ofString "SLASH") 2344), (.int 17 2343)⟩, ⟨PyData.keyHash P (Str.ofString "VBAR"), (.str (Str.ofString "VBAR") 2346), (.int 18 2345)⟩, ⟨PyData.keyHash P (Str.ofString "AMPER"), (.str (Str.ofString "AMPER") 2348), (.int 19 2347)⟩, ⟨PyData.keyHash P (Str.ofString "LESS"), (.str (Str.ofString "LESS") 2350), (.int 20 2349)⟩, ⟨PyData.keyHash P (Str.ofString "GREATER"), (.str (Str.ofString "GREATER") 2352), (.int 21 2351)⟩, ⟨PyData.keyHash P (Str.ofString "EQUAL"), (.str (Str.ofString "EQUAL") 2354), (.int 22 2353)⟩, ⟨PyData.keyHash P (Str.ofString "DOT"), (.str (Str.ofString "DOT") 2356), (.int 23 2355)⟩, ⟨PyData.keyHash P (Str.ofString "PERCENT"), (.str (Str.ofString "PERCENT") 2358), (.int 24 2357)⟩, ⟨PyData.keyHash P (Str.ofString "LBRACE"), (.str (Str.ofString "LBRACE") 2360), (.int 25 2359)⟩, ⟨PyData.keyHash P (Str.ofString "RBRACE"), (.str (Str.ofString "RBRACE") 2362), (.int 26 2361)⟩, ⟨PyData.keyHash P (Str.ofString "EQEQUAL"), (.str (Str.ofString "EQEQUAL") 2364), (.int 27 2363)⟩, ⟨PyData.keyHash P (Str.ofString "NOTEQUAL"), (.str (Str.ofString "NOTEQUAL") 2366), (.int 28 2365)⟩, ⟨PyData.keyHash P (Str.ofString "LESSEQUAL"), (.str (Str.ofString "LESSEQUAL") 2368), (.int 29 2367)⟩, ⟨PyData.keyHash P (Str.ofString "GREATEREQUAL"), (.str (Str.ofString "GREATEREQUAL") 2370), (.int 30 2369)⟩, ⟨PyData.keyHash P (Str.ofString "TILDE"), (.str (Str.ofString "TILDE") 2372), (.int 31 2371)⟩, ⟨PyData.keyHash P (Str.ofString "CIRCUMFLEX"), (.str (Str.ofString "CIRCUMFLEX") 2374), (.int 32 2373)⟩, ⟨PyData.keyHash P (Str.ofString "LEFTSHIFT"), (.str (Str.ofString "LEFTSHIFT") 2376), (.int 33 2375)⟩, ⟨PyData.keyHash P (Str.ofString "RIGHTSHIFT"), (.str (Str.ofString "RIGHTSHIFT") 2378), (.int 34 2377)⟩, ⟨PyData.keyHash P (Str.ofString "DOUBLESTAR"), (.str (Str.ofString "DOUBLESTAR") 2380), (.int 35 2379)⟩, ⟨PyData.keyHash P (Str.ofString "PLUSEQUAL"), (.str (Str.ofString "PLUSEQUAL") 2382), (.int 36 2381)⟩, ⟨PyData.keyHash P (Str.ofString "MINEQUAL"), (.str (Str.ofString "MINEQUAL") 2384), (.int 37 2383)⟩, ⟨PyData.keyHash P (Str.ofString "STAREQUAL"), (.str (Str.ofString "STAREQUAL") 2386), (.int 38 2385)⟩, ⟨PyData.keyHash P (Str.ofString "SLASHEQUAL"), (.str (Str.ofString "SLASHEQUAL") 2388), (.int 39 2387)⟩, ⟨PyData.keyHash P (Str.ofString "PERCENTEQUAL"), (.str (Str.ofString "PERCENTEQUAL") 2390), (.int 40 2389)⟩, ⟨PyData.keyHash P (Str.ofString "AMPEREQUAL"), (.str (Str.ofString "AMPEREQUAL") 2392), (.int 41 2391)⟩, ⟨PyData.keyHash P (Str.ofString "VBAREQUAL"), (.str (Str.ofString "VBAREQUAL") 2394), (.int 42 2393)⟩, ⟨PyData.keyHash P (Str.ofString "CIRCUMFLEXEQUAL"), (.str (Str.ofString "CIRCUMFLEXEQUAL") 2396), (.int 43 2395)⟩, ⟨PyData.keyHash P (Str.ofString "LEFTSHIFTEQUAL"), (.str (Str.ofString "LEFTSHIFTEQUAL") 2398), (.int 44 2397)⟩, ⟨PyData.keyHash P (Str.ofString "RIGHTSHIFTEQUAL"), (.str (Str.ofString "RIGHTSHIFTEQUAL") 2400), (.int 45 2399)⟩, ⟨PyData.keyHash P (Str.ofString "DOUBLESTAREQUAL"), (.str (Str.ofString "DOUBLESTAREQUAL") 2402), (.int 46 2401)⟩, ⟨PyData.keyHash P (Str.ofString "DOUBLESLASH"), (.str (Str.ofString "DOUBLESLASH") 2404), (.int 47 2403)⟩, ⟨PyData.keyHash P (Str.ofString "DOUBLESLASHEQUAL"), (.str (Str.ofString "DOUBLESLASHEQUAL") 2406), (.int 48 2405)⟩, ⟨PyData.keyHash P (Str.ofString "AT"), (.str (Str.ofString "AT") 2408), (.int 49 2407)⟩, ⟨PyData.keyHash P (Str.ofString "ATEQUAL"), (.str (Str.ofString "ATEQUAL") 2410), (.int 50 2409)⟩, ⟨PyData.keyHash P (Str.ofString "RARROW"), (.str (Str.ofString "RARROW") 2412), (.int 51 2411)⟩, ⟨PyData.keyHash P (Str.ofString "ELLIPSIS"), (.str (Str.ofString "ELLIPSIS") 2414), (.int 52 2413)⟩, ⟨PyData.keyHash P (Str.ofString "COLONEQUAL"), (.str (Str.ofString "COLONEQUAL") 2416), (.int 53 2415)⟩, ⟨PyData.keyHash P (Str.ofString "EXCLAMATION"), (.str (Str.ofString "EXCLAMATION") 2418), (.int 54 2417)⟩, ⟨PyData.keyHash P (Str.ofString "EXACT_TOKEN_TYPES"), (.str (Str.ofString "EXACT_TOKEN_TYPES") 2515), (.ref 149)⟩]).toArray 69), ([]).toArray⟩
noncomputable def o149 (P : Params) : Obj := ⟨(.type "dict"), none, (.dict ([⟨PyData.keyHash P (Str.ofString "!"), (.str (Str.ofString "!") 2419), (.int 54 2417)⟩, ⟨PyData.keyHash P (Str.ofString "!="), (.str (Str.ofString "!=") 2421), (.int 28 2365)⟩, ⟨PyData.keyHash P (Str.ofString "%"), (.str (Str.ofString "%") 2423), (.int 24 2357)⟩, ⟨PyData.keyHash P (Str.ofString "%="), (.str (Str.ofString "%=") 2425), (.int 40 2389)⟩, ⟨PyData.keyHash P (Str.ofString "&"), (.str (Str.ofString "&") 2427), (.int 19 2347)⟩, ⟨PyData.keyHash P (Str.ofString "&="), (.str (Str.ofString "&=") 2429), (.int 41 2391)⟩, ⟨PyData.keyHash P (Str.ofString "("), (.str (Str.ofString "(") 2431), (.int 7 2323)⟩, ⟨PyData.keyHash P (Str.ofString ")"), (.str (Str.ofString ")") 2433), (.int 8 2325)⟩, ⟨PyData.keyHash P (Str.ofString "*"), (.str (Str.ofString "*") 2435), (.int 16 2341)⟩, ⟨PyData.keyHash P (Str.ofString "**"), (.str (Str.ofString "**") 2437), (.int 35 2379)⟩, ⟨PyData.keyHash P (Str.ofString "**="), (.str (Str.ofString "**=") 2439), (.int 46 2401)⟩, ⟨PyData.keyHash P (Str.ofString "*="), (.str (Str.ofString "*=") 2441), (.int 38 2385)⟩, ⟨PyData.keyHash P (Str.ofString "+"), (.str (Str.ofString "+") 2443), (.int 14 2337)⟩, ⟨PyData.keyHash P (Str.ofString "+="), (.str (Str.ofString "+=") 2445), (.int 36 2381)⟩, ⟨PyData.keyHash P (Str.ofString ","), (.str (Str.ofString ",") 2447), (.int 12 2333)⟩, ⟨PyData.keyHash P (Str.ofString "-"), (.str (Str.ofString "-") 2449), (.int 15 2339)⟩, ⟨PyData.keyHash P (Str.ofString "-="), (.str (Str.ofString "-=") 2451), (.int 37 2383)⟩, ⟨PyData.keyHash P (Str.ofString "->"), (.str (Str.ofString "->") 2453), (.int 51 2411)⟩, ⟨PyData.keyHash P (Str.ofString "."), (.str (Str.ofString ".") 2455), (.int 23 2355)⟩, ⟨PyData.keyHash P (Str.ofString "..."), (.str (Str.ofString "...") 2457), (.int 52 2413)⟩, ⟨PyData.keyHash P (Str.ofString "/"), (.str (Str.ofString "/") 2459), (.int 17 2343)⟩, ⟨PyData.keyHash P (Str.ofString "//"), (.str (Str.ofString "//") 2461), (.int 47 2403)⟩, ⟨PyData.keyHash P (Str.ofString "//="), (.str (Str.ofString "//=") 2463), (.int 48 2405)⟩, ⟨PyData.keyHash P (Str.ofString "/="), (.str (Str.ofString "/=") 2465), (.int 39 2387)⟩, ⟨PyData.keyHash P (Str.ofString ":"), (.str (Str.ofString ":") 2467), (.int 11 2331)⟩, ⟨PyData.keyHash P (Str.ofString ":="), (.str (Str.ofString ":=") 2469), (.int 53 2415)⟩, ⟨PyData.keyHash P (Str.ofString ";"), (.str (Str.ofString ";") 2471), (.int 13 2335)⟩, ⟨PyData.keyHash P (Str.ofString "<"), (.str (Str.ofString "<") 2473), (.int 20 2349)⟩, ⟨PyData.keyHash P (Str.ofString "<<"), (.str (Str.ofString "<<") 2475), (.int 33 2375)⟩, ⟨PyData.keyHash P (Str.ofString "<<="), (.str (Str.ofString "<<=") 2477), (.int 44 2397)⟩, ⟨PyData.keyHash P (Str.ofString "<="), (.str (Str.ofString "<=") 2479), (.int 29 2367)⟩, ⟨PyData.keyHash P (Str.ofString "="), (.str (Str.ofString "=") 2481), (.int 22 2353)⟩, ⟨PyData.keyHash P (Str.ofString "=="), (.str (Str.ofString "==") 2483), (.int 27 2363)⟩, ⟨PyData.keyHash P (Str.ofString ">"), (.str (Str.ofString ">") 2485), (.int 21 2351)⟩, ⟨PyData.keyHash P (Str.ofString ">="), (.str (Str.ofString ">=") 2487), (.int 30 2369)⟩, ⟨PyData.keyHash P (Str.ofString ">>"), (.str (Str.ofString ">>") 2488), (.int 34 2377)⟩, ⟨PyData.keyHash P (Str.ofString ">>="), (.str (Str.ofString ">>=") 2489), (.int 45 2399)⟩, ⟨PyData.keyHash P (Str.ofString "@"), (.str (Str.ofString "@") 2490), (.int 49 2407)⟩, ⟨PyData.keyHash P (Str.ofString "@="), (.str (Str.ofString "@=") 2491), (.int 50 2409)⟩, ⟨PyData.keyHash P (Str.ofString "["), (.str (Str.ofString "[") 2492), (.int 9 2327)⟩, ⟨PyData.keyHash P (Str.ofString "]"), (.str (Str.ofString "]") 2493), (.int 10 2329)⟩, ⟨PyData.keyHash P (Str.ofString "^"), (.str (Str.ofString "^") 2494), (.int 32 2373)⟩, ⟨PyData.keyHash P (Str.ofString "^="), (.str (Str.ofString "^=") 2495), (.int 43 2395)⟩, ⟨PyData.keyHash P (Str.ofString "{"), (.str (Str.ofString "{") 2496), (.int 25 2359)⟩, ⟨PyData.keyHash P (Str.ofString "|"), (.str (Str.ofString "|") 2497), (.int 18 2345)⟩, ⟨PyData.keyHash P (Str.ofString "|="), (.str (Str.ofString "|=") 2498), (.int 42 2393)⟩, ⟨PyData.keyHash P (Str.ofString "}"), (.str (Str.ofString "}") 2499), (.int 26 2361)⟩, ⟨PyData.keyHash P (Str.ofString "~"), (.str (Str.ofString "~") 2500), (.int 31 2371)⟩]).toArray 48), ([]).toArray⟩
noncomputable def o150 (P : Params) : Obj := ⟨(.type "dict"), none, (.dict ([⟨PyData.keyHash P (Str.ofString "->"), (.str (Str.ofString "->") 2453), (.int 51 2411)⟩, ⟨PyData.keyHash P (Str.ofString "."), (.str (Str.ofString ".") 2455), (.int 23 2355)⟩, ⟨PyData.keyHash P (Str.ofString "..."), (.str (Str.ofString "...") 2457), (.int 52 2413)⟩, ⟨PyData.keyHash P (Str.ofString "/"), (.str (Str.ofString "/") 2459), (.int 17 2343)⟩, ⟨PyData.keyHash P (Str.ofString "//"), (.str (Str.ofString "//") 2461), (.int 47 2403)⟩, ⟨PyData.keyHash P (Str.ofString "//="), (.str (Str.ofString "//=") 2463), (.int 48 2405)⟩, ⟨PyData.keyHash P (Str.ofString "/="), (.str (Str.ofString "/=") 2465), (.int 39 2387)⟩, ⟨PyData.keyHash P (Str.ofString ":"), (.str (Str.ofString ":") 2467), (.int 11 2331)⟩, ⟨PyData.keyHash P (Str.ofString ":="), (.str (Str.ofString ":=") 2469), (.int 53 2415)⟩, ⟨PyData.keyHash P (Str.ofString ";"), (.str (Str.ofString ";") 2471), (.int 13 2335)⟩, ⟨PyData.keyHash P (Str.ofString "<"), (.str (Str.ofString "<") 2473), (.int 20 2349)⟩, ⟨PyData.keyHash P (Str.ofString "<<"), (.str (Str.ofString "<<") 2475), (.int 33 2375)⟩, ⟨PyData.keyHash P (Str.ofString "<<="), (.str (Str.ofString "<<=") 2477), (.int 44 2397)⟩, ⟨PyData.keyHash P (Str.ofString "<="), (.str (Str.ofString "<=") 2479), (.int 29 2367)⟩, ⟨PyData.keyHash P (Str.ofString "="), (.str (Str.ofString "=") 2481), (.int 22 2353)⟩, ⟨PyData.keyHash P (Str.ofString "=="), (.str (Str.ofString "==") 2483), (.int 27 2363)⟩, ⟨PyData.keyHash P (Str.ofString ">"), (.str (Str.ofString ">") 2485), (.int 21 2351)⟩]).toArray 17), ([]).toArray⟩
noncomputable def o151 (P : Params) : Obj := ⟨(.type "dict"), none, (.dict ([⟨PyData.keyHash P (Str.ofString ">="), (.str (Str.ofString ">=") 2487), (.int 30 2369)⟩, ⟨PyData.keyHash P (Str.ofString ">>"), (.str (Str.ofString ">>") 2488), (.int 34 2377)⟩, ⟨PyData.keyHash P (Str.ofString ">>="), (.str (Str.ofString ">>=") 2489), (.int 45 2399)⟩, ⟨PyData.keyHash P (Str.ofString "@"), (.str (Str.ofString "@") 2490), (.int 49 2407)⟩, ⟨PyData.keyHash P (Str.ofString "@="), (.str (Str.ofString "@=") 2491), (.int 50 2409)⟩, ⟨PyData.keyHash P (Str.ofString "["), (.str (Str.ofString "[") 2492), (.int 9 2327)⟩, ⟨PyData.keyHash P (Str.ofString "]"), (.str (Str.ofString "]") 2493), (.int 10 2329)⟩, ⟨PyData.keyHash P (Str.ofString "^"), (.str (Str.ofString "^") 2494), (.int 32 2373)⟩, ⟨PyData.keyHash P (Str.ofString "^="), (.str (Str.ofString "^=") 2495), (.int 43 2395)⟩, ⟨PyData.keyHash P (Str.ofString "{"), (.str (Str.ofString "{") 2496), (.int 25 2359)⟩, ⟨PyData.keyHash P (Str.ofString "|"), (.str (Str.ofString "|") 2497), (.int 18 2345)⟩, ⟨PyData.keyHash P (Str.ofString "|="), (.str (Str.ofString "|=") 2498), (.int 42 2393)⟩, ⟨PyData.keyHash P (Str.ofString "}"), (.str (Str.ofString "}") 2499), (.int 26 2361)⟩, ⟨PyData.keyHash P (Str.ofString "~"), (.str (Str.ofString "~") 2500), (.int 31 2371)⟩]).toArray 14), ([]).toArray⟩
noncomputable def o3_8 (P : Params) : Obj := ⟨(.type "dict"), none, (.dict ([⟨PyData.keyHash P (Str.ofString "__name__"), (.str (Str.ofString "__name__") 165), (.str (Str.ofString "law_sn0082_01") 2523)⟩, ⟨PyData.keyHash P (Str.ofString "__doc__"), (.str (Str.ofString "__doc__") 166), .none⟩, ⟨PyData.keyHash P (Str.ofString "__package__"), (.str (Str.ofString "__package__") 167), .none⟩, ⟨PyData.keyHash P (Str.ofString "__loader__"), (.str (Str.ofString "__loader__") 168), (.builtin "__main__.__loader__#opaque")⟩, ⟨PyData.keyHash P (Str.ofString "__spec__"), (.str (Str.ofString "__spec__") 169), .none⟩, ⟨PyData.keyHash P (Str.ofString "__annotations__"), (.str (Str.ofString "__annotations__") 170), (.ref 6)⟩, ⟨PyData.keyHash P (Str.ofString "__builtins__"), (.str (Str.ofString "__builtins__") 171), (.ref 4)⟩, ⟨PyData.keyHash P (Str.ofString "__file__"), (.str (Str.ofString "__file__") 173), (.str (Str.ofString "/claim/cut.py") 172)⟩, ⟨PyData.keyHash P (Str.ofString "__cached__"), (.str (Str.ofString "__cached__") 174), .none⟩, ⟨PyData.keyHash P (Str.ofString "_netrclex"), (.str (Str.ofString "_netrclex") 246), (.ref 52)⟩, ⟨PyData.keyHash P (Str.ofString "TICK"), (.str (Str.ofString "TICK") 250), (.str (Str.ofString "'") 249)⟩, ⟨PyData.keyHash P (Str.ofString "_iter_escaped_chars"), (.str (Str.ofString "_iter_escaped_chars") 260), (.ref 63)⟩, ⟨PyData.keyHash P (Str.ofString "_strip_quoted_realnames"), (.str (Str.ofString "_strip_quoted_realnames") 272), (.ref 70)⟩, ⟨PyData.keyHash P (Str.ofString "_check_parenthesis"), (.str (Str.ofString "_check_parenthesis") 282), (.ref 77)⟩, ⟨PyData.keyHash P (Str.ofString "decode_rfc2231"), (.str (Str.ofString "decode_rfc2231") 290), (.ref 84)⟩, ⟨PyData.keyHash P (Str.ofString "b1_set"), (.str (Str.ofString "b1_set") 352), (.ref 92)⟩, ⟨PyData.keyHash P (Str.ofString "in_table_b1"), (.str (Str.ofString "in_table_b1") 359), (.ref 102)⟩, ⟨PyData.keyHash P (Str.ofString "b3_exceptions"), (.str (Str.ofString "b3_exceptions") 2310), (.ref 103)⟩, ⟨PyData.keyHash P (Str.ofString "map_table_b3"), (.str (Str.ofString "map_table_b3") 2318), (.ref 148)⟩, ⟨PyData.keyHash P (Str.ofString "ENDMARKER"), (.str (Str.ofString "ENDMARKER") 2322), (.int 0 2321)⟩, ⟨PyData.keyHash P (Str.ofString "LPAR"), (.str (Str.ofString "LPAR") 2324), (.int 7 2323)⟩, ⟨PyData.keyHash P (Str.ofString "RPAR"), (.str (Str.ofString "RPAR") 2326), (.int 8 2325)⟩, ⟨PyData.keyHash P (Str.ofString "LSQB"), (.str (Str.ofString "LSQB") 2328), (.int 9 2327)⟩, ⟨PyData.keyHash P (Str.ofString "RSQB"), (.str (Str.ofString "RSQB") 2330), (.int 10 2329)⟩, ⟨PyData.keyHash P (Str.ofString "COLON"), (.str (Str.ofString "COLON") 2332), (.int 11 2331)⟩, ⟨PyData.keyHash P (Str.ofString "COMMA"), (.str (Str.ofString "COMMA") 2334), (.int 12 2333)⟩, ⟨PyData.keyHash P (Str.ofString "SEMI"), (.str (Str.ofString "SEMI") 2336), (.int 13 2335)⟩, ⟨PyData.keyHash P (Str.ofString "PLUS"), (.str (Str.ofString "PLUS") 2338), (.int 14 2337)⟩, ⟨PyData.keyHash P (Str.ofString "MINUS"), (.str (Str.ofString "MINUS") 2340), (.int 15 2339)⟩, ⟨PyData.keyHash P (Str.ofString "STAR"), (.str (Str.ofString "STAR") 2342), (.int 16 2341)⟩, ⟨PyData.keyHash P (Str.ofString "SLASH"), (.str (Str.ofString "SLASH") 2344), (.int 17 2343)⟩, ⟨PyData.keyHash P (Str.ofString "VBAR"), (.str (Str.ofString "VBAR") 2346), (.int 18 2345)⟩, ⟨PyData.keyHash P (Str.ofString "AMPER"), (.str (Str.ofString "AMPER") 2348), (.int 19 2347)⟩, ⟨PyData.keyHash P (Str.ofString "LESS"), (.str (Str.ofString "LESS") 2350), (.int 20 2349)⟩, ⟨PyData.keyHash P (Str.ofString "GREATER"), (.str (Str.ofString "GREATER") 2352), (.int 21 2351)⟩, ⟨PyData.keyHash P (Str.ofString "EQUAL"), (.str (Str.ofString "EQUAL") 2354), (.int 22 2353)⟩, ⟨PyData.keyHash P (Str.ofString "DOT"), (.str (Str.ofString "DOT") 2356), (.int 23 2355)⟩, ⟨PyData.keyHash P (Str.ofString "PERCENT"), (.str (Str.ofString "PERCENT") 2358), (.int 24 2357)⟩, ⟨PyData.keyHash P (Str.ofString "LBRACE"), (.str (Str.ofString "LBRACE") 2360), (.int 25 2359)⟩, ⟨PyData.keyHash P (Str.ofString "RBRACE"), (.str (Str.ofString "RBRACE") 2362), (.int 26 2361)⟩, ⟨PyData.keyHash P (Str.ofString "EQEQUAL"), (.str (Str.ofString "EQEQUAL") 2364), (.int 27 2363)⟩, ⟨PyData.keyHash P (Str.ofString "NOTEQUAL"), (.str (Str.ofString "NOTEQUAL") 2366), (.int 28 2365)⟩, ⟨PyData.keyHash P (Str.ofString "LESSEQUAL"), (.str (Str.ofString "LESSEQUAL") 2368), (.int 29 2367)⟩, ⟨PyData.keyHash P (Str.ofString "GREATEREQUAL"), (.str (Str.ofString "GREATEREQUAL") 2370), (.int 30 2369)⟩, ⟨PyData.keyHash P (Str.ofString "TILDE"), (.str (Str.ofString "TILDE") 2372), (.int 31 2371)⟩, ⟨PyData.keyHash P (Str.ofString "CIRCUMFLEX"), (.str (Str.ofString "CIRCUMFLEX") 2374), (.int 32 2373)⟩, ⟨PyData.keyHash P (Str.ofString "LEFTSHIFT"), (.str (Str.ofString "LEFTSHIFT") 2376), (.int 33 2375)⟩, ⟨PyData.keyHash P (Str.ofString "RIGHTSHIFT"), (.str (Str.ofString "RIGHTSHIFT") 2378), (.int 34 2377)⟩, ⟨PyData.keyHash P (Str.ofString "DOUBLESTAR"), (.str (Str.ofString "DOUBLESTAR") 2380), (.int 35 2379)⟩, ⟨PyData.keyHash P (Str.ofString "PLUSEQUAL"), (.str (Str.ofString "PLUSEQUAL") 2382), (.int 36 2381)⟩, ⟨PyData.keyHash P (Str.ofString "MINEQUAL"), (.str (Str.ofString "MINEQUAL") 2384), (.int 37 2383)⟩, ⟨PyData.keyHash P (Str.ofString "STAREQUAL"), (.str (Str.ofString "STAREQUAL") 2386), (.int 38 2385)⟩, ⟨PyData.keyHash P (Str.ofString "SLASHEQUAL"), (.str (Str.ofString "SLASHEQUAL") 2388), (.int 39 2387)⟩, ⟨PyData.keyHash P (Str.ofString "PERCENTEQUAL"), (.str (Str.ofString "PERCENTEQUAL") 2390), (.int 40 2389)⟩, ⟨PyData.keyHash P (Str.ofString "AMPEREQUAL"), (.str (Str.ofString "AMPEREQUAL") 2392), (.int 41 2391)⟩, ⟨PyData.keyHash P (Str.ofString "VBAREQUAL"), (.str (Str.ofString "VBAREQUAL") 2394), (.int 42 2393)⟩, ⟨PyData.keyHash P (Str.ofString "CIRCUMFLEXEQUAL"), (.str (Str.ofString "CIRCUMFLEXEQUAL") 2396), (.int 43 2395)⟩, ⟨PyData.keyHash P (Str.ofString "LEFTSHIFTEQUAL"), (.str (Str.ofString "LEFTSHIFTEQUAL") 2398), (.int 44 2397)⟩, ⟨PyData.keyHash P (Str.ofString "RIGHTSHIFTEQUAL"), (.str (Str.ofString "RIGHTSHIFTEQUAL") 2400), (.int 45 2399)⟩, ⟨PyData.keyHash P (Str.ofString "DOUBLESTAREQUAL"), (.str (Str.ofString "DOUBLESTAREQUAL") 2402), (.int 46 2401)⟩, ⟨PyData.keyHash P (Str.ofString "DOUBLESLASH"), (.str (Str.ofString "DOUBLESLASH") 2404), (.int 47 2403)⟩, ⟨PyData.keyHash P (Str.ofString "DOUBLESLASHEQUAL"), (.str (Str.ofString "DOUBLESLASHEQUAL") 2406), (.int 48 2405)⟩, ⟨PyData.keyHash P (Str.ofString "AT"), (.str (Str.ofString "AT") 2408), (.int 49 2407)⟩, ⟨PyData.keyHash P (Str.ofString "ATEQUAL"), (.str (Str.ofString "ATEQUAL") 2410), (.int 50 2409)⟩, ⟨PyData.keyHash P (Str.ofString "RARROW"), (.str (Str.ofString "RARROW") 2412), (.int 51 2411)⟩, ⟨PyData.keyHash P (Str.ofString "ELLIPSIS"), (.str (Str.ofString "ELLIPSIS") 2414), (.int 52 2413)⟩, ⟨PyData.keyHash P (Str.ofString "COLONEQUAL"), (.str (Str.ofString "COLONEQUAL") 2416), (.int 53 2415)⟩, ⟨PyData.keyHash P (Str.ofString "EXCLAMATION"), (.str (Str.ofString "EXCLAMATION") 2418), (.int 54 2417)⟩, ⟨PyData.keyHash P (Str.ofString "EXACT_TOKEN_TYPES"), (.str (Str.ofString "EXACT_TOKEN_TYPES") 2515), (.ref 149)⟩, ⟨PyData.keyHash P (Str.ofString "ISEOF"), (.str (Str.ofString "ISEOF") 2522), (.ref 158)⟩, ⟨PyData.keyHash P (Str.ofString "_law_card"), (.str (Str.ofString "_law_card") 2538), (.ref 165)⟩, ⟨PyData.keyHash P (Str.ofString "_law_number"), (.str (Str.ofString "_law_number") 2544), (.ref 170)⟩, ⟨PyData.keyHash P (Str.ofString "_law_ring"), (.str (Str.ofString "_law_ring") 2557), (.ref 177)⟩, ⟨PyData.keyHash P (Str.ofString "_law_walk"), (.str (Str.ofString "_law_walk") 2563), (.ref 182)⟩, ⟨PyData.keyHash P (Str.ofString "_law_feet"), (.str (Str.ofString "_law_feet") 2569), (.ref 187)⟩, ⟨PyData.keyHash P (Str.ofString "_law_three"), (.str (Str.ofString "_law_three") 2575), (.ref 192)⟩, ⟨PyData.keyHash P (Str.ofString "law"), (.str (Str.ofString "law") 2581), (.ref 197)⟩]).toArray 77), ([]).toArray⟩
noncomputable def o12_5 (_ : Params) : Obj := ⟨.none, none, (.fields ([(.int 2 0), (.int 0 0), (.ref 20), (.int 47 0), (.int 0 0), (.ref 62), (.int 60 0), (.int 0 0), (.ref 69), (.int 78 0), (.int 0 0), (.ref 76), (.int 89 0), (.int 0 0), (.ref 83), (.int 96 0), (.int 0 0), (.ref 101), (.int 99 0), (.int 0 0), (.ref 147), (.int 155 0), (.int 0 0), (.ref 157), (.int 158 0), (.int 0 0), (.ref 164), (.int 168 0), (.int 0 0), (.ref 169), (.int 175 0), (.int 0 0), (.ref 176), (.int 189 0), (.int 0 0), (.ref 181), (.int 198 0), (.int 0 0), (.ref 186), (.int 217 0), (.int 0 0), (.ref 191), (.int 233 0), (.int 0 0), (.ref 196)]).toArray), ([]).toArray⟩
noncomputable def o152 (_ : Params) : Obj := ⟨(.type "tuple"), none, (.seq ([]).toArray 0), ([]).toArray⟩
noncomputable def o153 (_ : Params) : Obj := ⟨.none, none, (.fields ([]).toArray), ([]).toArray⟩
noncomputable def o154 (_ : Params) : Obj := ⟨(.type "tuple"), none, (.seq ([(.str (Str.ofString "x") 2519)]).toArray 0), ([]).toArray⟩
noncomputable def o155 (_ : Params) : Obj := ⟨(.type "tuple"), none, (.seq ([]).toArray 0), ([]).toArray⟩
noncomputable def o156 (_ : Params) : Obj := ⟨.none, none, (.func ⟨(Str.ofString "ISEOF"), (Str.ofString "ISEOF"), (fp 64).1, (.stmts (fp 64).2.1), (fp 64).2.2, 0, [], .none, .none, .none, .none, none, .none, .none, 0⟩), ([]).toArray⟩
noncomputable def o157 (_ : Params) : Obj := ⟨(.type "code"), none, (.fields ([(.str (Str.ofString "ISEOF") 2516), (.str (Str.ofString "ISEOF") 2517), (.str (Str.ofString "/claim/cut.py") 2518), (.int 155 0), (.int 1 0), (.int 0 0), (.int 0 0), (.int 3 0), (.ref 152), (.bool true), (.int 181 0), (.ref 153), .none, (.ref 154), (.ref 155), (.ref 156), (.int 2520 0), (.int 155 0), (.str (Str.ofString "/claim/cut.py") 2521)]).toArray), ([]).toArray⟩
noncomputable def o158 (_ : Params) : Obj := ⟨(.type "function"), none, (.func ⟨(Str.ofString "ISEOF"), (Str.ofString "ISEOF"), (fp 64).1, (.stmts (fp 64).2.1), (fp 64).2.2, 3, [], .none, .none, .none, (.str (Str.ofString "cpy313.token") 2319), none, (.ref 157), .none, 0⟩), ([]).toArray⟩
noncomputable def o159 (_ : Params) : Obj := ⟨(.type "tuple"), none, (.seq ([]).toArray 0), ([]).toArray⟩
noncomputable def o160 (_ : Params) : Obj := ⟨.none, none, (.fields ([]).toArray), ([]).toArray⟩
noncomputable def o161 (_ : Params) : Obj := ⟨(.type "tuple"), none, (.seq ([(.str (Str.ofString "number") 2528), (.str (Str.ofString "x") 2529), (.str (Str.ofString "y") 2530), (.str (Str.ofString "signs") 2531), (.str (Str.ofString "starts") 2532), (.str (Str.ofString "word") 2533), (.str (Str.ofString "text") 2534), (.str (Str.ofString "k") 2535)]).toArray 0), ([]).toArray⟩
noncomputable def o162 (_ : Params) : Obj := ⟨(.type "tuple"), none, (.seq ([]).toArray 0), ([]).toArray⟩
noncomputable def o163 (_ : Params) : Obj := ⟨.none, none, (.func ⟨(Str.ofString "_law_card"), (Str.ofString "_law_card"), (fp 66).1, (.stmts (fp 66).2.1), (fp 66).2.2, 0, [], .none, .none, .none, .none, none, .none, .none, 0⟩), ([]).toArray⟩
noncomputable def o164 (_ : Params) : Obj := ⟨(.type "code"), none, (.fields ([(.str (Str.ofString "_law_card") 2525), (.str (Str.ofString "_law_card") 2526), (.str (Str.ofString "/claim/cut.py") 2527), (.int 158 0), (.int 3 0), (.int 0 0), (.int 0 0), (.int 3 0), (.ref 159), (.bool true), (.int 181 0), (.ref 160), .none, (.ref 161), (.ref 162), (.ref 163), (.int 2536 0), (.int 158 0), (.str (Str.ofString "/claim/cut.py") 2537)]).toArray), ([]).toArray⟩
noncomputable def o165 (_ : Params) : Obj := ⟨(.type "function"), none, (.func ⟨(Str.ofString "_law_card"), (Str.ofString "_law_card"), (fp 66).1, (.stmts (fp 66).2.1), (fp 66).2.2, 3, [], .none, .none, .none, (.str (Str.ofString "law_sn0082_01") 2523), none, (.ref 164), .none, 0⟩), ([]).toArray⟩
noncomputable def o166 (_ : Params) : Obj := ⟨(.type "tuple"), none, (.seq ([]).toArray 0), ([]).toArray⟩
noncomputable def o167 (_ : Params) : Obj := ⟨.none, none, (.fields ([]).toArray), ([]).toArray⟩
noncomputable def o168 (_ : Params) : Obj := ⟨.none, none, (.func ⟨(Str.ofString "_law_number"), (Str.ofString "_law_number"), (fp 67).1, (.stmts (fp 67).2.1), (fp 67).2.2, 0, [], .none, .none, .none, .none, none, .none, .none, 0⟩), ([]).toArray⟩
noncomputable def o169 (_ : Params) : Obj := ⟨(.type "code"), none, (.fields ([(.str (Str.ofString "_law_number") 2539), (.str (Str.ofString "_law_number") 2540), (.str (Str.ofString "/claim/cut.py") 2541), (.int 168 0), (.int 1 0), (.int 0 0), (.int 0 0), (.int 3 0), (.ref 166), (.bool true), (.int 181 0), (.ref 167), .none, .none, .none, (.ref 168), (.int 2542 0), (.int 168 0), (.str (Str.ofString "/claim/cut.py") 2543)]).toArray), ([]).toArray⟩
noncomputable def o170 (_ : Params) : Obj := ⟨(.type "function"), none, (.func ⟨(Str.ofString "_law_number"), (Str.ofString "_law_number"), (fp 67).1, (.stmts (fp 67).2.1), (fp 67).2.2, 3, [], .none, .none, .none, (.str (Str.ofString "law_sn0082_01") 2523), none, (.ref 169), .none, 0⟩), ([]).toArray⟩
noncomputable def o171 (_ : Params) : Obj := ⟨(.type "tuple"), none, (.seq ([]).toArray 0), ([]).toArray⟩
noncomputable def o172 (_ : Params) : Obj := ⟨.none, none, (.fields ([]).toArray), ([]).toArray⟩
noncomputable def o173 (_ : Params) : Obj := ⟨(.type "tuple"), none, (.seq ([(.str (Str.ofString "text") 2548), (.str (Str.ofString "stream") 2549), (.str (Str.ofString "lexer") 2550), (.str (Str.ofString "words") 2551), (.str (Str.ofString "turn") 2552), (.str (Str.ofString "word") 2553)]).toArray 0), ([]).toArray⟩
noncomputable def o174 (_ : Params) : Obj := ⟨(.type "tuple"), none, (.seq ([(.str (Str.ofString "left") 2554)]).toArray 0), ([]).toArray⟩
noncomputable def o175 (_ : Params) : Obj := ⟨.none, none, (.func ⟨(Str.ofString "_law_ring"), (Str.ofString "_law_ring"), (fp 68).1, (.stmts (fp 68).2.1), (fp 68).2.2, 0, [], .none, .none, .none, .none, none, .none, .none, 0⟩), ([]).toArray⟩
noncomputable def o176 (_ : Params) : Obj := ⟨(.type "code"), none, (.fields ([(.str (Str.ofString "_law_ring") 2545), (.str (Str.ofString "_law_ring") 2546), (.str (Str.ofString "/claim/cut.py") 2547), (.int 175 0), (.int 1 0), (.int 0 0), (.int 0 0), (.int 3 0), (.ref 171), (.bool true), (.int 181 0), (.ref 172), .none, (.ref 173), (.ref 174), (.ref 175), (.int 2555 0), (.int 175 0), (.str (Str.ofString "/claim/cut.py") 2556)]).toArray), ([]).toArray⟩
noncomputable def o177 (_ : Params) : Obj := ⟨(.type "function"), none, (.func ⟨(Str.ofString "_law_ring"), (Str.ofString "_law_ring"), (fp 68).1, (.stmts (fp 68).2.1), (fp 68).2.2, 3, [], .none, .none, .none, (.str (Str.ofString "law_sn0082_01") 2523), none, (.ref 176), .none, 0⟩), ([]).toArray⟩
noncomputable def o178 (_ : Params) : Obj := ⟨(.type "tuple"), none, (.seq ([]).toArray 0), ([]).toArray⟩
noncomputable def o179 (_ : Params) : Obj := ⟨.none, none, (.fields ([]).toArray), ([]).toArray⟩
noncomputable def o180 (_ : Params) : Obj := ⟨.none, none, (.func ⟨(Str.ofString "_law_walk"), (Str.ofString "_law_walk"), (fp 69).1, (.stmts (fp 69).2.1), (fp 69).2.2, 0, [], .none, .none, .none, .none, none, .none, .none, 0⟩), ([]).toArray⟩
noncomputable def o181 (_ : Params) : Obj := ⟨(.type "code"), none, (.fields ([(.str (Str.ofString "_law_walk") 2558), (.str (Str.ofString "_law_walk") 2559), (.str (Str.ofString "/claim/cut.py") 2560), (.int 189 0), (.int 5 0), (.int 0 0), (.int 0 0), (.int 3 0), (.ref 178), (.bool true), (.int 181 0), (.ref 179), .none, .none, .none, (.ref 180), (.int 2561 0), (.int 189 0), (.str (Str.ofString "/claim/cut.py") 2562)]).toArray), ([]).toArray⟩
noncomputable def o182 (_ : Params) : Obj := ⟨(.type "function"), none, (.func ⟨(Str.ofString "_law_walk"), (Str.ofString "_law_walk"), (fp 69).1, (.stmts (fp 69).2.1), (fp 69).2.2, 3, [], .none, .none, .none, (.str (Str.ofString "law_sn0082_01") 2523), none, (.ref 181), .none, 0⟩), ([]).toArray⟩
noncomputable def o183 (_ : Params) : Obj := ⟨(.type "tuple"), none, (.seq ([]).toArray 0), ([]).toArray⟩
noncomputable def o184 (_ : Params) : Obj := ⟨.none, none, (.fields ([]).toArray), ([]).toArray⟩
noncomputable def o185 (_ : Params) : Obj := ⟨.none, none, (.func ⟨(Str.ofString "_law_feet"), (Str.ofString "_law_feet"), (fp 70).1, (.stmts (fp 70).2.1), (fp 70).2.2, 0, [], .none, .none, .none, .none, none, .none, .none, 0⟩), ([]).toArray⟩
noncomputable def o186 (_ : Params) : Obj := ⟨(.type "code"), none, (.fields ([(.str (Str.ofString "_law_feet") 2564), (.str (Str.ofString "_law_feet") 2565), (.str (Str.ofString "/claim/cut.py") 2566), (.int 198 0), (.int 3 0), (.int 0 0), (.int 0 0), (.int 3 0), (.ref 183), (.bool true), (.int 181 0), (.ref 184), .none, .none, .none, (.ref 185), (.int 2567 0), (.int 198 0), (.str (Str.ofString "/claim/cut.py") 2568)]).toArray), ([]).toArray⟩
noncomputable def o187 (_ : Params) : Obj := ⟨(.type "function"), none, (.func ⟨(Str.ofString "_law_feet"), (Str.ofString "_law_feet"), (fp 70).1, (.stmts (fp 70).2.1), (fp 70).2.2, 3, [], .none, .none, .none, (.str (Str.ofString "law_sn0082_01") 2523), none, (.ref 186), .none, 0⟩), ([]).toArray⟩
noncomputable def o188 (_ : Params) : Obj := ⟨(.type "tuple"), none, (.seq ([]).toArray 0), ([]).toArray⟩
noncomputable def o189 (_ : Params) : Obj := ⟨.none, none, (.fields ([]).toArray), ([]).toArray⟩
noncomputable def o190 (_ : Params) : Obj := ⟨.none, none, (.func ⟨(Str.ofString "_law_three"), (Str.ofString "_law_three"), (fp 71).1, (.stmts (fp 71).2.1), (fp 71).2.2, 0, [], .none, .none, .none, .none, none, .none, .none, 0⟩), ([]).toArray⟩
noncomputable def o191 (_ : Params) : Obj := ⟨(.type "code"), none, (.fields ([(.str (Str.ofString "_law_three") 2570), (.str (Str.ofString "_law_three") 2571), (.str (Str.ofString "/claim/cut.py") 2572), (.int 217 0), (.int 1 0), (.int 0 0), (.int 0 0), (.int 3 0), (.ref 188), (.bool true), (.int 181 0), (.ref 189), .none, .none, .none, (.ref 190), (.int 2573 0), (.int 217 0), (.str (Str.ofString "/claim/cut.py") 2574)]).toArray), ([]).toArray⟩
noncomputable def o192 (_ : Params) : Obj := ⟨(.type "function"), none, (.func ⟨(Str.ofString "_law_three"), (Str.ofString "_law_three"), (fp 71).1, (.stmts (fp 71).2.1), (fp 71).2.2, 3, [], .none, .none, .none, (.str (Str.ofString "law_sn0082_01") 2523), none, (.ref 191), .none, 0⟩), ([]).toArray⟩
noncomputable def o193 (_ : Params) : Obj := ⟨(.type "tuple"), none, (.seq ([]).toArray 0), ([]).toArray⟩
noncomputable def o194 (_ : Params) : Obj := ⟨.none, none, (.fields ([]).toArray), ([]).toArray⟩
noncomputable def o195 (_ : Params) : Obj := ⟨.none, none, (.func ⟨(Str.ofString "law"), (Str.ofString "law"), (fp 72).1, (.stmts (fp 72).2.1), (fp 72).2.2, 0, [], .none, .none, .none, .none, none, .none, .none, 0⟩), ([]).toArray⟩
noncomputable def o196 (_ : Params) : Obj := ⟨(.type "code"), none, (.fields ([(.str (Str.ofString "law") 2576), (.str (Str.ofString "law") 2577), (.str (Str.ofString "/claim/cut.py") 2578), (.int 233 0), (.int 1 0), (.int 0 0), (.int 0 0), (.int 3 0), (.ref 193), (.bool true), (.int 181 0), (.ref 194), .none, .none, .none, (.ref 195), (.int 2579 0), (.int 233 0), (.str (Str.ofString "/claim/cut.py") 2580)]).toArray), ([]).toArray⟩
noncomputable def o197 (_ : Params) : Obj := ⟨(.type "function"), none, (.func ⟨(Str.ofString "law"), (Str.ofString "law"), (fp 72).1, (.stmts (fp 72).2.1), (fp 72).2.2, 3, [], .none, .none, .none, (.str (Str.ofString "law_sn0082_01") 2523), none, (.ref 196), .none, 0⟩), ([]).toArray⟩
noncomputable def T_pre (P : Params) : BT := (.node (boot_o_0 P) (.node (boot_o_1 P) (.node (boot_o_3 P) (.node (boot_o_7 P) .nil .nil) (.node (o11 P) .nil .nil)) (.node (boot_o_5 P) (.node (boot_o_9 P) .nil .nil) (.node (o13 P) .nil .nil))) (.node (boot_o_2 P) (.node (boot_o_4 P) (.node (boot_o_8 P) .nil .nil) (.node (o12 P) .nil .nil)) (.node (boot_o_6 P) (.node (boot_o_10 P) .nil .nil) (.node (o14 P) .nil .nil))))
noncomputable def S_pre (w : World) (os : OsState) : SharedT := ⟨T_pre w.params, 15, {}, #[], {}, 187, os⟩
noncomputable def T_block (P : Params) : BT := (.node (boot_o_0 P) (.node (boot_o_1 P) (.node (boot_o_3 P) (.node (boot_o_7 P) .nil .nil) (.node (o11 P) .nil .nil)) (.node (boot_o_5 P) (.node (boot_o_9 P) .nil .nil) (.node (o13 P) .nil .nil))) (.node (boot_o_2 P) (.node (boot_o_4 P) (.node (boot_o_8 P) .nil .nil) (.node (o12 P) .nil .nil)) (.node (boot_o_6 P) (.node (boot_o_10 P) .nil .nil) (.node (o14 P) .nil .nil))))
noncomputable def S_block (w : World) (os : OsState) : SharedT := ⟨T_block w.params, 15, {}, #[], {}, 187, os⟩
noncomputable def T_p3 (P : Params) : BT := (.node (boot_o_0 P) (.node (boot_o_1 P) (.node (o3_1 P) (.node (boot_o_7 P) (.node (o15 P) (.node (o31 P) .nil .nil) (.node (o47 P) .nil .nil)) (.node (o23 P) (.node (o39 P) .nil .nil) (.node (o55 P) .nil .nil))) (.node (o11 P) (.node (o19 P) (.node (o35 P) .nil .nil) (.node (o51 P) .nil .nil)) (.node (o27 P) (.node (o43 P) .nil .nil) .nil))) (.node (boot_o_5 P) (.node (boot_o_9 P) (.node (o17 P) (.node (o33 P) .nil .nil) (.node (o49 P) .nil .nil)) (.node (o25 P) (.node (o41 P) .nil .nil) .nil)) (.node (o13 P) (.node (o21 P) (.node (o37 P) .nil .nil) (.node (o53 P) .nil .nil)) (.node (o29 P) (.node (o45 P) .nil .nil) .nil)))) (.node (boot_o_2 P) (.node (boot_o_4 P) (.node (boot_o_8 P) (.node (o16 P) (.node (o32 P) .nil .nil) (.node (o48 P) .nil .nil)) (.node (o24 P) (.node (o40 P) .nil .nil) (.node (o56 P) .nil .nil))) (.node (o12_1 P) (.node (o20 P) (.node (o36 P) .nil .nil) (.node (o52 P) .nil .nil)) (.node (o28 P) (.node (o44 P) .nil .nil) .nil))) (.node (boot_o_6 P) (.node (boot_o_10 P) (.node (o18 P) (.node (o34 P) .nil .nil) (.node (o50 P) .nil .nil)) (.node (o26 P) (.node (o42 P) .nil .nil) .nil)) (.node (o14 P) (.node (o22 P) (.node (o38 P) .nil .nil) (.node (o54 P) .nil .nil)) (.node (o30 P) (.node (o46 P) .nil .nil) .nil)))))
noncomputable def S_p3 (w : World) (os : OsState) : SharedT := ⟨T_p3 w.params, 57, {}, #[], {}, 251, os⟩
noncomputable def T_p8 (P : Params) : BT := (.node (boot_o_0 P) (.node (boot_o_1 P) (.node (o3_2 P) (.node (boot_o_7 P) (.node (o15 P) (.node (o31 P) (.node (o63 P) .nil .nil) .nil) (.node (o47 P) (.node (o79 P) .nil .nil) .nil)) (.node (o23 P) (.node (o39 P) (.node (o71 P) .nil .nil) .nil) (.node (o55 P) .nil .nil))) (.node (o11 P) (.node (o19 P) (.node (o35 P) (.node (o67 P) .nil .nil) .nil) (.node (o51 P) (.node (o83 P) .nil .nil) .nil)) (.node (o27 P) (.node (o43 P) (.node (o75 P) .nil .nil) .nil) (.node (o59 P) .nil .nil)))) (.node (boot_o_5 P) (.node (boot_o_9 P) (.node (o17 P) (.node (o33 P) (.node (o65 P) .nil .nil) .nil) (.node (o49 P) (.node (o81 P) .nil .nil) .nil)) (.node (o25 P) (.node (o41 P) (.node (o73 P) .nil .nil) .nil) (.node (o57 P) .nil .nil))) (.node (o13 P) (.node (o21 P) (.node (o37 P) (.node (o69 P) .nil .nil) .nil) (.node (o53 P) .nil .nil)) (.node (o29 P) (.node (o45 P) (.node (o77 P) .nil .nil) .nil) (.node (o61 P) .nil .nil))))) (.node (boot_o_2 P) (.node (boot_o_4 P) (.node (boot_o_8 P) (.node (o16 P) (.node (o32 P) (.node (o64 P) .nil .nil) .nil) (.node (o48 P) (.node (o80 P) .nil .nil) .nil)) (.node (o24 P) (.node (o40 P) (.node (o72 P) .nil .nil) .nil) (.node (o56 P) .nil .nil))) (.node (o12_2 P) (.node (o20 P) (.node (o36 P) (.node (o68 P) .nil .nil) .nil) (.node (o52 P) (.node (o84 P) .nil .nil) .nil)) (.node (o28 P) (.node (o44 P) (.node (o76 P) .nil .nil) .nil) (.node (o60 P) .nil .nil)))) (.node (boot_o_6 P) (.node (boot_o_10 P) (.node (o18 P) (.node (o34 P) (.node (o66 P) .nil .nil) .nil) (.node (o50 P) (.node (o82 P) .nil .nil) .nil)) (.node (o26 P) (.node (o42 P) (.node (o74 P) .nil .nil) .nil) (.node (o58 P) .nil .nil))) (.node (o14 P) (.node (o22 P) (.node (o38 P) (.node (o70 P) .nil .nil) .nil) (.node (o54 P) .nil .nil)) (.node (o30 P) (.node (o46 P) (.node (o78 P) .nil .nil) .nil) (.node (o62 P) .nil .nil))))))
noncomputable def S_p8 (w : World) (os : OsState) : SharedT := ⟨T_p8 w.params, 85, {}, #[], {}, 293, os⟩
noncomputable def T_p9 (P : Params) : BT := (.node (boot_o_0 P) (.node (boot_o_1 P) (.node (o3_3 P) (.node (boot_o_7 P) (.node (o15 P) (.node (o31 P) (.node (o63 P) .nil .nil) (.node (o95 P) .nil .nil)) (.node (o47 P) (.node (o79 P) .nil .nil) .nil)) (.node (o23 P) (.node (o39 P) (.node (o71 P) .nil .nil) .nil) (.node (o55 P) (.node (o87 P) .nil .nil) .nil))) (.node (o11 P) (.node (o19 P) (.node (o35 P) (.node (o67 P) .nil .nil) .nil) (.node (o51 P) (.node (o83 P) .nil .nil) .nil)) (.node (o27 P) (.node (o43 P) (.node (o75 P) .nil .nil) .nil) (.node (o59 P) (.node (o91 P) .nil .nil) .nil)))) (.node (boot_o_5 P) (.node (boot_o_9 P) (.node (o17 P) (.node (o33 P) (.node (o65 P) .nil .nil) .nil) (.node (o49 P) (.node (o81 P) .nil .nil) .nil)) (.node (o25 P) (.node (o41 P) (.node (o73 P) .nil .nil) .nil) (.node (o57 P) (.node (o89 P) .nil .nil) .nil))) (.node (o13 P) (.node (o21 P) (.node (o37 P) (.node (o69 P) .nil .nil) .nil) (.node (o53 P) (.node (o85 P) .nil .nil) .nil)) (.node (o29 P) (.node (o45 P) (.node (o77 P) .nil .nil) .nil) (.node (o61 P) (.node (o93 P) .nil .nil) .nil))))) (.node (boot_o_2 P) (.node (boot_o_4 P) (.node (boot_o_8 P) (.node (o16 P) (.node (o32 P) (.node (o64 P) .nil .nil) .nil) (.node (o48 P) (.node (o80 P) .nil .nil) .nil)) (.node (o24 P) (.node (o40 P) (.node (o72 P) .nil .nil) .nil) (.node (o56 P) (.node (o88 P) .nil .nil) .nil))) (.node (o12_2 P) (.node (o20 P) (.node (o36 P) (.node (o68 P) .nil .nil) .nil) (.node (o52 P) (.node (o84 P) .nil .nil) .nil)) (.node (o28 P) (.node (o44 P) (.node (o76 P) .nil .nil) .nil) (.node (o60 P) (.node (o92 P) .nil .nil) .nil)))) (.node (boot_o_6 P) (.node (boot_o_10 P) (.node (o18 P) (.node (o34 P) (.node (o66 P) .nil .nil) .nil) (.node (o50 P) (.node (o82 P) .nil .nil) .nil)) (.node (o26 P) (.node (o42 P) (.node (o74 P) .nil .nil) .nil) (.node (o58 P) (.node (o90 P) .nil .nil) .nil))) (.node (o14 P) (.node (o22 P) (.node (o38 P) (.node (o70 P) .nil .nil) .nil) (.node (o54 P) (.node (o86 P) .nil .nil) .nil)) (.node (o30 P) (.node (o46 P) (.node (o78 P) .nil .nil) .nil) (.node (o62 P) (.node (o94 P) .nil .nil) .nil))))))
noncomputable def S_p9 (w : World) (os : OsState) : SharedT := ⟨T_p9 w.params, 96, {}, #[], {}, 353, os⟩
noncomputable def T_p10 (P : Params) : BT := (.node (boot_o_0 P) (.node (boot_o_1 P) (.node (o3_4 P) (.node (boot_o_7 P) (.node (o15 P) (.node (o31 P) (.node (o63 P) .nil .nil) (.node (o95 P) .nil .nil)) (.node (o47 P) (.node (o79 P) .nil .nil) .nil)) (.node (o23 P) (.node (o39 P) (.node (o71 P) .nil .nil) .nil) (.node (o55 P) (.node (o87 P) .nil .nil) .nil))) (.node (o11 P) (.node (o19 P) (.node (o35 P) (.node (o67 P) .nil .nil) (.node (o99 P) .nil .nil)) (.node (o51 P) (.node (o83 P) .nil .nil) .nil)) (.node (o27 P) (.node (o43 P) (.node (o75 P) .nil .nil) .nil) (.node (o59 P) (.node (o91 P) .nil .nil) .nil)))) (.node (boot_o_5 P) (.node (boot_o_9 P) (.node (o17 P) (.node (o33 P) (.node (o65 P) .nil .nil) (.node (o97 P) .nil .nil)) (.node (o49 P) (.node (o81 P) .nil .nil) .nil)) (.node (o25 P) (.node (o41 P) (.node (o73 P) .nil .nil) .nil) (.node (o57 P) (.node (o89 P) .nil .nil) .nil))) (.node (o13 P) (.node (o21 P) (.node (o37 P) (.node (o69 P) .nil .nil) (.node (o101 P) .nil .nil)) (.node (o53 P) (.node (o85 P) .nil .nil) .nil)) (.node (o29 P) (.node (o45 P) (.node (o77 P) .nil .nil) .nil) (.node (o61 P) (.node (o93 P) .nil .nil) .nil))))) (.node (boot_o_2 P) (.node (boot_o_4 P) (.node (boot_o_8 P) (.node (o16 P) (.node (o32 P) (.node (o64 P) .nil .nil) (.node (o96 P) .nil .nil)) (.node (o48 P) (.node (o80 P) .nil .nil) .nil)) (.node (o24 P) (.node (o40 P) (.node (o72 P) .nil .nil) .nil) (.node (o56 P) (.node (o88 P) .nil .nil) .nil))) (.node (o12_3 P) (.node (o20 P) (.node (o36 P) (.node (o68 P) .nil .nil) (.node (o100 P) .nil .nil)) (.node (o52 P) (.node (o84 P) .nil .nil) .nil)) (.node (o28 P) (.node (o44 P) (.node (o76 P) .nil .nil) .nil) (.node (o60 P) (.node (o92 P) .nil .nil) .nil)))) (.node (boot_o_6 P) (.node (boot_o_10 P) (.node (o18 P) (.node (o34 P) (.node (o66 P) .nil .nil) (.node (o98 P) .nil .nil)) (.node (o50 P) (.node (o82 P) .nil .nil) .nil)) (.node (o26 P) (.node (o42 P) (.node (o74 P) .nil .nil) .nil) (.node (o58 P) (.node (o90 P) .nil .nil) .nil))) (.node (o14 P) (.node (o22 P) (.node (o38 P) (.node (o70 P) .nil .nil) (.node (o102 P) .nil .nil)) (.node (o54 P) (.node (o86 P) .nil .nil) .nil)) (.node (o30 P) (.node (o46 P) (.node (o78 P) .nil .nil) .nil) (.node (o62 P) (.node (o94 P) .nil .nil) .nil))))))
noncomputable def S_p10 (w : World) (os : OsState) : SharedT := ⟨T_p10 w.params, 103, {}, #[], {}, 360, os⟩
noncomputable def T_b3 (P : Params) : BT := (.node (boot_o_0 P) (.node (boot_o_1 P) (.node (o3_4 P) (.node (boot_o_7 P) (.node (o15 P) (.node (o31 P) (.node (o63 P) (.node (b3sub 23 P) .nil .nil) .nil) (.node (o95 P) .nil .nil)) (.node (o47 P) (.node (o79 P) .nil .nil) (.node (b3sub 7 P) .nil .nil))) (.node (o23 P) (.node (o39 P) (.node (o71 P) (.node (b3sub 31 P) .nil .nil) .nil) (.node (b3main P) .nil .nil)) (.node (o55 P) (.node (o87 P) .nil .nil) (.node (b3sub 15 P) .nil .nil)))) (.node (o11 P) (.node (o19 P) (.node (o35 P) (.node (o67 P) (.node (b3sub 27 P) .nil .nil) .nil) (.node (o99 P) .nil .nil)) (.node (o51 P) (.node (o83 P) .nil .nil) (.node (b3sub 11 P) .nil .nil))) (.node (o27 P) (.node (o43 P) (.node (o75 P) (.node (b3sub 35 P) .nil .nil) .nil) (.node (b3sub 3 P) .nil .nil)) (.node (o59 P) (.node (o91 P) .nil .nil) (.node (b3sub 19 P) .nil .nil))))) (.node (boot_o_5 P) (.node (boot_o_9 P) (.node (o17 P) (.node (o33 P) (.node (o65 P) (.node (b3sub 25 P) .nil .nil) .nil) (.node (o97 P) .nil .nil)) (.node (o49 P) (.node (o81 P) .nil .nil) (.node (b3sub 9 P) .nil .nil))) (.node (o25 P) (.node (o41 P) (.node (o73 P) (.node (b3sub 33 P) .nil .nil) .nil) (.node (b3sub 1 P) .nil .nil)) (.node (o57 P) (.node (o89 P) .nil .nil) (.node (b3sub 17 P) .nil .nil)))) (.node (o13 P) (.node (o21 P) (.node (o37 P) (.node (o69 P) (.node (b3sub 29 P) .nil .nil) .nil) (.node (o101 P) .nil .nil)) (.node (o53 P) (.node (o85 P) .nil .nil) (.node (b3sub 13 P) .nil .nil))) (.node (o29 P) (.node (o45 P) (.node (o77 P) (.node (b3sub 37 P) .nil .nil) .nil) (.node (b3sub 5 P) .nil .nil)) (.node (o61 P) (.node (o93 P) .nil .nil) (.node (b3sub 21 P) .nil .nil)))))) (.node (boot_o_2 P) (.node (boot_o_4 P) (.node (boot_o_8 P) (.node (o16 P) (.node (o32 P) (.node (o64 P) (.node (b3sub 24 P) .nil .nil) .nil) (.node (o96 P) .nil .nil)) (.node (o48 P) (.node (o80 P) .nil .nil) (.node (b3sub 8 P) .nil .nil))) (.node (o24 P) (.node (o40 P) (.node (o72 P) (.node (b3sub 32 P) .nil .nil) .nil) (.node (b3sub 0 P) .nil .nil)) (.node (o56 P) (.node (o88 P) .nil .nil) (.node (b3sub 16 P) .nil .nil)))) (.node (o12_3 P) (.node (o20 P) (.node (o36 P) (.node (o68 P) (.node (b3sub 28 P) .nil .nil) .nil) (.node (o100 P) .nil .nil)) (.node (o52 P) (.node (o84 P) .nil .nil) (.node (b3sub 12 P) .nil .nil))) (.node (o28 P) (.node (o44 P) (.node (o76 P) (.node (b3sub 36 P) .nil .nil) .nil) (.node (b3sub 4 P) .nil .nil)) (.node (o60 P) (.node (o92 P) .nil .nil) (.node (b3sub 20 P) .nil .nil))))) (.node (boot_o_6 P) (.node (boot_o_10 P) (.node (o18 P) (.node (o34 P) (.node (o66 P) (.node (b3sub 26 P) .nil .nil) .nil) (.node (o98 P) .nil .nil)) (.node (o50 P) (.node (o82 P) .nil .nil) (.node (b3sub 10 P) .nil .nil))) (.node (o26 P) (.node (o42 P) (.node (o74 P) (.node (b3sub 34 P) .nil .nil) .nil) (.node (b3sub 2 P) .nil .nil)) (.node (o58 P) (.node (o90 P) .nil .nil) (.node (b3sub 18 P) .nil .nil)))) (.node (o14 P) (.node (o22 P) (.node (o38 P) (.node (o70 P) (.node (b3sub 30 P) .nil .nil) .nil) (.node (o102 P) .nil .nil)) (.node (o54 P) (.node (o86 P) .nil .nil) (.node (b3sub 14 P) .nil .nil))) (.node (o30 P) (.node (o46 P) (.node (o78 P) .nil .nil) (.node (b3sub 6 P) .nil .nil)) (.node (o62 P) (.node (o94 P) .nil .nil) (.node (b3sub 22 P) .nil .nil)))))))
noncomputable def S_b3 (w : World) (os : OsState) : SharedT := ⟨T_b3 w.params, 142, {}, #[], {}, 2310, os⟩
noncomputable def T_p11 (P : Params) : BT := (.node (boot_o_0 P) (.node (boot_o_1 P) (.node (o3_5 P) (.node (boot_o_7 P) (.node (o15 P) (.node (o31 P) (.node (o63 P) (.node (b3sub 23 P) .nil .nil) .nil) (.node (o95 P) .nil .nil)) (.node (o47 P) (.node (o79 P) .nil .nil) (.node (b3sub 7 P) .nil .nil))) (.node (o23 P) (.node (o39 P) (.node (o71 P) (.node (b3sub 31 P) .nil .nil) .nil) (.node (b3main P) .nil .nil)) (.node (o55 P) (.node (o87 P) .nil .nil) (.node (b3sub 15 P) .nil .nil)))) (.node (o11 P) (.node (o19 P) (.node (o35 P) (.node (o67 P) (.node (b3sub 27 P) .nil .nil) .nil) (.node (o99 P) .nil .nil)) (.node (o51 P) (.node (o83 P) .nil .nil) (.node (b3sub 11 P) .nil .nil))) (.node (o27 P) (.node (o43 P) (.node (o75 P) (.node (b3sub 35 P) .nil .nil) .nil) (.node (b3sub 3 P) .nil .nil)) (.node (o59 P) (.node (o91 P) .nil .nil) (.node (b3sub 19 P) .nil .nil))))) (.node (boot_o_5 P) (.node (boot_o_9 P) (.node (o17 P) (.node (o33 P) (.node (o65 P) (.node (b3sub 25 P) .nil .nil) .nil) (.node (o97 P) .nil .nil)) (.node (o49 P) (.node (o81 P) .nil .nil) (.node (b3sub 9 P) .nil .nil))) (.node (o25 P) (.node (o41 P) (.node (o73 P) (.node (b3sub 33 P) .nil .nil) .nil) (.node (b3sub 1 P) .nil .nil)) (.node (o57 P) (.node (o89 P) .nil .nil) (.node (b3sub 17 P) .nil .nil)))) (.node (o13 P) (.node (o21 P) (.node (o37 P) (.node (o69 P) (.node (b3sub 29 P) .nil .nil) .nil) (.node (o101 P) .nil .nil)) (.node (o53 P) (.node (o85 P) .nil .nil) (.node (b3sub 13 P) .nil .nil))) (.node (o29 P) (.node (o45 P) (.node (o77 P) (.node (b3sub 37 P) .nil .nil) .nil) (.node (b3sub 5 P) .nil .nil)) (.node (o61 P) (.node (o93 P) .nil .nil) (.node (b3sub 21 P) .nil .nil)))))) (.node (boot_o_2 P) (.node (boot_o_4 P) (.node (boot_o_8 P) (.node (o16 P) (.node (o32 P) (.node (o64 P) (.node (b3sub 24 P) .nil .nil) .nil) (.node (o96 P) .nil .nil)) (.node (o48 P) (.node (o80 P) .nil .nil) (.node (b3sub 8 P) .nil .nil))) (.node (o24 P) (.node (o40 P) (.node (o72 P) (.node (b3sub 32 P) .nil .nil) .nil) (.node (b3sub 0 P) .nil .nil)) (.node (o56 P) (.node (o88 P) .nil .nil) (.node (b3sub 16 P) .nil .nil)))) (.node (o12_3 P) (.node (o20 P) (.node (o36 P) (.node (o68 P) (.node (b3sub 28 P) .nil .nil) .nil) (.node (o100 P) .nil .nil)) (.node (o52 P) (.node (o84 P) .nil .nil) (.node (b3sub 12 P) .nil .nil))) (.node (o28 P) (.node (o44 P) (.node (o76 P) (.node (b3sub 36 P) .nil .nil) .nil) (.node (b3sub 4 P) .nil .nil)) (.node (o60 P) (.node (o92 P) .nil .nil) (.node (b3sub 20 P) .nil .nil))))) (.node (boot_o_6 P) (.node (boot_o_10 P) (.node (o18 P) (.node (o34 P) (.node (o66 P) (.node (b3sub 26 P) .nil .nil) .nil) (.node (o98 P) .nil .nil)) (.node (o50 P) (.node (o82 P) .nil .nil) (.node (b3sub 10 P) .nil .nil))) (.node (o26 P) (.node (o42 P) (.node (o74 P) (.node (b3sub 34 P) .nil .nil) .nil) (.node (b3sub 2 P) .nil .nil)) (.node (o58 P) (.node (o90 P) .nil .nil) (.node (b3sub 18 P) .nil .nil)))) (.node (o14 P) (.node (o22 P) (.node (o38 P) (.node (o70 P) (.node (b3sub 30 P) .nil .nil) .nil) (.node (o102 P) .nil .nil)) (.node (o54 P) (.node (o86 P) .nil .nil) (.node (b3sub 14 P) .nil .nil))) (.node (o30 P) (.node (o46 P) (.node (o78 P) .nil .nil) (.node (b3sub 6 P) .nil .nil)) (.node (o62 P) (.node (o94 P) .nil .nil) (.node (b3sub 22 P) .nil .nil)))))))
noncomputable def S_p11 (w : World) (os : OsState) : SharedT := ⟨T_p11 w.params, 142, {}, #[], {}, 2311, os⟩
noncomputable def T_p62 (P : Params) : BT := (.node (boot_o_0 P) (.node (boot_o_1 P) (.node (o3_6 P) (.node (boot_o_7 P) (.node (o15 P) (.node (o31 P) (.node (o63 P) (.node (b3sub 23 P) .nil .nil) .nil) (.node (o95 P) .nil .nil)) (.node (o47 P) (.node (o79 P) (.node (o143 P) .nil .nil) .nil) (.node (b3sub 7 P) .nil .nil))) (.node (o23 P) (.node (o39 P) (.node (o71 P) (.node (b3sub 31 P) .nil .nil) .nil) (.node (b3main P) .nil .nil)) (.node (o55 P) (.node (o87 P) .nil .nil) (.node (b3sub 15 P) .nil .nil)))) (.node (o11 P) (.node (o19 P) (.node (o35 P) (.node (o67 P) (.node (b3sub 27 P) .nil .nil) .nil) (.node (o99 P) .nil .nil)) (.node (o51 P) (.node (o83 P) (.node (o147 P) .nil .nil) .nil) (.node (b3sub 11 P) .nil .nil))) (.node (o27 P) (.node (o43 P) (.node (o75 P) (.node (b3sub 35 P) .nil .nil) .nil) (.node (b3sub 3 P) .nil .nil)) (.node (o59 P) (.node (o91 P) .nil .nil) (.node (b3sub 19 P) .nil .nil))))) (.node (boot_o_5 P) (.node (boot_o_9 P) (.node (o17 P) (.node (o33 P) (.node (o65 P) (.node (b3sub 25 P) .nil .nil) .nil) (.node (o97 P) .nil .nil)) (.node (o49 P) (.node (o81 P) (.node (o145 P) .nil .nil) .nil) (.node (b3sub 9 P) .nil .nil))) (.node (o25 P) (.node (o41 P) (.node (o73 P) (.node (b3sub 33 P) .nil .nil) .nil) (.node (b3sub 1 P) .nil .nil)) (.node (o57 P) (.node (o89 P) .nil .nil) (.node (b3sub 17 P) .nil .nil)))) (.node (o13 P) (.node (o21 P) (.node (o37 P) (.node (o69 P) (.node (b3sub 29 P) .nil .nil) .nil) (.node (o101 P) .nil .nil)) (.node (o53 P) (.node (o85 P) .nil .nil) (.node (b3sub 13 P) .nil .nil))) (.node (o29 P) (.node (o45 P) (.node (o77 P) (.node (b3sub 37 P) .nil .nil) .nil) (.node (b3sub 5 P) .nil .nil)) (.node (o61 P) (.node (o93 P) .nil .nil) (.node (b3sub 21 P) .nil .nil)))))) (.node (boot_o_2 P) (.node (boot_o_4 P) (.node (boot_o_8 P) (.node (o16 P) (.node (o32 P) (.node (o64 P) (.node (b3sub 24 P) .nil .nil) .nil) (.node (o96 P) .nil .nil)) (.node (o48 P) (.node (o80 P) (.node (o144 P) .nil .nil) .nil) (.node (b3sub 8 P) .nil .nil))) (.node (o24 P) (.node (o40 P) (.node (o72 P) (.node (b3sub 32 P) .nil .nil) .nil) (.node (b3sub 0 P) .nil .nil)) (.node (o56 P) (.node (o88 P) .nil .nil) (.node (b3sub 16 P) .nil .nil)))) (.node (o12_4 P) (.node (o20 P) (.node (o36 P) (.node (o68 P) (.node (b3sub 28 P) .nil .nil) .nil) (.node (o100 P) .nil .nil)) (.node (o52 P) (.node (o84 P) (.node (o148 P) .nil .nil) .nil) (.node (b3sub 12 P) .nil .nil))) (.node (o28 P) (.node (o44 P) (.node (o76 P) (.node (b3sub 36 P) .nil .nil) .nil) (.node (b3sub 4 P) .nil .nil)) (.node (o60 P) (.node (o92 P) .nil .nil) (.node (b3sub 20 P) .nil .nil))))) (.node (boot_o_6 P) (.node (boot_o_10 P) (.node (o18 P) (.node (o34 P) (.node (o66 P) (.node (b3sub 26 P) .nil .nil) .nil) (.node (o98 P) .nil .nil)) (.node (o50 P) (.node (o82 P) (.node (o146 P) .nil .nil) .nil) (.node (b3sub 10 P) .nil .nil))) (.node (o26 P) (.node (o42 P) (.node (o74 P) (.node (b3sub 34 P) .nil .nil) .nil) (.node (b3sub 2 P) .nil .nil)) (.node (o58 P) (.node (o90 P) .nil .nil) (.node (b3sub 18 P) .nil .nil)))) (.node (o14 P) (.node (o22 P) (.node (o38 P) (.node (o70 P) (.node (b3sub 30 P) .nil .nil) .nil) (.node (o102 P) .nil .nil)) (.node (o54 P) (.node (o86 P) .nil .nil) (.node (b3sub 14 P) .nil .nil))) (.node (o30 P) (.node (o46 P) (.node (o78 P) (.node (o142 P) .nil .nil) .nil) (.node (b3sub 6 P) .nil .nil)) (.node (o62 P) (.node (o94 P) .nil .nil) (.node (b3sub 22 P) .nil .nil)))))))
noncomputable def S_p62 (w : World) (os : OsState) : SharedT := ⟨T_p62 w.params, 149, {}, #[], {}, 2419, os⟩
noncomputable def T_p63 (P : Params) : BT := (.node (boot_o_0 P) (.node (boot_o_1 P) (.node (o3_7 P) (.node (boot_o_7 P) (.node (o15 P) (.node (o31 P) (.node (o63 P) (.node (b3sub 23 P) .nil .nil) .nil) (.node (o95 P) .nil .nil)) (.node (o47 P) (.node (o79 P) (.node (o143 P) .nil .nil) .nil) (.node (b3sub 7 P) .nil .nil))) (.node (o23 P) (.node (o39 P) (.node (o71 P) (.node (b3sub 31 P) .nil .nil) .nil) (.node (b3main P) .nil .nil)) (.node (o55 P) (.node (o87 P) (.node (o151 P) .nil .nil) .nil) (.node (b3sub 15 P) .nil .nil)))) (.node (o11 P) (.node (o19 P) (.node (o35 P) (.node (o67 P) (.node (b3sub 27 P) .nil .nil) .nil) (.node (o99 P) .nil .nil)) (.node (o51 P) (.node (o83 P) (.node (o147 P) .nil .nil) .nil) (.node (b3sub 11 P) .nil .nil))) (.node (o27 P) (.node (o43 P) (.node (o75 P) (.node (b3sub 35 P) .nil .nil) .nil) (.node (b3sub 3 P) .nil .nil)) (.node (o59 P) (.node (o91 P) .nil .nil) (.node (b3sub 19 P) .nil .nil))))) (.node (boot_o_5 P) (.node (boot_o_9 P) (.node (o17 P) (.node (o33 P) (.node (o65 P) (.node (b3sub 25 P) .nil .nil) .nil) (.node (o97 P) .nil .nil)) (.node (o49 P) (.node (o81 P) (.node (o145 P) .nil .nil) .nil) (.node (b3sub 9 P) .nil .nil))) (.node (o25 P) (.node (o41 P) (.node (o73 P) (.node (b3sub 33 P) .nil .nil) .nil) (.node (b3sub 1 P) .nil .nil)) (.node (o57 P) (.node (o89 P) .nil .nil) (.node (b3sub 17 P) .nil .nil)))) (.node (o13 P) (.node (o21 P) (.node (o37 P) (.node (o69 P) (.node (b3sub 29 P) .nil .nil) .nil) (.node (o101 P) .nil .nil)) (.node (o53 P) (.node (o85 P) (.node (o149 P) .nil .nil) .nil) (.node (b3sub 13 P) .nil .nil))) (.node (o29 P) (.node (o45 P) (.node (o77 P) (.node (b3sub 37 P) .nil .nil) .nil) (.node (b3sub 5 P) .nil .nil)) (.node (o61 P) (.node (o93 P) .nil .nil) (.node (b3sub 21 P) .nil .nil)))))) (.node (boot_o_2 P) (.node (boot_o_4 P) (.node (boot_o_8 P) (.node (o16 P) (.node (o32 P) (.node (o64 P) (.node (b3sub 24 P) .nil .nil) .nil) (.node (o96 P) .nil .nil)) (.node (o48 P) (.node (o80 P) (.node (o144 P) .nil .nil) .nil) (.node (b3sub 8 P) .nil .nil))) (.node (o24 P) (.node (o40 P) (.node (o72 P) (.node (b3sub 32 P) .nil .nil) .nil) (.node (b3sub 0 P) .nil .nil)) (.node (o56 P) (.node (o88 P) .nil .nil) (.node (b3sub 16 P) .nil .nil)))) (.node (o12_4 P) (.node (o20 P) (.node (o36 P) (.node (o68 P) (.node (b3sub 28 P) .nil .nil) .nil) (.node (o100 P) .nil .nil)) (.node (o52 P) (.node (o84 P) (.node (o148 P) .nil .nil) .nil) (.node (b3sub 12 P) .nil .nil))) (.node (o28 P) (.node (o44 P) (.node (o76 P) (.node (b3sub 36 P) .nil .nil) .nil) (.node (b3sub 4 P) .nil .nil)) (.node (o60 P) (.node (o92 P) .nil .nil) (.node (b3sub 20 P) .nil .nil))))) (.node (boot_o_6 P) (.node (boot_o_10 P) (.node (o18 P) (.node (o34 P) (.node (o66 P) (.node (b3sub 26 P) .nil .nil) .nil) (.node (o98 P) .nil .nil)) (.node (o50 P) (.node (o82 P) (.node (o146 P) .nil .nil) .nil) (.node (b3sub 10 P) .nil .nil))) (.node (o26 P) (.node (o42 P) (.node (o74 P) (.node (b3sub 34 P) .nil .nil) .nil) (.node (b3sub 2 P) .nil .nil)) (.node (o58 P) (.node (o90 P) .nil .nil) (.node (b3sub 18 P) .nil .nil)))) (.node (o14 P) (.node (o22 P) (.node (o38 P) (.node (o70 P) (.node (b3sub 30 P) .nil .nil) .nil) (.node (o102 P) .nil .nil)) (.node (o54 P) (.node (o86 P) (.node (o150 P) .nil .nil) .nil) (.node (b3sub 14 P) .nil .nil))) (.node (o30 P) (.node (o46 P) (.node (o78 P) (.node (o142 P) .nil .nil) .nil) (.node (b3sub 6 P) .nil .nil)) (.node (o62 P) (.node (o94 P) .nil .nil) (.node (b3sub 22 P) .nil .nil)))))))
noncomputable def S_p63 (w : World) (os : OsState) : SharedT := ⟨T_p63 w.params, 152, {}, #[], {}, 2516, os⟩
noncomputable def T_p72 (P : Params) : BT := (.node (boot_o_0 P) (.node (boot_o_1 P) (.node (o3_8 P) (.node (boot_o_7 P) (.node (o15 P) (.node (o31 P) (.node (o63 P) (.node (b3sub 23 P) .nil .nil) (.node (o191 P) .nil .nil)) (.node (o95 P) (.node (o159 P) .nil .nil) .nil)) (.node (o47 P) (.node (o79 P) (.node (o143 P) .nil .nil) .nil) (.node (b3sub 7 P) (.node (o175 P) .nil .nil) .nil))) (.node (o23 P) (.node (o39 P) (.node (o71 P) (.node (b3sub 31 P) .nil .nil) .nil) (.node (b3main P) (.node (o167 P) .nil .nil) .nil)) (.node (o55 P) (.node (o87 P) (.node (o151 P) .nil .nil) .nil) (.node (b3sub 15 P) (.node (o183 P) .nil .nil) .nil)))) (.node (o11 P) (.node (o19 P) (.node (o35 P) (.node (o67 P) (.node (b3sub 27 P) .nil .nil) (.node (o195 P) .nil .nil)) (.node (o99 P) (.node (o163 P) .nil .nil) .nil)) (.node (o51 P) (.node (o83 P) (.node (o147 P) .nil .nil) .nil) (.node (b3sub 11 P) (.node (o179 P) .nil .nil) .nil))) (.node (o27 P) (.node (o43 P) (.node (o75 P) (.node (b3sub 35 P) .nil .nil) .nil) (.node (b3sub 3 P) (.node (o171 P) .nil .nil) .nil)) (.node (o59 P) (.node (o91 P) (.node (o155 P) .nil .nil) .nil) (.node (b3sub 19 P) (.node (o187 P) .nil .nil) .nil))))) (.node (boot_o_5 P) (.node (boot_o_9 P) (.node (o17 P) (.node (o33 P) (.node (o65 P) (.node (b3sub 25 P) .nil .nil) (.node (o193 P) .nil .nil)) (.node (o97 P) (.node (o161 P) .nil .nil) .nil)) (.node (o49 P) (.node (o81 P) (.node (o145 P) .nil .nil) .nil) (.node (b3sub 9 P) (.node (o177 P) .nil .nil) .nil))) (.node (o25 P) (.node (o41 P) (.node (o73 P) (.node (b3sub 33 P) .nil .nil) .nil) (.node (b3sub 1 P) (.node (o169 P) .nil .nil) .nil)) (.node (o57 P) (.node (o89 P) (.node (o153 P) .nil .nil) .nil) (.node (b3sub 17 P) (.node (o185 P) .nil .nil) .nil)))) (.node (o13 P) (.node (o21 P) (.node (o37 P) (.node (o69 P) (.node (b3sub 29 P) .nil .nil) (.node (o197 P) .nil .nil)) (.node (o101 P) (.node (o165 P) .nil .nil) .nil)) (.node (o53 P) (.node (o85 P) (.node (o149 P) .nil .nil) .nil) (.node (b3sub 13 P) (.node (o181 P) .nil .nil) .nil))) (.node (o29 P) (.node (o45 P) (.node (o77 P) (.node (b3sub 37 P) .nil .nil) .nil) (.node (b3sub 5 P) (.node (o173 P) .nil .nil) .nil)) (.node (o61 P) (.node (o93 P) (.node (o157 P) .nil .nil) .nil) (.node (b3sub 21 P) (.node (o189 P) .nil .nil) .nil)))))) (.node (boot_o_2 P) (.node (boot_o_4 P) (.node (boot_o_8 P) (.node (o16 P) (.node (o32 P) (.node (o64 P) (.node (b3sub 24 P) .nil .nil) (.node (o192 P) .nil .nil)) (.node (o96 P) (.node (o160 P) .nil .nil) .nil)) (.node (o48 P) (.node (o80 P) (.node (o144 P) .nil .nil) .nil) (.node (b3sub 8 P) (.node (o176 P) .nil .nil) .nil))) (.node (o24 P) (.node (o40 P) (.node (o72 P) (.node (b3sub 32 P) .nil .nil) .nil) (.node (b3sub 0 P) (.node (o168 P) .nil .nil) .nil)) (.node (o56 P) (.node (o88 P) (.node (o152 P) .nil .nil) .nil) (.node (b3sub 16 P) (.node (o184 P) .nil .nil) .nil)))) (.node (o12_5 P) (.node (o20 P) (.node (o36 P) (.node (o68 P) (.node (b3sub 28 P) .nil .nil) (.node (o196 P) .nil .nil)) (.node (o100 P) (.node (o164 P) .nil .nil) .nil)) (.node (o52 P) (.node (o84 P) (.node (o148 P) .nil .nil) .nil) (.node (b3sub 12 P) (.node (o180 P) .nil .nil) .nil))) (.node (o28 P) (.node (o44 P) (.node (o76 P) (.node (b3sub 36 P) .nil .nil) .nil) (.node (b3sub 4 P) (.node (o172 P) .nil .nil) .nil)) (.node (o60 P) (.node (o92 P) (.node (o156 P) .nil .nil) .nil) (.node (b3sub 20 P) (.node (o188 P) .nil .nil) .nil))))) (.node (boot_o_6 P) (.node (boot_o_10 P) (.node (o18 P) (.node (o34 P) (.node (o66 P) (.node (b3sub 26 P) .nil .nil) (.node (o194 P) .nil .nil)) (.node (o98 P) (.node (o162 P) .nil .nil) .nil)) (.node (o50 P) (.node (o82 P) (.node (o146 P) .nil .nil) .nil) (.node (b3sub 10 P) (.node (o178 P) .nil .nil) .nil))) (.node (o26 P) (.node (o42 P) (.node (o74 P) (.node (b3sub 34 P) .nil .nil) .nil) (.node (b3sub 2 P) (.node (o170 P) .nil .nil) .nil)) (.node (o58 P) (.node (o90 P) (.node (o154 P) .nil .nil) .nil) (.node (b3sub 18 P) (.node (o186 P) .nil .nil) .nil)))) (.node (o14 P) (.node (o22 P) (.node (o38 P) (.node (o70 P) (.node (b3sub 30 P) .nil .nil) .nil) (.node (o102 P) (.node (o166 P) .nil .nil) .nil)) (.node (o54 P) (.node (o86 P) (.node (o150 P) .nil .nil) .nil) (.node (b3sub 14 P) (.node (o182 P) .nil .nil) .nil))) (.node (o30 P) (.node (o46 P) (.node (o78 P) (.node (o142 P) .nil .nil) .nil) (.node (b3sub 6 P) (.node (o174 P) .nil .nil) .nil)) (.node (o62 P) (.node (o94 P) (.node (o158 P) .nil .nil) .nil) (.node (b3sub 22 P) (.node (o190 P) .nil .nil) .nil)))))))
noncomputable def S_p72 (w : World) (os : OsState) : SharedT := ⟨T_p72 w.params, 198, {}, #[], {}, 2582, os⟩
end Mine
end
section
open PySem PySem.W PySem.Calls PyProof.Rows
set_option maxRecDepth 100000
namespace Mine
noncomputable def cenv : Env := { scope := pw.main.scope, locals := mainNs, globals := mainNs, cells := [], code := .ref 13, frame := some 14 }
noncomputable def q0 : Pos := ⟨0, 0, 0, 0⟩
noncomputable abbrev ann0 : Option Value := some (.ref 6)
noncomputable abbrev bd : List Stmt := behindTheImports pw
noncomputable abbrev cE : Code := .body bd cenv
noncomputable def sts (i k : Nat) : List Stmt := (pw.main.body.drop i).take k
theorem tw1 (p : Program) (w : World) (n : Nat) (s : SharedT) (l : List Stmt) (q : Pos) (r : Option (Flow × SharedT × Code × Pos))
    (h : PySem.W.Fast.tw10110043849684766642 PySem.W.Fast.tw14364793385576792824 p w 11 ann0 1 n s ⟨(PySem.W.Fast.tw12563942051412417395 l cenv).wrap doneF deadEnd id id, cE, q, [topFrame q0]⟩ = r) :
    segRunT treeTable p w 11 ann0 1 n s (piecesOf l cenv cE q [topFrame q0]) = r := by
  unfold piecesOf
  rw [PySem.W.Fast.te10110043849684766642, PySem.W.Fast.te14364793385576792824, PySem.W.Fast.te12563942051412417395]
  exact h
theorem g0 (w : World) (os : OsState) : segRunT treeTable pw w 11 ann0 1 351 (S_block w os) (piecesOf (sts 0 4) cenv cE q0 [topFrame q0]) = some (.next, S_p3 w os, cE, ⟨46, 0, 46, 4⟩) := tw1 _ _ _ _ _ _ _ (by kernel_rfl)
theorem g1 (w : World) (os : OsState) : segRunT treeTable pw w 11 ann0 1 138 (S_p3 w os) (piecesOf (sts 4 5) cenv cE ⟨46, 0, 46, 4⟩ [topFrame q0]) = some (.next, S_p8 w os, cE, ⟨94, 0, 94, 8⟩) := tw1 _ _ _ _ _ _ _ (by kernel_rfl)
noncomputable abbrev G2 (a b : Bool) (w : World) (os : OsState) : Prop := segRunT treeTable pw ((w.withFollow "special-get-raises" a).withFollow "set-order" b) 11 ann0 1 999 (S_p8 ((w.withFollow "special-get-raises" a).withFollow "set-order" b) os) (piecesOf (sts 9 1) cenv cE ⟨94, 0, 94, 8⟩ [topFrame q0]) =
    some (.next, S_p9 ((w.withFollow "special-get-raises" a).withFollow "set-order" b) os, cE, ⟨95, 0, 95, 6⟩)
theorem g2a (w : World) (os : OsState) : G2 false false w os := tw1 _ _ _ _ _ _ _ (by kernel_rfl)
theorem g2b (w : World) (os : OsState) : G2 false true w os := tw1 _ _ _ _ _ _ _ (by kernel_rfl)
theorem g2c (w : World) (os : OsState) : G2 true false w os := tw1 _ _ _ _ _ _ _ (by kernel_rfl)
theorem g2d (w : World) (os : OsState) : G2 true true w os := tw1 _ _ _ _ _ _ _ (by kernel_rfl)
theorem g2 (a b : Bool) (w : World) (os : OsState) : segRunT treeTable pw ((w.withFollow "special-get-raises" a).withFollow "set-order" b) 11 ann0 1 999 (S_p8 ((w.withFollow "special-get-raises" a).withFollow "set-order" b) os) (piecesOf (sts 9 1) cenv cE ⟨94, 0, 94, 8⟩ [topFrame q0]) =
    some (.next, S_p9 ((w.withFollow "special-get-raises" a).withFollow "set-order" b) os, cE, ⟨95, 0, 95, 6⟩) := by
  cases a
  · cases b
    · exact g2a w os
    · exact g2b w os
  · cases b
    · exact g2c w os
    · exact g2d w os
theorem g3 (w : World) (os : OsState) : segRunT treeTable pw w 11 ann0 1 30 (S_p9 w os) (piecesOf (sts 10 1) cenv cE ⟨95, 0, 95, 6⟩ [topFrame q0]) = some (.next, S_p10 w os, cE, ⟨96, 0, 97, 30⟩) := tw1 _ _ _ _ _ _ _ (by kernel_rfl)
theorem g5 (w : World) (os : OsState) : segRunT treeTable pw w 11 ann0 1 481 (S_p11 w os) (piecesOf (sts 12 51) cenv cE ⟨98, 0, 98, 13⟩ [topFrame q0]) = some (.next, S_p62 w os, cE, ⟨153, 0, 153, 11⟩) := tw1 _ _ _ _ _ _ _ (by kernel_rfl)
noncomputable abbrev G6 (a : Bool) (w : World) (os : OsState) : Prop := segRunT treeTable pw (w.withFollow "special-get-raises" a) 11 ann0 1 979 (S_p62 (w.withFollow "special-get-raises" a) os) (piecesOf (sts 63 1) cenv cE ⟨153, 0, 153, 11⟩ [topFrame q0]) =
    some (.next, S_p63 (w.withFollow "special-get-raises" a) os, cE, ⟨154, 0, 154, 17⟩)
theorem g6a (w : World) (os : OsState) : G6 false w os := tw1 _ _ _ _ _ _ _ (by kernel_rfl)
theorem g6b (w : World) (os : OsState) : G6 true w os := tw1 _ _ _ _ _ _ _ (by kernel_rfl)
theorem g6 (a : Bool) (w : World) (os : OsState) : segRunT treeTable pw (w.withFollow "special-get-raises" a) 11 ann0 1 979 (S_p62 (w.withFollow "special-get-raises" a) os) (piecesOf (sts 63 1) cenv cE ⟨153, 0, 153, 11⟩ [topFrame q0]) =
    some (.next, S_p63 (w.withFollow "special-get-raises" a) os, cE, ⟨154, 0, 154, 17⟩) := by
  cases a
  · exact g6a w os
  · exact g6b w os
theorem g7 (w : World) (os : OsState) : segRunT treeTable pw w 11 ann0 1 240 (S_p63 w os) (piecesOf (sts 64 9) cenv cE ⟨154, 0, 154, 17⟩ [topFrame q0]) = some (.next, S_p72 w os, cE, ⟨233, 0, 248, 71⟩) := tw1 _ _ _ _ _ _ _ (by kernel_rfl)
end Mine
end
section
open PySem PySem.W PySem.Calls PyProof.Rows
set_option maxRecDepth 100000
namespace Mine
noncomputable def st11 : Stmt := nthS pw.main.body 11
noncomputable abbrev tg11 : List Expr := asgT st11
noncomputable abbrev vl11 : Expr := asgV st11
noncomputable def R11 (v : Value) : Sem Flow := do assignStores cenv v (← swappedStores tg11 vl11 cenv) ((assignEach tg11 cenv).map (·.2))
noncomputable def P11 : Pos := ⟨98, 16, 98, 8704⟩
theorem exec11 : exec st11 cenv = Sem.at ⟨98, 0, 98, 8704⟩ fun _ => (Sem.at P11 fun _ => dictDisplay (itm P11 b3L)) >>= R11 := by kernel_rfl
end Mine
end
section
open PySem PySem.W PySem.Calls PyProof.Rows
set_option maxRecDepth 100000
namespace Mine
theorem tail11 (w : World) (os : OsState) : segRunT treeTable pw w 11 ann0 1 20 (S_b3 w os) ⟨(R11 (.ref 103)).wrap doneF deadEnd id id, cE, P11, [topFrame q0]⟩ = some (.next, S_p11 w os, cE, ⟨98, 0, 98, 13⟩) := by
  rw [PySem.W.Fast.te10110043849684766642, PySem.W.Fast.te14364793385576792824]
  kernel_rfl
theorem piece_tree {n N : Nat} {p : Program} {w : World} {s s' r : Shared} {x : Sem Flow} {rest : List Stmt} {env : Env} {c : Code} {pos p' q : Pos} (h : segRun treeTable p w 11 ann0 1 n s ⟨x.wrap doneF deadEnd id id, c, pos, [topFrame q]⟩ = some (.next, s', c, p'))
    (k : topRun treeTable p w 11 ann0 N s' (restOf rest env c p' [topFrame q]) = some r) :
    topRun treeTable p w 11 ann0 (n + N) s ⟨x.wrap (fun f => match f with | .next => (execs rest env).wrap doneF (leaveH env) id id | f => doneF f) (leaveH env) id id, c, pos, [topFrame q]⟩ = some r := by
  obtain ⟨a, ha, hN⟩ := seg_top (res := id) (K' := fun f => match f with | .next => (execs rest env).wrap doneF (leaveH env) id id | f => doneF f) (H' := leaveH env) (B := [topFrame q]) rfl n s ⟨x.wrap doneF deadEnd id id, c, pos, [topFrame q]⟩
    ⟨x.wrap (fun f => match f with | .next => (execs rest env).wrap doneF (leaveH env) id id | f => doneF f) (leaveH env) id id, c, pos, [topFrame q]⟩ _ _ _ _ ⟨rfl, rfl, .inl ⟨rfl, rfl, _, rfl, rfl⟩⟩ h
  obtain rfl : a = .next := ha
  exact hN N r k
theorem heap10 (w : World) (os : OsState) : (S_p10 w os).abs = ⟨Hl ((T_p10 w.params).list 103), #[], {}, 360, os⟩ := rfl
theorem len10 (P : Params) : ((T_p10 P).list 103).length = 103 := by unfold BT.list; rw [List.length_map, List.length_range]
theorem b3_list (P : Params) : (T_b3 P).list 142 = (T_p10 P).list 103 ++ b3main P :: (subsOf b3Cs 411 ++ [Dc (ents2 b3Cl 2298) 4]) := by kernel_rfl
theorem heapB3 (w : World) (os : OsState) : (S_b3 w os).abs = ⟨Hp ((T_p10 w.params).list 103) (b3main w.params) (subsOf b3Cs 411 ++ [Dc (ents2 b3Cl 2298) 4]), #[], {}, 2310, os⟩ := by
  show Shared.mk ⟨((T_b3 w.params).list 142).toArray, {}⟩ _ _ _ _ = _
  rw [b3_list]; rfl
theorem cs_len : b3Cs.length = 37 := by kernel_rfl
theorem cl_len : b3Cl.length = 4 := by kernel_rfl
theorem c0_len : b3C0.length = 17 := by kernel_rfl
theorem csf_len : b3Cs.flatten.length = 629 := by kernel_rfl
theorem goes11 (w : World) (os : OsState) : Goes pw w 11 ann0 cE (Sem.at ⟨98, 0, 98, 8704⟩ fun _ => Sem.at P11 fun _ => dictDisplay (itm P11 b3L)) (S_p10 w os).abs ⟨96, 0, 97, 30⟩ (.ref 103) (S_b3 w os).abs P11 12765 := by
  have h := goes_display (p := pw) (w := w) (n₀ := 11) (ann := ann0) (c := cE) (q := P11) (gs := #[]) (d := {}) (os := os) (P := P11) (tk := 360) (C₀ := b3C0) (Cs := b3Cs) (Cl := b3Cl) (l := (T_p10 w.params).list 103)
    (by rw [len10]; decide) (by rw [len10]; decide) c0_len b3_17 (by rw [cl_len]; decide) (by rw [← Bool.not_eq_true, List.isEmpty_iff]; intro e; have := cl_len; rw [e] at this; cases this) b3_small b3_nodup (by rw [csf_len]; decide)
  rw [← b3_split, len10, cs_len, cl_len, csf_len] at h
  rw [heap10, heapB3]
  exact goes_at (goes_at h)
theorem sts11 : sts 11 1 = [st11] := by kernel_rfl
theorem exec11' : exec st11 cenv = (Sem.at ⟨98, 0, 98, 8704⟩ fun _ => Sem.at P11 fun _ => dictDisplay (itm P11 b3L)) >>= R11 := exec11.trans rfl
theorem b3_run {w : World} {os : OsState} {rest : List Stmt} {N : Nat} {r : Shared} (k : topRun treeTable pw w 11 ann0 N (S_p11 w os).abs (restOf rest cenv cE ⟨98, 0, 98, 13⟩ [topFrame q0]) = some r) :
    topRun treeTable pw w 11 ann0 (12765 + (20 + N)) (S_p10 w os).abs (restOf (sts 11 1 ++ rest) cenv cE ⟨96, 0, 97, 30⟩ [topFrame q0]) = some r := by
  rw [sts11, List.singleton_append]
  unfold restOf
  rw [execs_cons_wrap, exec11', Sem.bind_eq_wrap', Sem.wrap_wrap]
  refine goes11 w os _ _ _ _ (topFrame q0) [] (20 + N) r ?_
  exact piece_tree (segRun_of (tail11 w os)) k
end Mine
end
section
open PySem PySem.W PySem.Calls PyProof.Rows
set_option maxRecDepth 100000
namespace Mine
noncomputable def KF (P : Params) : Frag := ((nat_lit 2, boot_o_2 P) : Nat × Obj) :: ((nat_lit 3, o3_8 P) : Nat × Obj) :: ((nat_lit 22, o22 P) : Nat × Obj) :: ((nat_lit 24, o24 P) : Nat × Obj) :: ((nat_lit 25, o25 P) : Nat × Obj) :: ((nat_lit 27, o27 P) : Nat × Obj) :: ((nat_lit 28, o28 P) : Nat × Obj) :: ((nat_lit 29, o29 P) : Nat × Obj) :: ((nat_lit 31, o31 P) : Nat × Obj) :: ((nat_lit 32, o32 P) : Nat × Obj) :: ((nat_lit 34, o34 P) : Nat × Obj) :: ((nat_lit 35, o35 P) : Nat × Obj) :: ((nat_lit 36, o36 P) : Nat × Obj) :: ((nat_lit 38, o38 P) : Nat × Obj) :: ((nat_lit 39, o39 P) : Nat × Obj) :: ((nat_lit 41, o41 P) : Nat × Obj) :: ((nat_lit 42, o42 P) : Nat × Obj) :: ((nat_lit 43, o43 P) : Nat × Obj) :: ((nat_lit 45, o45 P) : Nat × Obj) :: ((nat_lit 46, o46 P) : Nat × Obj) :: ((nat_lit 48, o48 P) : Nat × Obj) :: ((nat_lit 49, o49 P) : Nat × Obj) :: ((nat_lit 50, o50 P) : Nat × Obj) :: ((nat_lit 51, o51 P) : Nat × Obj) :: ((nat_lit 52, o52 P) : Nat × Obj) :: ((nat_lit 53, o53 P) : Nat × Obj) :: ((nat_lit 54, o54 P) : Nat × Obj) :: ((nat_lit 57, o57 P) : Nat × Obj) :: ((nat_lit 59, o59 P) : Nat × Obj) :: ((nat_lit 60, o60 P) : Nat × Obj) :: ((nat_lit 62, o62 P) : Nat × Obj) :: ((nat_lit 63, o63 P) : Nat × Obj) :: ((nat_lit 64, o64 P) : Nat × Obj) :: ((nat_lit 66, o66 P) : Nat × Obj) :: ((nat_lit 67, o67 P) : Nat × Obj) :: ((nat_lit 69, o69 P) : Nat × Obj) :: ((nat_lit 70, o70 P) : Nat × Obj) :: ((nat_lit 71, o71 P) : Nat × Obj) :: ((nat_lit 73, o73 P) : Nat × Obj) :: ((nat_lit 74, o74 P) : Nat × Obj) :: ((nat_lit 76, o76 P) : Nat × Obj) :: ((nat_lit 77, o77 P) : Nat × Obj) :: ((nat_lit 78, o78 P) : Nat × Obj) :: ((nat_lit 80, o80 P) : Nat × Obj) :: ((nat_lit 81, o81 P) : Nat × Obj) :: ((nat_lit 83, o83 P) : Nat × Obj) :: ((nat_lit 84, o84 P) : Nat × Obj) :: ((nat_lit 92, o92 P) : Nat × Obj) :: ((nat_lit 96, o96 P) : Nat × Obj) :: ((nat_lit 98, o98 P) : Nat × Obj) :: ((nat_lit 99, o99 P) : Nat × Obj) :: ((nat_lit 101, o101 P) : Nat × Obj) :: ((nat_lit 102, o102 P) : Nat × Obj) :: ((nat_lit 103, b3main P) : Nat × Obj) :: ((nat_lit 142, o142 P) : Nat × Obj) :: ((nat_lit 144, o144 P) : Nat × Obj) :: ((nat_lit 145, o145 P) : Nat × Obj) :: ((nat_lit 147, o147 P) : Nat × Obj) :: ((nat_lit 148, o148 P) : Nat × Obj) :: ((nat_lit 149, o149 P) : Nat × Obj) :: ((nat_lit 152, o152 P) : Nat × Obj) :: ((nat_lit 154, o154 P) : Nat × Obj) :: ((nat_lit 155, o155 P) : Nat × Obj) :: ((nat_lit 157, o157 P) : Nat × Obj) :: ((nat_lit 158, o158 P) : Nat × Obj) :: ((nat_lit 159, o159 P) : Nat × Obj) :: ((nat_lit 161, o161 P) : Nat × Obj) :: ((nat_lit 162, o162 P) : Nat × Obj) :: ((nat_lit 164, o164 P) : Nat × Obj) :: ((nat_lit 165, o165 P) : Nat × Obj) :: ((nat_lit 166, o166 P) : Nat × Obj) :: ((nat_lit 169, o169 P) : Nat × Obj) :: ((nat_lit 170, o170 P) : Nat × Obj) :: ((nat_lit 171, o171 P) : Nat × Obj) :: ((nat_lit 173, o173 P) : Nat × Obj) :: ((nat_lit 174, o174 P) : Nat × Obj) :: ((nat_lit 176, o176 P) : Nat × Obj) :: ((nat_lit 177, o177 P) : Nat × Obj) :: ((nat_lit 178, o178 P) : Nat × Obj) :: ((nat_lit 181, o181 P) : Nat × Obj) :: ((nat_lit 182, o182 P) : Nat × Obj) :: ((nat_lit 183, o183 P) : Nat × Obj) :: ((nat_lit 186, o186 P) : Nat × Obj) :: ((nat_lit 187, o187 P) : Nat × Obj) :: ((nat_lit 188, o188 P) : Nat × Obj) :: ((nat_lit 191, o191 P) : Nat × Obj) :: ((nat_lit 192, o192 P) : Nat × Obj) :: ((nat_lit 193, o193 P) : Nat × Obj) :: ((nat_lit 196, o196 P) : Nat × Obj) :: ((nat_lit 197, o197 P) : Nat × Obj) :: []
noncomputable abbrev asF : List Addr := [2, 3, 22, 24, 25, 27, 28, 29, 31, 32, 34, 35, 36, 38, 39, 41, 42, 43, 45, 46, 48, 49, 50, 51, 52, 53, 54, 57, 59, 60, 62, 63, 64, 66, 67, 69, 70, 71, 73, 74, 76, 77, 78, 80, 81, 83, 84, 92, 96, 98, 99, 101, 102, 103, 142, 144, 145, 147, 148, 149, 152, 154, 155, 157, 158, 159, 161, 162, 164, 165, 166, 169, 170, 171, 173, 174, 176, 177, 178, 181, 182, 183, 186, 187, 188, 191, 192, 193, 196, 197]
theorem as_ok : ∀ P, asF = (KF P).map (·.1) := fun _ => by kernel_rfl
noncomputable abbrev hk : Hook := kmHook KF asF as_ok [172]
noncomputable def looseF : List Str := [Str.ofString "_netrclex", Str.ofString "TICK", Str.ofString "_iter_escaped_chars", Str.ofString "_strip_quoted_realnames", Str.ofString "_check_parenthesis", Str.ofString "decode_rfc2231", Str.ofString "b1_set", Str.ofString "in_table_b1", Str.ofString "b3_exceptions", Str.ofString "map_table_b3", Str.ofString "ENDMARKER", Str.ofString "LPAR", Str.ofString "RPAR", Str.ofString "LSQB", Str.ofString "RSQB", Str.ofString "COLON", Str.ofString "COMMA", Str.ofString "SEMI", Str.ofString "PLUS", Str.ofString "MINUS", Str.ofString "STAR", Str.ofString "SLASH", Str.ofString "VBAR", Str.ofString "AMPER", Str.ofString "LESS", Str.ofString "GREATER", Str.ofString "EQUAL", Str.ofString "DOT", Str.ofString "PERCENT", Str.ofString "LBRACE", Str.ofString "RBRACE", Str.ofString "EQEQUAL", Str.ofString "NOTEQUAL", Str.ofString "LESSEQUAL", Str.ofString "GREATEREQUAL", Str.ofString "TILDE", Str.ofString "CIRCUMFLEX", Str.ofString "LEFTSHIFT", Str.ofString "RIGHTSHIFT", Str.ofString "DOUBLESTAR", Str.ofString "PLUSEQUAL", Str.ofString "MINEQUAL", Str.ofString "STAREQUAL", Str.ofString "SLASHEQUAL", Str.ofString "PERCENTEQUAL", Str.ofString "AMPEREQUAL", Str.ofString "VBAREQUAL", Str.ofString "CIRCUMFLEXEQUAL", Str.ofString "LEFTSHIFTEQUAL", Str.ofString "RIGHTSHIFTEQUAL", Str.ofString "DOUBLESTAREQUAL", Str.ofString "DOUBLESLASH", Str.ofString "DOUBLESLASHEQUAL", Str.ofString "AT", Str.ofString "ATEQUAL", Str.ofString "RARROW", Str.ofString "ELLIPSIS", Str.ofString "COLONEQUAL", Str.ofString "EXCLAMATION", Str.ofString "EXACT_TOKEN_TYPES", Str.ofString "ISEOF", Str.ofString "_law_card", Str.ofString "_law_number", Str.ofString "_law_ring", Str.ofString "_law_walk", Str.ofString "_law_feet", Str.ofString "_law_three"]
noncomputable def vq : Program := { pw with main := { pw.main with body := [nthS pw.main.body 72] } }
end Mine
end
section
open PySem PySem.W PySem.Calls PyProof.Rows PySem.Spec
namespace Mine
theorem nsym {a b : Nat} (h : b ≠ a) : a ≠ b := Ne.symm h
theorem dltz {d k n : Nat} (h : d + k < n) : d < n := Nat.lt_of_le_of_lt (Nat.le_add_right d k) h
theorem dlt0 {d k j n : Nat} (h : d + k < n) (hj : Nat.ble j k = true) : d + j < n := Nat.lt_of_le_of_lt (Nat.add_le_add_left (Nat.le_of_ble_eq_true hj) d) h
theorem dlt1 {d k i j n : Nat} (h : d + k < n) (hj : Nat.ble (i + j) k = true) : d + i + j < n := by
  rw [Nat.add_assoc]; exact dlt0 h hj
end Mine
end
local macro_rules | `(tactic| k_ne) => `(tactic| (refine PySem.W.neN ?_; (try dsimp only); first
  | with_reducible assumption | with_reducible exact Mine.nsym (by assumption) | with_reducible exact Nat.ne_of_lt (by assumption) | with_reducible exact Nat.ne_of_gt (by assumption)
  | (simp +arith only [ne_eq, not_false_eq_true]; done) | omega))
section
open PySem PySem.W PySem.Calls PyProof.Rows PySem.Spec
set_option maxRecDepth 100000
set_option maxHeartbeats 4000000
namespace Mine
theorem fill0 : PySem.Challenge.rw_sn0082_01 = PySem.Challenge.rw_sn0082_01 ∧ KF = KF := by k_fill; exact ⟨rfl, rfl⟩
noncomputable abbrev lexE (P : Params) (ln : Int) (t1 : Tok) (st : Value) (t2 : Tok) (pb : Addr) (k1 k2 k3 k4 : Tok) : List DictEntry :=
  [⟨PyData.keyHash P (Str.ofString "lineno"), .str (Str.ofString "lineno") k1, .int ln t1⟩,
   ⟨PyData.keyHash P (Str.ofString "instream"), .str (Str.ofString "instream") k2, st⟩,
   ⟨PyData.keyHash P (Str.ofString "whitespace"), .str (Str.ofString "whitespace") k3, .str (Str.ofString "\n\t\u000d ") t2⟩,
   ⟨PyData.keyHash P (Str.ofString "pushback"), .str (Str.ofString "pushback") k4, .ref pb⟩]
structure Base (w : World) (mg mb : Str → Option Value) (hb : Heap) : Prop where
  K : (KF w.params).In hb
  T : Top vq looseF (ExcName.means hb) mg mb hb
end Mine
end
section
open PySem PySem.W PySem.Calls PyProof.Rows PySem.Spec
set_option maxRecDepth 100000
namespace Mine
noncomputable def Sub (a b : Heap) : Prop := ∀ x o, a.get? x = some o → b.get? x = some o
theorem hide_size (l : List Addr) (h : Heap) : (hideAll h l).objs.size = h.objs.size := hideAll_size l h
section
variable {w : World} {mg mb : Str → Option Value} {hb : Heap} {A : Around} {s : Shared} {Q E : Value → Shared → Prop}
theorem enterG {name qual : Str} {params : Arguments} {body : List Stmt} {scope : Scope} {dV kV doc pm cdv ct oc : Value} {an od : Option Addr} {osl : Array (Option Value)} {f : Addr} {args : List Value} {binds : List (Str × Value)}
    (B : Base w mg mb hb) (hs : Sub hb s.heap) (hid : List (Addr × Obj)) (hh : ∀ p ∈ hid, s.heap.get? p.1 = some p.2 ∧ hb.get? p.1 = none)
    (ho : (KF w.params).lookup f = some ⟨oc, od, .func (fnOf name qual params body scope dV kV doc pm an cdv ct), osl⟩) (hcd : codeIn (KF w.params) cdv qual = true) (hroom : A.depth < recursionLimit)
    (hbind : BindsTo s (fnOf name qual params body scope dV kV doc pm an cdv ct) ⟨args, []⟩ binds) (hloc : ∀ y ∈ binds, scope.names.lookup y.1 = some .local)
    (h : ∀ g L h₁, (∀ b o, s.heap.get? b = some o → b ∉ hid.map (·.1) → g.get? b = some o) → (∀ b, s.heap.get? b = none → g.get? b = none) → L = s.heap.objs.size → Fr g L h₁ (fun y => binds.reverse.lookup y) → News g L h₁ hid → (KF w.params).In g → Top vq looseF (ExcName.means hb) mg mb g → Sub hb g →
      wpAny (model pw w) (A.deeper (envOf qual scope L f cdv)) (execs body (envOf qual scope L f cdv)) (fun fl s' => Q (match fl with | .ret v => v | _ => .none) s') (fun _ _ => False) { s with heap := h₁, toks := s.toks + binds.length })
    (hco : scope.isCoroutine = false) (hgen : scope.isGenerator = false) (hk : scope.kind = .function) (hcell : ∀ x ∈ scope.names, x.2 ≠ .cell) :
    wpAny (model pw w) A (call (.ref f) args) Q E s := by
  have X : (KF w.params).In s.heap := B.K.keeps hs
  have nm : ∀ b o, hb.get? b = some o → b ∉ hid.map (·.1) := fun b o e q => by
    obtain ⟨p, hp, rfl⟩ := List.mem_map.mp q
    rw [(hh p hp).2] at e; cases e
  have st : ∀ b o, hb.get? b = some o → (hideAll s.heap (hid.map (·.1))).get? b = some o := fun b o e => hideAll_get _ (hs b o e) (nm b o e)
  refine wpAny_call (codeAny_call_def (fd := fnOf name qual params body scope dV kV doc pm an cdv ct) (body := body) (binds := binds) hroom (X _ _ ho) rfl (B.T.nolimit.keeps hs) (codeRec_of X hcd) rfl hbind hcell hloc (fun h₁ hns hk₁ => ?_) hco hgen hk)
  refine wpAny_mono (h (hideAll s.heap (hid.map (·.1))) s.heap.objs.size h₁ (fun b o e n => hideAll_get _ e n) (fun b e => ?_) rfl ⟨hns, fun b o e => hk₁ b o (of_hideAll _ e), Nat.le_of_eq (hideAll_size _ _)⟩
    (fun p hp => ⟨hk₁ _ _ (hh p hp).1, Nat.ne_of_lt (Heap.lt_size (hh p hp).1), hideAll_none _ (List.mem_map_of_mem hp)⟩) (B.K.keeps st) (B.T.keeps st) (fun b o e => st b o e)) (fun fl s' hl => hl) fun _ _ y => y.elim
  cases q : (hideAll s.heap (hid.map (·.1))).get? b with
  | none => rfl
  | some o => rw [of_hideAll _ q] at e; cases e
end
theorem ne_of_obj {h : Heap} {a b : Addr} {x y : Obj} (h1 : h.get? a = some x) (h2 : h.get? b = some y) (hc : (x.cls == y.cls) = false) : a ≠ b := fun z => by
  subst z
  rw [h1] at h2
  cases h2
  simp at hc
theorem chgG {h h' g : Heap} {L : Addr} {m : Str → Option Value} {hid news : List (Addr × Obj)} (hg : ∀ b o, h.get? b = some o → b ∉ hid.map (·.1) → g.get? b = some o) (F : Fr g L h' m) (N : News g L h' news) :
    ∀ b o, h.get? b = some o → (b ∉ hid.map (·.1) ∨ (b, o) ∈ news) → h'.get? b = some o := fun b o e hb => by
  rcases hb with hb | hb
  · exact F.keep b o (hg b o e hb)
  · exact (N _ hb).1
theorem hbOf {a b c : Heap} (h : Sub a b) (k : ∀ x o, b.get? x = some o → c.get? x = some o) : Sub a c := fun x o e => k x o (h x o e)
theorem chg_hit {s : Heap} {b c : Addr} {o o' : Obj} {l : List (Addr × Obj)} {P : Prop} (q : b = c) (h : s.get? c = some o') (m : (c, o') ∈ l) (e : s.get? b = some o) : P ∨ (b, o) ∈ l := by
  subst q; rw [h] at e; cases e; exact .inr m
end Mine
end
section
open PySem PySem.W PySem.Calls PyProof.Rows PySem.Spec
set_option maxRecDepth 100000
set_option maxHeartbeats 4000000
namespace Mine
section
variable {w : World} {mg mb : Str → Option Value} {hb : Heap} {A : Around} {s : Shared} {Q E : Value → Shared → Prop}
theorem c_push (B : Base w mg mb hb) (hs : Sub hb s.heap) (hA : A.depth < recursionLimit) (hh : A.handled = none) (lex dx pb : Addr) (ws : Array Value) (n : Nat) (ln : Int) (t1 t2 k1 k2 k3 k4 : Tok) (st : Value) (e : Nat) (x : Str) (tx : Tok)
    (h1 : s.heap.get? lex = some (instObj 52 dx)) (h2 : s.heap.get? dx = some (dictOf (lexE w.params ln t1 st t2 pb k1 k2 k3 k4) e)) (h3 : s.heap.get? pb = some (listOf ws n)) (hn1 : hb.get? lex = none) (hn2 : hb.get? dx = none) (hn3 : hb.get? pb = none) (hz : ws.size < 1000)
    (ret : ∀ h' tk', (∀ b o, b ≠ pb → s.heap.get? b = some o → h'.get? b = some o) → h'.get? pb = some (listOf (ws.push (.str x tx)) (n + 1)) → Q .none { s with heap := h', toks := tk' }) :
    wpAny (model pw w) A (call (.ref 49) [.ref lex, .str x tx]) Q E s := by
  have d1 : dx ≠ pb := ne_of_obj h2 h3 (by kernel_rfl)
  have d2 : lex ≠ pb := ne_of_obj h1 h3 (by kernel_rfl)
  have d3 : lex ≠ dx := ne_of_obj h1 h2 (by kernel_rfl)
  refine enterG B hs [(lex, instObj 52 dx), (dx, dictOf (lexE w.params ln t1 st t2 pb k1 k2 k3 k4) e), (pb, listOf ws n)] ?_ (f := 49) (name := "push_token") (qual := "_netrclex.push_token") (binds := [("self", .ref lex), ("token", .str x tx)]) (by k_is) (by k_is) hA ?_ ?_ ?_ ?_ ?_ ?_ ?_
  · intro p hp
    rcases List.mem_cons.mp hp with rfl | hp
    · exact ⟨h1, hn1⟩
    rcases List.mem_cons.mp hp with rfl | hp
    · exact ⟨h2, hn2⟩
    rw [List.mem_singleton.mp hp]; exact ⟨h3, hn3⟩
  · exact BindsTo.of_eq rfl
  · exact locs rfl
  · intro g L h₁ hg hg' hL F N X T hbg
    have hb1 : (fq 1 3).2.1 = (fq 1 3).2.1 := rfl
    conv at hb1 => rhs; whnf
    have hb2 : (fq 1 3).2.2 = (fq 1 3).2.2 := rfl
    conv at hb2 => rhs; whnf
    rw [hb1, hb2]
    clear hb1 hb2
    k_steps
    rename Fr _ _ _ _ => F'
    rename News _ _ _ _ => N'
    refine ret _ _ (fun b o hb e => chgG hg F' N' b o e ?_) (N' (pb, _) (by simp)).1
    by_cases b1 : b = lex
    · exact chg_hit b1 h1 (by simp) e
    by_cases b2 : b = dx
    · exact chg_hit b2 h2 (by simp) e
    exact .inl (by simp [b1, b2, hb])
  · rfl
  · rfl
  · rfl
  · decide
end
end Mine
end
section
open PySem PySem.W PySem.Calls PyProof.Rows PySem.Spec
set_option maxRecDepth 100000
set_option maxHeartbeats 4000000
namespace Mine
theorem hashI_small {k : Int} (h0 : 0 ≤ k) (h1 : k < 2 ^ 60) : hashInt k = k := by
  unfold hashInt
  rw [hash_small h0 h1, if_neg]
  simp; omega
noncomputable def b1E : List (Int × Value) := [(65024, (.int 65024 309)), (65025, (.int 65025 310)), (65026, (.int 65026 311)), (65027, (.int 65027 312)), (65028, (.int 65028 313)), (65029, (.int 65029 314)), (6150, (.int 6150 295)), (65030, (.int 65030 315)), (65031, (.int 65031 316)), (65032, (.int 65032 317)), (65033, (.int 65033 318)), (6155, (.int 6155 296)), (6156, (.int 6156 297)), (6157, (.int 6157 298)), (8203, (.int 8203 299)), (8204, (.int 8204 300)), (8205, (.int 8205 301)), (65034, (.int 65034 319)), (65035, (.int 65035 320)), (65036, (.int 65036 321)), (65037, (.int 65037 322)), (65038, (.int 65038 323)), (65039, (.int 65039 324)), (173, (.int 173 293)), (847, (.int 847 294)), (8288, (.int 8288 302)), (65279, (.int 65279 303))]
noncomputable def b1K : List Int := [173, 847, 6150, 6155, 6156, 6157, 8203, 8204, 8205, 8288, 65279, 65024, 65025, 65026, 65027, 65028, 65029, 65030, 65031, 65032, 65033, 65034, 65035, 65036, 65037, 65038, 65039]
noncomputable def inB1 (c : Nat) : Bool := b1K.contains (c : Int)
noncomputable def b1S (k : Int) : Bool := b1E.any fun e => Value.isInt k e.2
noncomputable def b1Of (v : Value) : Option Int := match v with
  | .int n _ => some n
  | _ => none
theorem b1Of_int {v : Value} {n : Int} (h : b1Of v = some n) : ∃ t, v = .int n t := by
  unfold b1Of at h
  split at h
  · cases h; exact ⟨_, rfl⟩
  · cases h
noncomputable def b1Ok (e : Int × Value) : Bool := match b1Of e.2 with
  | some n => b1K.contains n && decide (0 ≤ n) && decide (n < 100000) && (e.1 == n)
  | none => false
theorem b1_all : b1E.all b1Ok = true := by decide +kernel
theorem b1_any : (b1K.all fun n => b1E.any fun e => Value.isInt n e.2) = true := by decide +kernel
theorem b1_mem {e : Int × Value} (h : e ∈ b1E) : ∃ n t, e = (n, .int n t) ∧ b1K.contains n = true ∧ 0 ≤ n ∧ n < 100000 := by
  have a := List.all_eq_true.mp b1_all e h
  unfold b1Ok at a
  cases q : b1Of e.2 with
  | none => rw [q] at a; cases a
  | some n =>
    rw [q] at a
    simp only [Bool.and_eq_true, decide_eq_true_eq, beq_iff_eq] at a
    obtain ⟨t, e2⟩ := b1Of_int q
    exact ⟨n, t, Prod.ext a.2 e2, a.1.1.1, a.1.1.2, a.1.2⟩
theorem b1S_eq (k : Int) : b1S k = b1K.contains k := by
  rw [Bool.eq_iff_iff]
  unfold b1S
  constructor
  · intro h
    obtain ⟨e, he, q⟩ := List.any_eq_true.mp h
    obtain ⟨n, t, rfl, c, _⟩ := b1_mem he
    have : n = k := beq_iff_eq.mp q
    rw [← this]; exact c
  · intro h
    exact List.all_eq_true.mp b1_any k (List.contains_iff_mem.mp h)
theorem set92 {w : World} {h : Heap} (X : (KF w.params).In h) : h.SetOf (intKind pw w) 92 b1S 27 := by
  have g : h.get? 92 = some (o92 w.params) := X _ _ (by k_is)
  refine ⟨_, _, _, _, g, ⟨rfl, rfl, rfl⟩, rfl, ?_, fun k => ?_, by decide, by kernel_rfl, by kernel_rfl⟩
  · intro e he
    have he' : e ∈ b1E := he
    obtain ⟨n, t, rfl, _, h0, h1⟩ := b1_mem he'
    exact ⟨⟨n, beq_self_eq_true _, (hashI_small h0 (Int.lt_trans h1 (by decide))).symm⟩, rfl⟩
  · show b1E.any _ = true ↔ ∃ e ∈ b1E, Value.isInt k e.2 = true
    rw [List.any_eq_true]
section
variable {w : World} {mg mb : Str → Option Value} {hb : Heap} {A : Around} {s : Shared} {Q E : Value → Shared → Prop}
theorem c_b1 (B : Base w mg mb hb) (hs : Sub hb s.heap) (hA : A.depth < recursionLimit) (hh : A.handled = none) (c : Nat) (t : Tok)
    (ret : ∀ h' tk', Sub s.heap h' → Q (.bool (inB1 c)) { s with heap := h', toks := tk' }) :
    wpAny (model pw w) A (call (.ref 102) [.str ⟨#[c]⟩ t]) Q E s := by
  refine enterG B hs [] (fun p hp => nomatch hp) (f := 102) (name := "in_table_b1") (qual := "in_table_b1") (binds := [("code", .str ⟨#[c]⟩ t)]) (by k_is) (by k_is) hA ?_ ?_ ?_ ?_ ?_ ?_ ?_
  · exact BindsTo.of_eq rfl
  · exact locs rfl
  · intro g L h₁ hg hg' hL F N X T hbg
    have hb1 : (fp 10).2.1 = (fp 10).2.1 := rfl
    conv at hb1 => rhs; whnf
    have hb2 : (fp 10).2.2 = (fp 10).2.2 := rfl
    conv at hb2 => rhs; whnf
    rw [hb1, hb2]
    clear hb1 hb2
    k_steps
    rename Fr _ _ _ _ => F'
    rename News _ _ _ _ => N'
    refine wpAny_inSet_of (knd := intKind pw w) (k := (c : Int)) ?_ rfl (set92 (X.keeps F'.keep)) ?_
    · simp [intKind, Value.isInt]
    · rw [b1S_eq]
      k_steps
      exact ret _ _ (fun b o e => chgG hg F' N' b o e (.inl (by simp)))
  · rfl
  · rfl
  · rfl
  · decide
end
end Mine
end
section
open PySem PySem.W PySem.Calls PyProof.Rows PySem.Spec
set_option maxRecDepth 100000
set_option maxHeartbeats 4000000
namespace Mine
noncomputable def lookD (es : List DictEntry) (k : Int) : Option Value := (es.find? fun e => Value.isInt k e.key).map (·.val)
theorem lookD_app (a b : List DictEntry) (k : Int) : lookD (a ++ b) k = (lookD a k).or (lookD b k) := by
  unfold lookD
  rw [List.find?_append]
  cases List.find? (fun e => Value.isInt k e.key) a <;> rfl
noncomputable def Told (o : Option Value) (x : Option Str) : Prop :=
  match x with
  | none => o = none
  | some v => ∃ t, o = some (.str v t)
noncomputable def lookL (L : List KV) (k : Int) : Option Str := (L.find? fun kv => kv.1 == k).map (·.2)
theorem told_or {a b : Option Value} {x y : Option Str} (h : Told a x) (h' : Told b y) : Told (a.or b) (x.or y) := by
  cases x with
  | none => have e : a = none := h; subst e; exact h'
  | some v => obtain ⟨t, e⟩ := h; subst e; exact ⟨t, rfl⟩
theorem lookL_app (a b : List KV) (k : Int) : lookL (a ++ b) k = (lookL a k).or (lookL b k) := by
  unfold lookL
  rw [List.find?_append]
  cases List.find? (fun kv => kv.1 == k) a <;> rfl
theorem told_ents (k : Int) : ∀ (L : List KV) (t : Nat), Told (lookD (ents L t) k) (lookL L k)
  | [], _ => rfl
  | kv :: r, t => by
    unfold ents lookD lookL
    rw [List.find?_cons, List.find?_cons]
    have e : Value.isInt k (Value.int kv.1 t) = (kv.1 == k) := rfl
    simp only [e]
    cases kv.1 == k with
    | true => exact ⟨_, rfl⟩
    | false => exact told_ents k r _
theorem told_ents2 (k : Int) : ∀ (L : List KV) (t : Nat), Told (lookD (ents2 L t) k) (lookL L k)
  | [], _ => rfl
  | kv :: r, t => by
    unfold ents2 lookD lookL
    rw [List.find?_cons, List.find?_cons]
    have e : Value.isInt k (Value.int kv.1 t) = (kv.1 == k) := rfl
    simp only [e]
    cases kv.1 == k with
    | true => exact ⟨_, rfl⟩
    | false => exact told_ents2 k r _
noncomputable def b3Es : List DictEntry := ents b3C0 360 ++ ents b3Cs.flatten 411 ++ ents2 b3Cl 2298
theorem b3_told (k : Int) : Told (lookD b3Es k) (lookL b3L k) := by
  rw [b3_split, ← List.append_assoc]
  unfold b3Es
  rw [lookD_app, lookL_app, lookD_app, lookL_app]
  exact told_or (told_or (told_ents ..) (told_ents ..)) (told_ents2 ..)
theorem keys_ents (L : List KV) : ∀ (t : Nat), small L → ∀ e ∈ ents L t, ∃ k, Value.isInt k e.key = true ∧ e.hash = hashInt k := by
  induction L with
  | nil => intro t _ e he; exact absurd he List.not_mem_nil
  | cons kv r ih =>
    intro t hs e he
    rcases List.mem_cons.mp he with rfl | he
    · exact ⟨kv.1, beq_self_eq_true _, (hashI_small (hs kv List.mem_cons_self).1 (hs kv List.mem_cons_self).2).symm⟩
    · exact ih _ (fun x hx => hs x (List.mem_cons_of_mem _ hx)) e he
theorem keys_ents2 (L : List KV) : ∀ (t : Nat), small L → ∀ e ∈ ents2 L t, ∃ k, Value.isInt k e.key = true ∧ e.hash = hashInt k := by
  induction L with
  | nil => intro t _ e he; exact absurd he List.not_mem_nil
  | cons kv r ih =>
    intro t hs e he
    rcases List.mem_cons.mp he with rfl | he
    · exact ⟨kv.1, beq_self_eq_true _, (hashI_small (hs kv List.mem_cons_self).1 (hs kv List.mem_cons_self).2).symm⟩
    · exact ih _ (fun x hx => hs x (List.mem_cons_of_mem _ hx)) e he
theorem dict103 {w : World} {h : Heap} (X : (KF w.params).In h) : h.MapOf (intKind pw w) 103 (lookD b3Es) := by
  have g : h.get? 103 = some (Dc b3Es 650) := X _ _ (by k_is)
  refine ⟨_, _, _, g, ⟨rfl, rfl, rfl⟩, rfl, ?_, fun k => ?_⟩
  · intro e he
    have he' : e ∈ b3Es := by simpa using he
    unfold b3Es at he'
    have S := b3_small
    rcases List.mem_append.mp he' with he | he
    · rcases List.mem_append.mp he with he | he
      · exact keys_ents _ _ (fun x hx => S x (List.mem_append_left _ hx)) e he
      · exact keys_ents _ _ (fun x hx => S x (List.mem_append_right _ (List.mem_append_left _ hx))) e he
    · exact keys_ents2 _ _ (fun x hx => S x (List.mem_append_right _ (List.mem_append_right _ hx))) e he
  · unfold findBy lookD
    rw [List.find?_toArray]
    rfl
noncomputable def b3fn (c : Nat) : Str := (lookL b3L (c : Int)).getD (Txt.lower ⟨#[c]⟩)
end Mine
end
section
open PySem PySem.W PySem.Calls PyProof.Rows PySem.Spec
set_option maxRecDepth 100000
set_option maxHeartbeats 4000000
namespace Mine
theorem low_all : ((List.range 128).all fun c => Nat.beq (Txt.lower ⟨#[c]⟩).length 1) = true := by kernel_rfl
theorem low_len {c : Nat} (h : c < 128) : (Txt.lower ⟨#[c]⟩).length = 1 := Nat.eq_of_beq_eq_true (List.all_eq_true.mp low_all c (List.mem_range.mpr h))
section
variable {w : World} {mg mb : Str → Option Value} {hb : Heap} {A : Around} {s : Shared} {Q E : Value → Shared → Prop}
theorem c_b3 (B : Base w mg mb hb) (hs : Sub hb s.heap) (hA : A.depth < recursionLimit) (hh : A.handled = none) (c : Nat) (t : Tok) (hc : lookL b3L (c : Int) = none → c < 128)
    (ret : ∀ h' tk' t', Sub s.heap h' → Q (.str (b3fn c) t') { s with heap := h', toks := tk' }) :
    wpAny (model pw w) A (call (.ref 148) [.str ⟨#[c]⟩ t]) Q E s := by
  refine enterG B hs [] (fun p hp => nomatch hp) (f := 148) (name := "map_table_b3") (qual := "map_table_b3") (binds := [("code", .str ⟨#[c]⟩ t)]) (by k_is) (by k_is) hA ?_ ?_ ?_ ?_ ?_ ?_ ?_
  · exact BindsTo.of_eq rfl
  · exact locs rfl
  · intro g L h₁ hg hg' hL F0 N0 X T hbg
    have hb1 : (fp 12).2.1 = (fp 12).2.1 := rfl
    conv at hb1 => rhs; whnf
    have hb2 : (fp 12).2.2 = (fp 12).2.2 := rfl
    conv at hb2 => rhs; whnf
    rw [hb1, hb2]
    clear hb1 hb2
    k_steps
    have hm := dict103 (w := w) (X.keeps F0.keep)
    refine getMethod_builtin hm.typeIs PySem.F.plainAttrs_dict PySem.F.slot_dict_get PySem.F.type_dict_get ?_ ?_
    · intro a ha
      cases ha
      exact hm.noDict _ rfl
    k_steps
    refine call_meetsIn PySem.F.slot_dict_get hm.typeIs PySem.F.entry_dict_get (PySem.F.args_dict_get_2 _ _) (meets_dict_get (intKind pw w) (k := (c : Int)) 103 (by simp [intKind, Value.isInt]) (by decide)) ⟨_, hm, ?_⟩
    have told := b3_told (c : Int)
    unfold b3fn at ret
    cases hL : lookL b3L (c : Int) with
    | some v =>
      rw [hL] at told ret
      obtain ⟨t', e⟩ := told
      rw [e]
      show wpAny _ _ _ _ _ _
      simp only [Option.getD_some] at ret ⊢
      k_steps
      rename Fr _ _ _ _ => F'
      rename News _ _ _ _ => N'
      exact ret _ _ _ fun b o e => chgG hg F' N' b o e (.inl (by simp))
    | none =>
      rw [hL] at told ret
      have e : lookD b3Es (c : Int) = none := told
      rw [e]
      show wpAny _ _ _ _ _ _
      simp only [Option.getD_none] at ret ⊢
      have hlen : Builtin.Str.tooLong (Txt.lower ⟨#[c]⟩).length = false := by rw [low_len (hc hL)]; decide
      k_steps
      rename Fr _ _ _ _ => F'
      rename News _ _ _ _ => N'
      refine KXw.lower rfl hlen fun t' k => ?_
      exact ret _ _ _ fun b o e => chgG hg F' N' b o e (.inl (by simp))
  · rfl
  · rfl
  · rfl
  · decide
end
end Mine
end
section
open PySem PySem.W PySem.Calls PyProof.Rows PySem.Spec
set_option maxRecDepth 100000
set_option maxHeartbeats 4000000
namespace Mine
noncomputable def Halt (p : Prop) : Prop := p
theorem Halt.of {p : Prop} (h : Halt p) : p := h
theorem hCall {M A Q E s a as} (h : Halt (wpAny M A (call (.ref a) as) Q E s)) : wpAny M A (call (.ref a) as) Q E s := h
theorem hComp {M A Q E s a b c d e} (h : Halt (wpAny M A (eval (PySem.Expr.ListComp a b c d) e) Q E s)) : wpAny M A (eval (PySem.Expr.ListComp a b c d) e) Q E s := h
theorem hFor {M A Q E s a b c d e f} (h : Halt (wpAny M A (exec (Stmt.For a b c d e) f) Q E s)) : wpAny M A (exec (Stmt.For a b c d e) f) Q E s := h
theorem hAsg {M A Q E s a b c d} (h : Halt (wpAny M A (exec (Stmt.Assign a b c) d) Q E s)) : wpAny M A (exec (Stmt.Assign a b c) d) Q E s := h
section
open LCg LCt
variable {prog : Program} {w : World} {A : Around} {E : Value → Shared → Prop} {s : Shared} {h₀ : Heap} {L : Addr} {m : Str → Option Value} {env : Env}
theorem str_st {ty : String} {I : Addr} {x : Str} {t : Tok} : ∀ i (h h' : Heap) (o : Obj) (nw : List (Addr × Obj)), h.IsStrIter I ty x t i → h.get? I = some o → h'.get? I = some o → (∀ b o, h₀.get? b = some o → h'.get? b = some o) → News h₀ L h' nw → True → h'.IsStrIter I ty x t i :=
  fun i h h' o nw st e e' _ _ _ => by
    obtain ⟨o', q, r⟩ := st
    rw [e] at q; cases q
    exact ⟨o, e', r⟩
theorem ListComp_S {ct elt iter : Expr} {x : Str} {px : Pos} {scope : Scope} {cl : List (Str × Addr)} {pos : Pos} {Q : Value → Shared → Prop}
    (hclos : closureFor scope env = pure cl) (hcell : ∀ y ∈ scope.names, y.2 ≠ .cell) (hkind : scope.kind = .function)
    (hnames : ∀ y ∈ scope.names, y.2 = .local → scope.names.lookup y.1 = some .local) (hx : scope.names.lookup x = some .local)
    (h : wpAny (model prog w) A (eval iter env) (fun xv s₁ => ∃ z t news, xv = .str z t ∧ A.handled = none ∧ Fr h₀ L s₁.heap m ∧ News h₀ L s₁.heap news ∧ z.cps.size ≤ sizeLine ∧
      ∀ s₂ : Shared, (∃ h, s₂ = { s₁ with heap := h }) → CompRestT prog w A h₀ L m env ct elt x scope cl s₂ (fun _ => True) (SignAt z) (FinE h₀ L m s₂ Q) z.cps.size 0 [] news) E s)
    (hs : ∀ x, foldedSetIterable iter env x = pure x := by intro _; rfl) :
    wpAny (model prog w) A (eval (.ListComp elt [⟨.Name x px, iter, [ct], 0⟩] scope pos) env) Q E s := by
  rw [eval_ListComp]
  refine wpAny_comprehension_free (use := none) rfl hs hclos hkind hnames (wpAny_mono h (fun xv s₁ h₁ => ?_) fun _ _ e => e)
  obtain ⟨z, t, news, rfl, hh, F, N, hsz, R⟩ := h₁
  have fin : ∀ (D C : Addr) (hp : Heap) (tk : Nat) (m' : Str → Option Value) (ys : List Value) (news' : List (Addr × Obj)) (ob : Obj), Fr h₀ L hp m → News h₀ L hp ((D, lst ys) :: news') → Off1 D news' → hp.Ns C m' → h₀.get? C = none → h₀.get? D = none → C ≠ L → D ≠ L → C ≠ D → (∀ p ∈ news', p.1 ≠ C) →
      FinE h₀ L m { s₁ with heap := s₁.heap.push ob } Q ys news' → ∃ m'', hp.Ns C m'' ∧ ∀ h'', Heap.SameBut C hp h'' → Q (.ref D) { s₁ with heap := h'', toks := tk } := by
    intro D C hp tk m' ys news' ob F' N' o1 hn hC₀ hD₀ hCL hDL hCD offC fin
    refine ⟨m', hn, fun h'' hs'' => fin D h'' tk (F'.change hs'' hCL hC₀) (fun p hp => ?_) o1⟩
    refine ⟨hs''.extBut _ _ ?_ (N' p hp).1, (N' p hp).2⟩
    rcases List.mem_cons.mp hp with rfl | hp
    · exact Ne.symm hCD
    · exact offC p hp
  have lt : ∀ (ob : Obj), ∀ b ∈ [s₁.heap.objs.size], b < (s₁.heap.push ob).objs.size := fun ob b hb => by
    rw [List.mem_singleton.mp hb, Heap.size_push]; exact Nat.lt_succ_self _
  cases ha : z.cps.all (· < 128)
  · refine wpAny_pyIter_wide ha ?_
    exact block_T (Walks.strWide hh s₁.heap.objs.size z t) hsz (fun i h st => by obtain ⟨o, e, _⟩ := st; exact ⟨o, e⟩) str_st hcell hkind hx ⟨_, Heap.get?_push_size _ rfl, rfl, rfl⟩ (lt _)
      (F.keeps fun _ _ e => Heap.get?_push_of_some _ e) (N.grown fun _ _ e => Heap.get?_push_of_some _ e) (Nat.ne_of_lt F.ns.lt) (next_is_new F) (fun p hp => Nat.ne_of_lt (Heap.lt_size (N p hp).1)) trivial (R _ ⟨_, rfl⟩)
      (fun D C h tk m' ys news' a b c d e f g i j k l => fin D C h tk m' ys news' _ a b c d e f g i j k l)
  · refine wpAny_pyIter_ascii ha ?_
    exact block_T (Walks.strAscii hh s₁.heap.objs.size z t) hsz (fun i h st => by obtain ⟨o, e, _⟩ := st; exact ⟨o, e⟩) str_st hcell hkind hx ⟨_, Heap.get?_push_size _ rfl, rfl, rfl⟩ (lt _)
      (F.keeps fun _ _ e => Heap.get?_push_of_some _ e) (N.grown fun _ _ e => Heap.get?_push_of_some _ e) (Nat.ne_of_lt F.ns.lt) (next_is_new F) (fun p hp => Nat.ne_of_lt (Heap.lt_size (N p hp).1)) trivial (R _ ⟨_, rfl⟩)
      (fun D C h tk m' ys news' a b c d e f g i j k l => fin D C h tk m' ys news' _ a b c d e f g i j k l)
theorem CompEnd.mono {s₁ : Shared} {I C D : Addr} {oI oC oD : Obj} {S : List (Addr × Obj) → Prop} {r r' : Value → List (Addr × Obj) → Prop} {y : Value} {s₂ : Shared} (h : ∀ y n, r y n → r' y n) (x : CompEnd h₀ L m s₁ I oI C oC D oD S r y s₂) :
    CompEnd h₀ L m s₁ I oI C oC D oD S r' y s₂ :=
  let ⟨h', tk, n', a, b, c, d, e, f⟩ := x; ⟨h', tk, n', a, b, c, d, e, h _ _ f⟩
theorem restT {ct elt : Expr} {x : Str} {scope : Scope} {cl : List (Str × Addr)} {S : List (Addr × Obj) → Prop} {P : Nat → Value → Prop} {Fin : List Value → List (Addr × Obj) → Prop} {n : Nat} {news : List (Addr × Obj)} (J : Nat → List Value → Prop) (h0 : J 0 [])
    (step : ∀ i ys, i < n → J i ys → ∀ v I oI C oC D m₂ h tk (E' : Value → Shared → Prop), P i v → NsObj oC m₂ → m₂ x = some v → Fr h₀ L h m → News h₀ L h ((I, oI) :: (C, oC) :: (D, lst ys) :: news) → Off3 I C D news → ((@Ne Nat I C) ∧ (@Ne Nat I D) ∧ (@Ne Nat C D)) →
      wpAny (model prog w) A (isTrue ct (compEnvC scope cl C env) (eval ct (compEnvC scope cl C env))) (fun ok s' => if ok = true then
        wpAny (model prog w) A (eval elt (compEnvC scope cl C env)) (CompEnd h₀ L m { s with heap := h, toks := tk } I oI C oC D (lst ys) S (fun y news' => J (i + 1) (ys ++ [y]) ∧ news' = news)) E' s'
        else CompEnd h₀ L m { s with heap := h, toks := tk } I oI C oC D (lst ys) S (fun _ news' => J (i + 1) ys ∧ news' = news) Value.none s') E' { s with heap := h, toks := tk })
    (fin : ∀ ys, J n ys → Fin ys news) : CompRestT prog w A h₀ L m env ct elt x scope cl s S P Fin n 0 [] news := by
  have key : ∀ k i ys, k + i = n → J i ys → CompRestT prog w A h₀ L m env ct elt x scope cl s S P Fin k i ys news := by
    intro k
    induction k with
    | zero => intro i ys e hj; exact CompRestT.zero (fin ys ((Nat.zero_add i).symm.trans e ▸ hj))
    | succ k ih =>
      intro i ys e hj
      refine CompRestT.succ fun v I oI C oC D m₂ h tk E' a b c d e' f g => ?_
      refine wpAny_mono (step i ys (by omega) hj v I oI C oC D m₂ h tk E' a b c d e' f g) (fun ok s' q => ?_) fun _ _ z => z
      cases ok with
      | true =>
        simp only [if_true] at q ⊢
        exact wpAny_mono q (fun y s₂ q => CompEnd.mono (fun y n ⟨j, e⟩ => e ▸ ih (i + 1) _ (by omega) j) q) fun _ _ z => z
      | false =>
        simp only [Bool.false_eq_true, if_false] at q ⊢
        exact CompEnd.mono (fun y n ⟨j, e⟩ => e ▸ ih (i + 1) _ (by omega) j) q
  exact key n 0 [] rfl h0
theorem restU {elt : Expr} {x : Str} {scope : Scope} {cl : List (Str × Addr)} {S : List (Addr × Obj) → Prop} {P : Nat → Value → Prop} {Fin : List Value → List (Addr × Obj) → Prop} {n : Nat} {news : List (Addr × Obj)} (J : Nat → List Value → Prop) (h0 : J 0 [])
    (step : ∀ i ys, i < n → J i ys → ∀ v I oI C oC D m₂ h tk (E' : Value → Shared → Prop), P i v → NsObj oC m₂ → m₂ x = some v → Fr h₀ L h m → News h₀ L h ((I, oI) :: (C, oC) :: (D, lst ys) :: news) → Off3 I C D news → ((@Ne Nat I C) ∧ (@Ne Nat I D) ∧ (@Ne Nat C D)) →
      wpAny (model prog w) A (eval elt (compEnvC scope cl C env)) (CompEnd h₀ L m { s with heap := h, toks := tk } I oI C oC D (lst ys) S (fun y news' => J (i + 1) (ys ++ [y]) ∧ news' = news)) E' { s with heap := h, toks := tk })
    (fin : ∀ ys, J n ys → Fin ys news) : CompRest prog w A h₀ L m env elt x scope cl s S P Fin n 0 [] news := by
  have key : ∀ k i ys, k + i = n → J i ys → CompRest prog w A h₀ L m env elt x scope cl s S P Fin k i ys news := by
    intro k
    induction k with
    | zero => intro i ys e hj; exact CompRest.zero (fin ys ((Nat.zero_add i).symm.trans e ▸ hj))
    | succ k ih =>
      intro i ys e hj
      refine CompRest.succ fun v I oI C oC D m₂ h tk E' a b c d e' f g => ?_
      exact wpAny_mono (step i ys (by omega) hj v I oI C oC D m₂ h tk E' a b c d e' f g) (fun y s₂ q => CompEnd.mono (fun y n ⟨j, e⟩ => e ▸ ih (i + 1) _ (by omega) j) q) fun _ _ z => z
  exact key n 0 [] rfl h0
end
end Mine
end
section
open PySem PySem.W PySem.Calls PyProof.Rows PySem.Spec
set_option maxRecDepth 100000
set_option maxHeartbeats 4000000
namespace Mine
noncomputable def exT : List (Str × Nat × Int × Nat) := [(Str.ofString "!", 2419, 54, 2417), (Str.ofString "!=", 2421, 28, 2365), (Str.ofString "%", 2423, 24, 2357), (Str.ofString "%=", 2425, 40, 2389), (Str.ofString "&", 2427, 19, 2347), (Str.ofString "&=", 2429, 41, 2391), (Str.ofString "(", 2431, 7, 2323), (Str.ofString ")", 2433, 8, 2325), (Str.ofString "*", 2435, 16, 2341), (Str.ofString "**", 2437, 35, 2379), (Str.ofString "**=", 2439, 46, 2401), (Str.ofString "*=", 2441, 38, 2385), (Str.ofString "+", 2443, 14, 2337), (Str.ofString "+=", 2445, 36, 2381), (Str.ofString ",", 2447, 12, 2333), (Str.ofString "-", 2449, 15, 2339), (Str.ofString "-=", 2451, 37, 2383), (Str.ofString "->", 2453, 51, 2411), (Str.ofString ".", 2455, 23, 2355), (Str.ofString "...", 2457, 52, 2413), (Str.ofString "/", 2459, 17, 2343), (Str.ofString "//", 2461, 47, 2403), (Str.ofString "//=", 2463, 48, 2405), (Str.ofString "/=", 2465, 39, 2387), (Str.ofString ":", 2467, 11, 2331), (Str.ofString ":=", 2469, 53, 2415), (Str.ofString ";", 2471, 13, 2335), (Str.ofString "<", 2473, 20, 2349), (Str.ofString "<<", 2475, 33, 2375), (Str.ofString "<<=", 2477, 44, 2397), (Str.ofString "<=", 2479, 29, 2367), (Str.ofString "=", 2481, 22, 2353), (Str.ofString "==", 2483, 27, 2363), (Str.ofString ">", 2485, 21, 2351), (Str.ofString ">=", 2487, 30, 2369), (Str.ofString ">>", 2488, 34, 2377), (Str.ofString ">>=", 2489, 45, 2399), (Str.ofString "@", 2490, 49, 2407), (Str.ofString "@=", 2491, 50, 2409), (Str.ofString "[", 2492, 9, 2327), (Str.ofString "]", 2493, 10, 2329), (Str.ofString "^", 2494, 32, 2373), (Str.ofString "^=", 2495, 43, 2395), (Str.ofString "{", 2496, 25, 2359), (Str.ofString "|", 2497, 18, 2345), (Str.ofString "|=", 2498, 42, 2393), (Str.ofString "}", 2499, 26, 2361), (Str.ofString "~", 2500, 31, 2371)]
noncomputable def exE (P : Params) : List (Str × Nat × Int × Nat) → List DictEntry
  | [] => []
  | x :: r => ⟨PyData.keyHash P x.1, .str x.1 x.2.1, .int x.2.2.1 x.2.2.2⟩ :: exE P r
theorem o149_eq (P : Params) : o149 P = ⟨.type "dict", none, .dict (exE P exT).toArray 48, #[]⟩ := rfl
noncomputable def exGet (k : Str) : Option Int := (exT.find? fun x => x.1 == k).map (·.2.2.1)
noncomputable def exF (P : Params) (k : Str) : Option Value := ((exE P exT).find? fun e => Value.isStrOf k e.key).map (·.val)
theorem ex_told (P : Params) (k : Str) : ∀ l : List (Str × Nat × Int × Nat), match (l.find? fun x => x.1 == k).map (·.2.2.1) with
    | none => ((exE P l).find? fun e => Value.isStrOf k e.key).map (·.val) = none
    | some n => ∃ t, ((exE P l).find? fun e => Value.isStrOf k e.key).map (·.val) = some (.int n t)
  | [] => rfl
  | x :: r => by
    unfold exE
    rw [List.find?_cons, List.find?_cons]
    have e : Value.isStrOf k (Value.str x.1 x.2.1) = (x.1 == k) := rfl
    simp only [e]
    cases x.1 == k with
    | true => exact ⟨_, rfl⟩
    | false => exact ex_told P k r
theorem ex_keys (P : Params) (l : List (Str × Nat × Int × Nat)) : ∀ e ∈ exE P l, ∃ k, Value.isStrOf k e.key = true ∧ e.hash = PyData.keyHash P k := by
  induction l with
  | nil => intro e he; exact absurd he List.not_mem_nil
  | cons x r ih =>
    intro e he
    rcases List.mem_cons.mp he with rfl | he
    · exact ⟨x.1, beq_self_eq_true _, rfl⟩
    · exact ih e he
theorem dict149 {w : World} {h : Heap} (X : (KF w.params).In h) : h.MapOf (strKind pw w) 149 (exF w.params) := by
  have g : h.get? 149 = some ⟨.type "dict", none, .dict (exE w.params exT).toArray 48, #[]⟩ := X _ _ (by k_is)
  refine ⟨_, _, _, g, ⟨rfl, rfl, rfl⟩, rfl, ?_, fun k => ?_⟩
  · intro e he
    have he' : e ∈ exE w.params exT := by simpa using he
    obtain ⟨k, a, b⟩ := ex_keys w.params exT e he'
    exact ⟨k, a, b⟩
  · unfold findBy exF
    rw [List.find?_toArray]
    rfl
end Mine
end
section
open PySem PySem.W PySem.Calls PyProof.Rows PySem.Spec
set_option maxRecDepth 100000
set_option maxHeartbeats 4000000
namespace Mine
local macro_rules | `(tactic| walk_at "eval ListComp") => `(tactic| (k_here; with_reducible refine Mine.hComp ?_))
local macro_rules | `(tactic| walk_at "call ref") => `(tactic| (k_here; with_reducible refine Mine.hCall ?_))
local macro_rules | `(tactic| walk_at "compareOp In str ref") => `(tactic| (k_here; (with_reducible show wpAny _ _ (compareOp CmpOp.In (Value.str _ _) (Value.ref _)) _ _ _); refine Halt.of ?_))
local macro_rules | `(tactic| walk_at "subscriptTail") => `(tactic| (k_here; (with_reducible show wpAny _ _ (subscriptTail _ _ (Value.ref _) (Value.str _ _)) _ _ _); refine Halt.of ?_))
open LCg LCt
noncomputable def folded (x : Str) : List Str := (x.cps.toList.filter fun c => !inB1 c).map b3fn
noncomputable def numB (b : Str) : Int := if b = Str.ofString "" then 0 else match exGet b with
  | some k => 201 + k
  | none => 159 + ((Txt.item b 0).cps.getD 0 0 : Nat)
noncomputable def foldOk (x : Str) : Prop := ∀ c ∈ x.cps.toList, inB1 c = false → lookL b3L (c : Int) = none → c < 128
noncomputable def JNum (x : Str) (i : Nat) (ys : List Value) : Prop := ∃ l : List (Str × Tok), ys = strValues l ∧ l.map (·.1) = ((x.cps.toList.take i).filter fun c => !inB1 c).map b3fn
section
variable {w : World} {mg mb : Str → Option Value} {hb : Heap} {A : Around} {s : Shared} {Q E : Value → Shared → Prop}
theorem c_num (B : Base w mg mb hb) (hs : Sub hb s.heap) (hA : A.depth + 5 < recursionLimit) (hh : A.handled = none) (x : Str) (t : Tok) (hz : x.cps.size ≤ 1000) (hf : foldOk x) (hj : JoinOk (Str.ofString "") (folded x) = true)
    (ret : ∀ h' tk' t', Sub s.heap h' → Q (.int (numB (Txt.join (Str.ofString "") (folded x))) t') { s with heap := h', toks := tk' }) :
    wpAny (model pw w) A (call (.ref 170) [.str x t]) Q E s := by
  refine enterG B hs [] (fun p hp => nomatch hp) (f := 170) (name := "_law_number") (qual := "_law_number") (binds := [("word", .str x t)]) (by k_is) (by k_is) (by omega) ?_ ?_ ?_ ?_ ?_ ?_ ?_
  · exact BindsTo.of_eq rfl
  · exact locs rfl
  · intro g L h₁ hg hg' hL F0 N0 X T hbg
    have hb1 : (fp 67).2.1 = (fp 67).2.1 := rfl
    conv at hb1 => rhs; whnf
    have hb2 : (fp 67).2.2 = (fp 67).2.2 := rfl
    conv at hb2 => rhs; whnf
    rw [hb1, hb2]
    clear hb1 hb2
    k_steps
    show wpAny _ _ _ _ _ _
    refine ListComp_S (h₀ := g) (L := L) (m := fun y => List.lookup y [(Str.ofString "word", Value.str x t)].reverse) rfl (by decide) rfl (by decide) rfl ?_
    walk1
    refine ⟨x, t, [], rfl, hh, F0, N0, (by simp [sizeLine]; omega), ?_⟩
    rintro s₂ ⟨h₂, rfl⟩
    refine restT (JNum x) ⟨[], rfl, rfl⟩ ?_ ?_
    · rintro i ys hi ⟨l, rfl, hl⟩ v I oI C oC D m₂ h tk E' ⟨c, u, hc, rfl⟩ NS hm₂ F1 N1 off d
      have htk : x.cps.toList.take (i + 1) = x.cps.toList.take i ++ [c] := by
        rw [List.take_add_one, Array.getElem?_toList, hc]; rfl
      have hmem : c ∈ x.cps.toList := List.mem_of_getElem? (Array.getElem?_toList ▸ hc)
      k_steps
      show wpAny _ _ _ _ _ _
      refine c_b1 B ?_ ?_ ?_ c u ?_
      · exact hbOf hbg F1.keep
      · show A.depth + 1 < _
        omega
      · exact hh
      intro h' tk' sub
      have F2 := F1.keeps sub
      have N2 := N1.grown sub
      clear F1 N1
      cases hin : inB1 c with
      | true =>
        k_steps
        refine ⟨l, rfl, ?_⟩
        rw [htk, List.filter_append, List.filter_cons, hin, hl]
        simp
      | false =>
        k_steps
        show wpAny _ _ _ _ _ _
        refine c_b3 B ?_ ?_ ?_ c u (hf c hmem hin) ?_
        · exact hbOf hbg F2.keep
        · show A.depth + 1 < _
          omega
        · exact hh
        intro h' tk' u' sub
        have F3 := F2.keeps sub
        have N3 := N2.grown sub
        clear F2 N2
        k_steps
        refine ⟨l ++ [(b3fn c, u')], by simp [strValues], ?_⟩
        rw [htk, List.filter_append, List.filter_cons, hin]
        simp [hl]
    · rintro ys ⟨l, rfl, hl⟩ D h tk F1 N1 o1
      dsimp only
      k_steps
      have hl' : l.map (·.1) = folded x := by rw [hl, List.take_of_length_le (by simp)]; rfl
      refine SC.join (l := l) ⟨_, (N1 _ List.mem_cons_self).1, rfl, _, rfl⟩ hl' hj fun t' k => ?_
      k_steps
      · rename_i he
        rename Fr _ _ _ _ => F'
        rename News _ _ _ _ => N'
        have e0 : numB (Txt.join (Str.ofString "") (folded x)) = 0 := by
          unfold numB
          rw [if_pos (by simpa using he)]
        rw [e0] at ret
        exact ret _ _ _ fun b o e => chgG hg F' N' b o e (.inl (by simp))
      · rename_i he
        rename Fr _ _ _ _ => F'
        rename News _ _ _ _ => N'
        have e0 : numB (Txt.join (Str.ofString "") (folded x)) = match exGet (Txt.join (Str.ofString "") (folded x)) with
            | some k => 201 + k
            | none => 159 + ((Txt.item (Txt.join (Str.ofString "") (folded x)) 0).cps.getD 0 0 : Nat) := by
          unfold numB
          rw [if_neg (by simpa using he)]
        rw [e0] at ret
        have told := ex_told w.params (Txt.join (Str.ofString "") (folded x)) exT
        have D1 := dict149 (X.keeps F'.keep)
        show wpAny _ _ _ _ _ _
        refine wpAny_in_of (knd := strKind pw w) (strKind_is pw w _ _) (by decide) D1 ?_
        cases hx : exGet (Txt.join (Str.ofString "") (folded x)) with
        | some n =>
          rw [hx] at ret
          unfold exGet at hx
          rw [hx] at told
          obtain ⟨tn, ht⟩ := told
          have ht' : exF w.params (Txt.join (Str.ofString "") (folded x)) = some (.int n tn) := ht
          rw [ht']
          simp only [Option.isSome_some]
          k_steps
          show wpAny _ _ _ _ _ _
          refine subscriptTail_builtin D1.typeIs slot_dict_getitem.lookup (wpAny_getItem_of (knd := strKind pw w) (strKind_is pw w _ _) D1 ht' ?_) (by with_unfolding_all rfl) (by intro _; with_unfolding_all rfl)
          k_steps
          exact ret _ _ _ fun b o e => chgG hg F' N' b o e (.inl (by simp))
        | none =>
          rw [hx] at ret
          unfold exGet at hx
          rw [hx] at told
          have ht' : exF w.params (Txt.join (Str.ofString "") (folded x)) = none := told
          rw [ht']
          simp only [Option.isSome_none]
          k_steps
          exact ret _ _ _ fun b o e => chgG hg F' N' b o e (.inl (by simp))
  · rfl
  · rfl
  · rfl
  · decide
end
end Mine
end
section
open PySem PySem.W PySem.Calls PyProof.Rows PySem.Spec
set_option maxRecDepth 100000
set_option maxHeartbeats 4000000
namespace Mine
theorem isL {h₀ h : Heap} {L pb : Addr} {news : List (Addr × Obj)} {its : Array Value} {n : Nat} (N : News h₀ L h news) (hm : (pb, listOf its n) ∈ news) : h.IsList pb its := ⟨_, (N _ hm).1, rfl, _, rfl⟩
section
variable {w : World} {mg mb : Str → Option Value} {hb : Heap} {A : Around} {s : Shared} {Q E : Value → Shared → Prop}
theorem c_eof (B : Base w mg mb hb) (hs : Sub hb s.heap) (hA : A.depth < recursionLimit) (hh : A.handled = none) (n : Int) (t : Tok)
    (ret : ∀ h' tk', Sub s.heap h' → Q (.bool (n == 0)) { s with heap := h', toks := tk' }) :
    wpAny (model pw w) A (call (.ref 158) [.int n t]) Q E s := by
  refine enterG B hs [] (fun p hp => nomatch hp) (f := 158) (name := "ISEOF") (qual := "ISEOF") (binds := [("x", .int n t)]) (by k_is) (by k_is) (by omega) ?_ ?_ ?_ ?_ ?_ ?_ ?_
  · exact BindsTo.of_eq rfl
  · exact locs rfl
  · intro g L h₁ hg hg' hL F0 N0 X T hbg
    have hb1 : (fp 64).2.1 = (fp 64).2.1 := rfl
    conv at hb1 => rhs; whnf
    have hb2 : (fp 64).2.2 = (fp 64).2.2 := rfl
    conv at hb2 => rhs; whnf
    rw [hb1, hb2]
    clear hb1 hb2
    k_steps
    exact ret _ _ fun b o e => chgG hg F0 N0 b o e (.inl (by simp))
  · rfl
  · rfl
  · rfl
  · decide
theorem c_pop (B : Base w mg mb hb) (hs : Sub hb s.heap) (hA : A.depth < recursionLimit) (hh : A.handled = none) (lex dx pb : Addr) (x : Str) (tx : Tok) (ws : List Value) (n : Nat) (ln : Int) (t1 t2 k1 k2 k3 k4 : Tok) (st : Value) (e : Nat)
    (h1 : s.heap.get? lex = some (instObj 52 dx)) (h2 : s.heap.get? dx = some (dictOf (lexE w.params ln t1 st t2 pb k1 k2 k3 k4) e)) (h3 : s.heap.get? pb = some (listOf (.str x tx :: ws).toArray n)) (hn1 : hb.get? lex = none) (hn2 : hb.get? dx = none) (hn3 : hb.get? pb = none) (hz : ws.length < 1000)
    (ret : ∀ h' tk', (∀ b o, b ≠ pb → s.heap.get? b = some o → h'.get? b = some o) → h'.get? pb = some (listOf ws.toArray (n + 1)) → Q (.str x tx) { s with heap := h', toks := tk' }) :
    wpAny (model pw w) A (call (.ref 42) [.ref lex]) Q E s := by
  have d1 : dx ≠ pb := ne_of_obj h2 h3 (by kernel_rfl)
  have d2 : lex ≠ pb := ne_of_obj h1 h3 (by kernel_rfl)
  have d3 : lex ≠ dx := ne_of_obj h1 h2 (by kernel_rfl)
  refine enterG B hs [(lex, instObj 52 dx), (dx, dictOf (lexE w.params ln t1 st t2 pb k1 k2 k3 k4) e), (pb, listOf (.str x tx :: ws).toArray n)] ?_ (f := 42) (name := "get_token") (qual := "_netrclex.get_token") (binds := [("self", .ref lex)]) (by k_is) (by k_is) hA ?_ ?_ ?_ ?_ ?_ ?_ ?_
  · intro p hp
    rcases List.mem_cons.mp hp with rfl | hp
    · exact ⟨h1, hn1⟩
    rcases List.mem_cons.mp hp with rfl | hp
    · exact ⟨h2, hn2⟩
    rw [List.mem_singleton.mp hp]; exact ⟨h3, hn3⟩
  · exact BindsTo.of_eq rfl
  · exact locs rfl
  · intro g L h₁ hg hg' hL F N X T hbg
    have hb1 : (fq 1 2).2.1 = (fq 1 2).2.1 := rfl
    conv at hb1 => rhs; whnf
    have hb2 : (fq 1 2).2.2 = (fq 1 2).2.2 := rfl
    conv at hb2 => rhs; whnf
    rw [hb1, hb2]
    clear hb1 hb2
    k_steps
    refine wpAny_truthy_list (items := (.str x tx :: ws).toArray) (isL (n := n) N (by simp)) (by simp; omega) ?_
    simp only [List.isEmpty_toArray, List.isEmpty_cons, Bool.not_false]
    k_steps
    refine kl_popAt (its := (.str x tx :: ws).toArray) (n := n) (k := 0) (p := []) (y := .str x tx) (q := ws) F N rfl ?_ rfl (news' := [(lex, instObj 52 dx), (dx, dictOf (lexE w.params ln t1 st t2 pb k1 k2 k3 k4) e), (pb, listOf ws.toArray (n + 1))]) ?_ ?_ ?_
    · simp [seqIndex?]
    · k_upd
    · simp [sizeLine]; omega
    intro h' F' N'
    k_steps
    refine ret _ _ (fun b o hb e => chgG hg F' N' b o e ?_) (N' (pb, listOf ws.toArray (n + 1)) (by simp)).1
    by_cases b1 : b = lex
    · exact chg_hit b1 h1 (by simp) e
    by_cases b2 : b = dx
    · exact chg_hit b2 h2 (by simp) e
    exact .inl (by simp [b1, b2, hb])
  · rfl
  · rfl
  · rfl
  · decide
end
end Mine
end
section
open PySem PySem.W PySem.Calls PyProof.Rows PySem.Spec
set_option maxRecDepth 100000
set_option maxHeartbeats 4000000
namespace Mine
section
variable {prog : Program} {w : World} {A : Around} {E : Value → Shared → Prop} {s : Shared} {h₀ : Heap} {env : Env} {target : PySem.Expr} {body : List Stmt} {Q : Flow → Shared → Prop}
theorem restF {ws : List (Addr × String)} {keep : List (Addr × Obj)} (xs : List Itm) {m : Str → Option Value} {news : List (Addr × Obj)} (J : Nat → (Str → Option Value) → List (Addr × Obj) → Prop) (h0 : J 0 m news) (hk : SubL keep news)
    (step : ∀ i a m₁ news₁, xs[i]? = some a → J i m₁ news₁ → SubL keep news₁ → ∀ v h tk, a.Is v h → Fr h₀ env.locals h m₁ → AllObj ws (fun its => News h₀ env.locals h (its ++ news₁) →
      wpAny (model prog w) A (assign target env v) (fun _ s₂ => wpAny (model prog w) A (execs body env) (UnrPostW h₀ env.locals { s with heap := h, toks := tk } its (fun m' n' => SubL keep n' ∧ J (i + 1) m' n') Q) E s₂) E { s with heap := h, toks := tk }))
    (fin : ∀ m₁ news₁, J xs.length m₁ news₁ → ∀ h tk, Fr h₀ env.locals h m₁ → News h₀ env.locals h news₁ → Q .next { s with heap := h, toks := tk }) :
    ItemsRest prog w A E h₀ env target body Q s ws keep xs m news := by
  have mono : ∀ (its : List (Addr × Obj)) (r r' : (Str → Option Value) → List (Addr × Obj) → Prop) (s₁ : Shared), (∀ m n, r m n → r' m n) → ∀ f s₂, UnrPostW h₀ env.locals s₁ its r Q f s₂ → UnrPostW h₀ env.locals s₁ its r' Q f s₂ := by
    intro its r r' s₁ hr f s₂ x
    have me : UnrEndW h₀ env.locals s₁ its r s₂ → UnrEndW h₀ env.locals s₁ its r' s₂ := fun ⟨h', tk, m', n', a, b, c, d, e⟩ => ⟨h', tk, m', n', a, b, c, d, hr _ _ e⟩
    cases f with
    | ret v => exact x
    | brk => exact x
    | next => exact me x
    | cont => exact me x
  have all : ∀ (ws : List (Addr × String)) (k k' : List (Addr × Obj) → Prop), (∀ its, k its → k' its) → AllObj ws k → AllObj ws k' := by
    intro ws
    induction ws with
    | nil => intro k k' h x; exact h _ x
    | cons w r ih => intro k k' h x o ho; exact ih _ _ (fun its y => h _ y) (x o ho)
  have key : ∀ k i m₁ news₁, k + i = xs.length → J i m₁ news₁ → SubL keep news₁ → ItemsRest prog w A E h₀ env target body Q s ws keep (xs.drop i) m₁ news₁ := by
    intro k
    induction k with
    | zero =>
      intro i m₁ news₁ e hj _
      have e' : i = xs.length := by omega
      subst e'
      rw [List.drop_length]
      exact fin _ _ hj
    | succ k ih =>
      intro i m₁ news₁ e hj hk₁
      have hi : i < xs.length := by omega
      rw [List.drop_eq_getElem_cons hi]
      intro v h tk hv F₁
      refine all ws _ _ (fun its y N₁ => ?_) (step i xs[i] m₁ news₁ (List.getElem?_eq_getElem hi) hj hk₁ v h tk hv F₁)
      exact wpAny_mono (y N₁) (fun _ s₂ z => wpAny_mono z (fun f s₃ z => mono its _ _ _ (fun m' n' ⟨a, b⟩ => ⟨a, ih (i + 1) m' n' (by omega) b a⟩) f s₃ z) fun _ _ z => z) fun _ _ z => z
  have := key xs.length 0 m news (by omega) h0 hk
  rwa [List.drop_zero] at this
noncomputable def rangeI (a : Int) (n : Nat) : List Itm := (List.range n).map fun (i : Nat) => .tok fun t => .int (a + (i : Int)) t
noncomputable def strI (x : Str) : List Itm := x.cps.toList.map fun c => .tok fun t => .str ⟨#[c]⟩ t
theorem rangeI_get {a : Int} {n i : Nat} {it : Itm} (h : (rangeI a n)[i]? = some it) : i < n ∧ it = .tok fun t => .int (a + (i : Int)) t := by
  unfold rangeI at h
  rw [List.getElem?_map] at h
  cases e : (List.range n)[i]? with
  | none => rw [e] at h; cases h
  | some j =>
    rw [e] at h
    obtain ⟨h1, h2⟩ := List.getElem?_eq_some_iff.mp e
    rw [List.getElem_range] at h2
    subst h2
    cases h
    exact ⟨by simpa using h1, rfl⟩
theorem iter_rangeT {x : Str} {px : Pos} {r : Addr} {a b : Int} {t u v : Tok} {n : Nat} {m₀ : Str → Option Value} {news : List (Addr × Obj)}
    (hh : A.handled = none) (F : Fr h₀ env.locals s.heap m₀) (N : News h₀ env.locals s.heap news) (hr : IsRange s.heap r a b 1 t u v) (hsm : Builtin.Range.small a b 1 = true) (hn : Builtin.Range.rangeSize a b 1 = ((n : Nat) : Int))
    (rest₀ : ∀ I : Addr, (∀ p ∈ news, p.1 < I) → ItemsRest prog w A E h₀ env (.Name x px) body Q s [(I, "range_iterator")] [] (rangeI a n) m₀ news) :
    wpAny (model prog w) A (pyIter (.ref r)) (fun it s₂ => TurnsAt prog w A h₀ env (.Name x px) body Q E it s₂) E s := by
  refine wpAny_pyIter_range hr hsm ?_
  have W : Walks prog w A s.heap.objs.size [s.heap.objs.size] [s.heap.objs.size] n (fun i v => i < n ∧ ∃ t, v = .int (a + i * 1) t)
      (fun i h => IsRangeIter h s.heap.objs.size (a + (i : Nat) * 1) ((n : Int) - (i : Nat)) 1) := (Walks.range hh _ a 1 n).bound
  refine ktu_core (tk0 := s.toks) (keep := []) (ws := [(s.heap.objs.size, "range_iterator")]) (KTurns.ofWalks W fun i v s Q E st q => wpAny_pure q) (by simp [rangeI]) (fun i v h hp => ?_) (fun i h st => ?_) (fun b hb => ?_) (fun b hb => by simpa using hb) (fun b hb => ?_) ?_ (fun p hp hI => ?_) ?_ (F.push _) (fun p hp => ⟨Heap.get?_push_of_some _ (N p hp).1, (N p hp).2⟩) trivial (rest₀ _ fun p hp => Heap.lt_size (N p hp).1)
  · obtain ⟨hi, t, rfl⟩ := hp
    refine ⟨.tok fun t => .int (a + (i : Int)) t, ?_, t, by rw [Int.mul_one]⟩
    unfold rangeI
    rw [List.getElem?_map, List.getElem?_range hi]
    rfl
  · exact ⟨[(s.heap.objs.size, _)], ⟨⟨rfl, rfl⟩, trivial⟩, fun p hp => by rw [List.mem_singleton.mp hp]; exact st⟩
  · have hb' : b = s.heap.objs.size := by simpa using hb
    rw [hb']
    exact ⟨List.mem_cons_self .., next_is_new F⟩
  · have hb' : b = s.heap.objs.size := by simpa using hb
    exact .inl (by simp [hb'])
  · intro hI
    exact absurd F.ns.lt ((List.mem_singleton.mp hI) ▸ Nat.lt_irrefl _)
  · exact absurd (Heap.lt_size (N p hp).1) ((List.mem_singleton.mp hI) ▸ Nat.lt_irrefl _)
  · show IsRangeIter _ _ _ _ _
    rw [hn]
    simpa using Heap.get?_push_size _ rfl
end
end Mine
end
section
open PySem PySem.W PySem.Calls PyProof.Rows PySem.Spec
set_option maxRecDepth 100000
namespace Mine
section
variable {w : World} {mg mb : Str → Option Value} {hb : Heap} {A : Around} {s : Shared} {Q E : Value → Shared → Prop}
theorem enterGC {name qual : Str} {params : Arguments} {body : List Stmt} {scope : Scope} {dV kV doc pm cdv ct oc : Value} {an od : Option Addr} {osl : Array (Option Value)} {f : Addr} {args : List Value} {binds : List (Str × Value)}
    (B : Base w mg mb hb) (hs : Sub hb s.heap) (hid : List (Addr × Obj)) (hh : ∀ p ∈ hid, s.heap.get? p.1 = some p.2 ∧ hb.get? p.1 = none)
    (ho : (KF w.params).lookup f = some ⟨oc, od, .func (fnOf name qual params body scope dV kV doc pm an cdv ct), osl⟩) (hcd : codeIn (KF w.params) cdv qual = true) (hroom : A.depth < recursionLimit)
    (hbind : BindsTo s (fnOf name qual params body scope dV kV doc pm an cdv ct) ⟨args, []⟩ binds)
    (hkind : (binds.all fun y => scope.names.lookup y.1 == some .local || scope.names.lookup y.1 == some .cell) = true)
    (hnd : ((cellsFrom 0 scope.names []).map (·.1)).Nodup)
    (h : ∀ g L h₁ tk cells, (∀ b o, s.heap.get? b = some o → b ∉ hid.map (·.1) → g.get? b = some o) → (∀ b, s.heap.get? b = none → g.get? b = none) → L = s.heap.objs.size →
      Fr g L h₁ (bindL (envOfC qual scope L f cdv).kindOf binds fun _ => none) → News g L h₁ (cells ++ hid) →
      CellsAre (bindC (envOfC qual scope L f cdv).kindOf binds fun _ => none) (cellsFrom (L + 1) scope.names []) cells → (KF w.params).In g → Top vq looseF (ExcName.means hb) mg mb g → Sub hb g →
      (∀ p ∈ hid, p.1 < L) →
      wpAny (model pw w) (A.deeper (envOfC qual scope L f cdv)) (execs body (envOfC qual scope L f cdv)) (fun fl s' => Q (match fl with | .ret v => v | _ => .none) s') (fun _ _ => False) { s with heap := h₁, toks := tk })
    (hco : scope.isCoroutine = false) (hgen : scope.isGenerator = false) (hk : scope.kind = .function) :
    wpAny (model pw w) A (call (.ref f) args) Q E s := by
  have X : (KF w.params).In s.heap := B.K.keeps hs
  have nm : ∀ b o, hb.get? b = some o → b ∉ hid.map (·.1) := fun b o e q => by
    obtain ⟨p, hp, rfl⟩ := List.mem_map.mp q
    rw [(hh p hp).2] at e; cases e
  have st : ∀ b o, hb.get? b = some o → (hideAll s.heap (hid.map (·.1))).get? b = some o := fun b o e => hideAll_get _ (hs b o e) (nm b o e)
  refine wpAny_call (codeAny_call_function hroom (X _ _ ho) rfl hco hgen rfl (codeRec_of X hcd) (hbind _ _ _ _ ?_))
  refine wpAny_newFunctionEnv_cells hk (kindsX hkind _) fun env' he s' x => ?_
  subst he
  refine ⟨(B.T.nolimit.keeps hs).keeps x.toInCall.keep, codeAny_func ?_⟩
  obtain ⟨h₁, tk, rfl, _⟩ := x.done
  have hk₁ := x.toInCall.keep
  obtain ⟨cells, NC, Y⟩ := Cl.news (h₀ := s.heap) (Nat.le_refl _) fun n c hm => ⟨x.cell n c (lookup_of_mem_nodup (cellsFrom_names scope.names 0 (s.heap.objs.size + 1) [] [] rfl ▸ hnd) hm), x.above n c hm⟩
  refine wpAny_mono (h (hideAll s.heap (hid.map (·.1))) s.heap.objs.size h₁ tk cells (fun b o e n => hideAll_get _ e n) (fun b e => ?_) rfl ⟨x.toInCall.ns, fun b o e => hk₁ b o (of_hideAll _ e), Nat.le_of_eq (hideAll_size _ _)⟩ (fun p hp => ?_) Y (B.K.keeps st) (B.T.keeps st) (fun b o e => st b o e)
    (fun p hp => Heap.lt_size (hh p hp).1)) (fun fl s' hl => hl) fun _ _ y => y.elim
  · cases q : (hideAll s.heap (hid.map (·.1))).get? b with
    | none => rfl
    | some o => rw [of_hideAll _ q] at e; cases e
  rcases List.mem_append.mp hp with hp | hp
  · refine ⟨(NC p hp).1, (NC p hp).2.1, ?_⟩
    cases q : (hideAll s.heap (hid.map (·.1))).get? p.1 with
    | none => rfl
    | some o => have := of_hideAll _ q; rw [(NC p hp).2.2] at this; cases this
  · exact ⟨hk₁ _ _ (hh p hp).1, Nat.ne_of_lt (Heap.lt_size (hh p hp).1), hideAll_none _ (List.mem_map_of_mem hp)⟩
end
end Mine
end
section
open PySem PySem.W PySem.Calls PyProof.Rows PySem.Spec
set_option maxRecDepth 100000
namespace Mine
noncomputable def mxL : List Int → Int
  | [] => 0
  | [a] => a
  | a :: b :: r => if mxL (b :: r) ≤ a then a else mxL (b :: r)
noncomputable def mnL : List Int → Int
  | [] => 0
  | [a] => a
  | a :: b :: r => if a ≤ mnL (b :: r) then a else mnL (b :: r)
theorem mxL_spec : ∀ (l : List Int), l ≠ [] → mxL l ∈ l ∧ ∀ a ∈ l, a ≤ mxL l
  | [], h => absurd rfl h
  | [a], _ => ⟨by simp [mxL], fun b hb => by simp at hb; subst hb; simp [mxL]⟩
  | a :: b :: r, _ => by
    obtain ⟨h1, h2⟩ := mxL_spec (b :: r) (by simp)
    unfold mxL
    split
    · refine ⟨List.mem_cons_self, fun c hc => ?_⟩
      rcases List.mem_cons.mp hc with rfl | hc
      · exact Int.le_refl _
      · have := h2 c hc; omega
    · refine ⟨List.mem_cons_of_mem _ h1, fun c hc => ?_⟩
      rcases List.mem_cons.mp hc with rfl | hc
      · omega
      · exact h2 c hc
theorem mnL_spec : ∀ (l : List Int), l ≠ [] → mnL l ∈ l ∧ ∀ a ∈ l, mnL l ≤ a
  | [], h => absurd rfl h
  | [a], _ => ⟨by simp [mnL], fun b hb => by simp at hb; subst hb; simp [mnL]⟩
  | a :: b :: r, _ => by
    obtain ⟨h1, h2⟩ := mnL_spec (b :: r) (by simp)
    unfold mnL
    split
    · refine ⟨List.mem_cons_self, fun c hc => ?_⟩
      rcases List.mem_cons.mp hc with rfl | hc
      · exact Int.le_refl _
      · have := h2 c hc; omega
    · refine ⟨List.mem_cons_of_mem _ h1, fun c hc => ?_⟩
      rcases List.mem_cons.mp hc with rfl | hc
      · omega
      · exact h2 c hc
theorem mxL_eq {l : List Int} {M : Int} (h1 : M ∈ l) (h2 : ∀ a ∈ l, a ≤ M) : M = mxL l := by
  obtain ⟨a, b⟩ := mxL_spec l (by rintro rfl; cases h1)
  have := h2 _ a
  have := b _ h1
  omega
theorem mnL_eq {l : List Int} {M : Int} (h1 : M ∈ l) (h2 : ∀ a ∈ l, M ≤ a) : M = mnL l := by
  obtain ⟨a, b⟩ := mnL_spec l (by rintro rfl; cases h1)
  have := h2 _ a
  have := b _ h1
  omega
section
variable {prog : Program} {w : World} {A : Around} {E : Value → Shared → Prop} {s : Shared} {l : Addr} {vs : List Value} {ns : List Int}
theorem kMax {Q : Value → Shared → Prop} (hh : A.handled = none) (hl : s.heap.IsList l vs.toArray) (hi : IntsAre vs ns) (hne : 0 < ns.length)
    (h : ∀ h' tk t, (∀ b o, s.heap.get? b = some o → h'.get? b = some o) → Q (.int (mxL ns) t) { s with heap := h', toks := tk }) : wpAny (model prog w) A (call (.builtin "max") [.ref l]) Q E s := by
  obtain ⟨xs, hx⟩ := hi.allInts.items
  rw [hx] at hl
  have hn : ns = xs.toList.map (·.1) := by
    rw [← hi.numsOf, ← nums_intItems, ← hx]
  have hsz : 0 < xs.size := by rw [hn, List.length_map, Array.length_toList] at hne; exact hne
  refine max_intList hh hl hsz fun v h' tk hv hk => ?_
  obtain ⟨t, rfl⟩ := intItems_at hv
  obtain ⟨h1, h2⟩ := argBest_gt (numAt xs) (xs.size - 1)
  have e : numAt xs (argBest (fun a b => decide (numAt xs a > numAt xs b)) (xs.size - 1)) = mxL ns := by
    refine mxL_eq ?_ fun a ha => ?_
    · rw [numAt_eq, hn]; exact getD_mem (by rw [List.length_map, Array.length_toList]; omega)
    · rw [hn] at ha
      obtain ⟨j, hj, rfl⟩ := mem_getD ha
      rw [List.length_map, Array.length_toList] at hj
      rw [← numAt_eq]; exact h2 j (by omega)
  have := h h' tk t hk
  rw [← e] at this
  exact this
theorem kMin {Q : Value → Shared → Prop} (hh : A.handled = none) (hl : s.heap.IsList l vs.toArray) (hi : IntsAre vs ns) (hne : 0 < ns.length)
    (h : ∀ h' tk t, (∀ b o, s.heap.get? b = some o → h'.get? b = some o) → Q (.int (mnL ns) t) { s with heap := h', toks := tk }) : wpAny (model prog w) A (call (.builtin "min") [.ref l]) Q E s := by
  obtain ⟨xs, hx⟩ := hi.allInts.items
  rw [hx] at hl
  have hn : ns = xs.toList.map (·.1) := by
    rw [← hi.numsOf, ← nums_intItems, ← hx]
  have hsz : 0 < xs.size := by rw [hn, List.length_map, Array.length_toList] at hne; exact hne
  refine min_intList hh hl hsz fun v h' tk hv hk => ?_
  obtain ⟨t, rfl⟩ := intItems_at hv
  obtain ⟨h1, h2⟩ := argBest_lt (numAt xs) (xs.size - 1)
  have e : numAt xs (argBest (fun a b => decide (numAt xs a < numAt xs b)) (xs.size - 1)) = mnL ns := by
    refine mnL_eq ?_ fun a ha => ?_
    · rw [numAt_eq, hn]; exact getD_mem (by rw [List.length_map, Array.length_toList]; omega)
    · rw [hn] at ha
      obtain ⟨j, hj, rfl⟩ := mem_getD ha
      rw [List.length_map, Array.length_toList] at hj
      rw [← numAt_eq]; exact h2 j (by omega)
  have := h h' tk t hk
  rw [← e] at this
  exact this
theorem intVal {vs : List Value} {ns : List Int} (hi : IntsAre vs ns) {i : Nat} {v : Value} (h : vs[i]? = some v) : ∃ t, v = .int (ns.getD i 0) t := hi.int_at i v h
theorem kIndex {n : Nat} {M : Int} {t : Tok} {Q : Value → Shared → Prop} (hl : s.heap.get? l = some (listOf vs.toArray n)) (hi : IntsAre vs ns) (hM : M ∈ ns) (hsz : ns.length < 1000)
    (h : ∀ t', Q (.int (ns.idxOf M : Nat) t') { s with toks := s.toks + 1 }) : wpAny (model prog w) A (call (.builtin "list.index") [.ref l, .int M t]) Q E s := by
  have hlt := List.idxOf_lt_length_of_mem hM
  have hlen := hi.length
  refine call_meets PySem.F.slot_list_index ⟨_, hl, rfl⟩ PySem.F.entry_list_index (PySem.F.args_list_index_2 _ _)
    (MeetsSeq.list_index l vs.toArray n (.int M t) (fun v => Value.isInt M v) ?_ (ns.idxOf M) (by simp [hlen]; exact hlt) (by omega) ?_ ?_) ⟨hl, h _⟩
  · intro y hy
    obtain ⟨k, t', rfl⟩ := hi.all y (by simpa using hy)
    exact MeetsSeq.EqGives.int k M t' t
  · obtain ⟨t', e⟩ := intVal hi (i := ns.idxOf M) (v := vs.toArray[ns.idxOf M]'(by simp [hlen]; exact hlt)) (by simp [hlen, hlt])
    rw [e]
    show (ns.getD (ns.idxOf M) 0 == M) = true
    rw [List.getD_eq_getElem?_getD, List.getElem?_eq_getElem hlt]
    simp
  · intro m hm hlt'
    obtain ⟨t', e⟩ := intVal hi (i := m) (v := vs.toArray[m]) (by simp at hm ⊢)
    rw [e]
    show (ns.getD m 0 == M) = false
    have hml : m < ns.length := by omega
    rw [List.getD_eq_getElem?_getD, List.getElem?_eq_getElem hml]
    have := List.not_of_lt_findIdx hlt'
    simpa using this
end
end Mine
end
section
open PySem PySem.W PySem.Calls PyProof.Rows PySem.Spec
set_option maxRecDepth 100000
set_option maxHeartbeats 4000000
namespace Mine
open LCg LCt
noncomputable def JInt (f : Nat → Int) (i : Nat) (ys : List Value) : Prop := IntsAre ys ((List.range i).map f)
theorem JInt.step {f : Nat → Int} {i : Nat} {ys : List Value} {t : Tok} (h : JInt f i ys) {n : Int} (e : n = f i) : JInt f (i + 1) (ys ++ [.int n t]) := by
  subst e
  show IntsAre _ ((List.range (i + 1)).map f)
  rw [List.range_succ, List.map_append]
  exact IntsAre.append h (.cons _ _ .nil)
theorem rs_nat (n : Nat) : Builtin.Range.rangeSize 0 (n : Int) 1 = ((n : Nat) : Int) := by rw [PyProof.Rows.rangeSize_nat]; simp
theorem sm_nat {n : Nat} (h : n < 2 ^ 30) : Builtin.Range.small 0 (n : Int) 1 = true := small_one (by omega) (by omega) (by omega) (by omega)
noncomputable def restsF (size step visits : Nat) : List Int := (List.range visits).map fun (i : Nat) => ((step : Int) * i).fmod size
noncomputable def uF (ns : List Int) : Nat := if 1 < ns.length then ns.idxOf (mnL (ns.drop 1)) else 0
noncomputable def vF (ns : List Int) : Nat := ns.idxOf (mxL ns)
noncomputable def fStep (size visits : Int) (ns : List Int) (σ : Int × Int × List Int) : Int × Int × List Int :=
  if σ.2.1 ≥ vF ns then (σ.1 + (size - ns.getD (vF ns) 0), σ.2.1 - vF ns, σ.2.2.set σ.1.toNat (σ.2.1 + 1))
  else if σ.2.1 < visits - uF ns then (σ.1 + ns.getD (uF ns) 0, σ.2.1 + uF ns, σ.2.2.set σ.1.toNat (σ.2.1 + 1))
  else (σ.1 + (ns.getD (uF ns) 0 + size - ns.getD (vF ns) 0), σ.2.1 + (uF ns - vF ns), σ.2.2.set σ.1.toNat (σ.2.1 + 1))
noncomputable def fAt (size visits : Nat) (ns : List Int) : Nat → Int × Int × List Int
  | 0 => (0, 0, List.replicate size 0)
  | k + 1 => fStep size visits ns (fAt size visits ns k)
noncomputable abbrev mFeet (iv : Int) (ti : Tok) (pv : Int) (tp : Tok) (mo : Option Value) (Df : Addr) (v : Int) (tv : Tok) (u : Int) (tu : Tok) (D : Addr) (n : Int) (tn : Tok) : Str → Option Value := fun y =>
  if y = Str.ofString "i" then some (.int iv ti) else if y = Str.ofString "place" then some (.int pv tp) else if y = Str.ofString "feet" then some (.ref Df) else if y = Str.ofString "v" then some (.int v tv)
  else if y = Str.ofString "u" then some (.int u tu) else if y = Str.ofString "rests" then some (.ref D) else if y = Str.ofString "m" then mo else if y = Str.ofString "visits" then some (.int n tn) else none
noncomputable def feetFor : Stmt := match (fp 70).2.1.drop 6 with | s :: _ => s | [] => .Pass ⟨0, 0, 0, 0⟩
theorem mFeet_eq {iv : Int} {ti : Tok} {pv : Int} {tp : Tok} {mo : Option Value} {iv' : Int} {ti' : Tok} {pv' : Int} {tp' : Tok} {mo' : Option Value} {Df : Addr} {v : Int} {tv : Tok} {u : Int} {tu : Tok} {D : Addr} {n : Int} {tn : Tok} :
    (fun y => if y = Str.ofString "i" then some (.int iv' ti') else if y = Str.ofString "place" then some (.int pv' tp') else if y = Str.ofString "m" then mo' else mFeet iv ti pv tp mo Df v tv u tu D n tn y) = mFeet iv' ti' pv' tp' mo' Df v tv u tu D n tn := by
  funext y
  unfold mFeet
  by_cases e1 : y = Str.ofString "i"
  · simp only [if_pos e1]
  simp only [if_neg e1]
  by_cases e2 : y = Str.ofString "place"
  · simp only [if_pos e2]
  simp only [if_neg e2]
  by_cases e3 : y = Str.ofString "m"
  · subst e3; rfl
  simp only [if_neg e3]
inductive JFeet0 (L : Addr) (size visits : Nat) (ns : List Int) (Df D : Addr) (tv tu tn : Tok) (ys : List Value) (o1 o2 : Obj) (σ : Int × Int × List Int) (m : Str → Option Value) (news : List (Addr × Obj)) : Prop
  | mk (ti tp : Tok) (mo : Option Value) (fvs : List Value) (n : Nat) (h1 : m = mFeet σ.2.1 ti σ.1 tp mo Df (vF ns) tv (uF ns) tu D visits tn) (h2 : news = [(Df, listOf fvs.toArray n), (D, LCg.lst ys), (L + 1 + 1, o1), (L + 1, o2)]) (h3 : IntsAre fvs σ.2.2) (h4 : fvs.length = size) : JFeet0 L size visits ns Df D tv tu tn ys o1 o2 σ m news
noncomputable def JFeet (L : Addr) (size visits : Nat) (ns : List Int) (Df D : Addr) (tv tu tn : Tok) (ys : List Value) (o1 o2 : Obj) (k : Nat) (m : Str → Option Value) (news : List (Addr × Obj)) : Prop := JFeet0 L size visits ns Df D tv tu tn ys o1 o2 (fAt size visits ns k) m news
section
variable {w : World} {mg mb : Str → Option Value} {hb g : Heap} {A : Around} {s : Shared} {Q : Flow → Shared → Prop} {L D Df : Addr}
theorem feet_for (hh : A.handled = none) (X : (KF w.params).In g) (T : Top vq looseF (ExcName.means hb) mg mb g) (size step visits : Nat) (h1 : 5 ≤ size) (h2 : size ≤ 12) (h5 : 1 ≤ visits) (h6 : visits ≤ size) (hst : step ≤ size)
    {ns : List Int} (hns : ns = restsF size step visits) (hp : ∀ k, k < visits → 0 ≤ (fAt size visits ns k).1 ∧ (fAt size visits ns k).1 < size) {ys : List Value} (hI : IntsAre ys ns)
    {ti tp tv tu tn : Tok} {fvs : List Value} {n0 : Nat} {o1 o2 : Obj} {t1 t2 : Tok} (d1 : o1.data = .cell (some (.int (step : Int) t2))) (d2 : o2.data = .cell (some (.int (size : Int) t1)))
    (F : Fr g L s.heap (mFeet 0 ti 0 tp none Df (vF ns) tv (uF ns) tu D visits tn)) (N : News g L s.heap [(Df, listOf fvs.toArray n0), (D, LCg.lst ys), (L + 1 + 1, o1), (L + 1, o2)]) (hf : IntsAre fvs (List.replicate size 0)) (hlt : @LT.lt Nat _ D Df ∧ @LT.lt Nat _ (L + 1 + 1) Df ∧ @LT.lt Nat _ (L + 1) Df)
    (fin : ∀ h tk iv ti pv tp mo fvs n, Fr g L h (mFeet iv ti pv tp mo Df (vF ns) tv (uF ns) tu D visits tn) → News g L h [(Df, listOf fvs.toArray n), (D, LCg.lst ys), (L + 1 + 1, o1), (L + 1, o2)] → IntsAre fvs (fAt size visits ns visits).2.2 → Q .next { s with heap := h, toks := tk }) :
    wpAny (model pw w) A (exec feetFor (envOfC (Str.ofString "_law_feet") (fp 70).2.2 L 187 (.ref 186))) Q (fun _ _ => False) s := by
  have hb1 : feetFor = feetFor := rfl
  conv at hb1 => rhs; whnf
  have hb2 : (fp 70).2.2 = (fp 70).2.2 := rfl
  conv at hb2 => rhs; whnf
  rw [hb1, hb2]
  clear hb1 hb2
  refine For_turns F ?_
  k_steps
  have hnl : ns.length = visits := by rw [hns]; simp [restsF]
  have hv1 : vF ns < visits := by
    rw [← hnl]
    exact List.idxOf_lt_length_of_mem (mxL_spec ns (by intro e; rw [e] at hnl; simp at hnl; omega)).1
  have hu1 : uF ns < visits := by
    unfold uF
    split
    · rw [← hnl]
      exact List.idxOf_lt_length_of_mem (List.mem_of_mem_drop (mnL_spec (ns.drop 1) (by intro e; have := congrArg List.length e; simp at this; omega)).1)
    · omega
  refine iter_rangeT (n := visits) hh (by assumption) (by assumption) (by assumption) (sm_nat (by omega)) (rs_nat _) fun I hIlt => ?_
  refine restF (rangeI 0 visits) (JFeet L size visits ns Df D tv tu tn ys o1 o2) ⟨ti, tp, none, fvs, n0, rfl, rfl, hf, by have := hf.length; simpa using this⟩ trivial ?_ ?_
  · rintro k a m₁ news₁ ha ⟨ti', tp', mo, fv, n, rfl, rfl, hfv, hfl⟩ - v h tk hv F1
    obtain ⟨hk, rfl⟩ := rangeI_get ha
    obtain ⟨t', rfl⟩ := hv
    refine AllObj.cons fun o ho => AllObj.nil fun N1 => ?_
    simp only [List.cons_append, List.nil_append] at N1
    obtain ⟨hp0, hp1⟩ := hp k hk
    have l9 : @LT.lt Nat _ Df I ∧ @LT.lt Nat _ D I ∧ @LT.lt Nat _ (L + 1 + 1) I ∧ @LT.lt Nat _ (L + 1) I := ⟨hIlt _ (.head _), hIlt _ (.tail _ (.head _)), hIlt _ (.tail _ (.tail _ (.head _))), hIlt _ (.tail _ (.tail _ (.tail _ (.head _))))⟩
    have hk1 : fAt size visits ns (k + 1) = fStep size visits ns (fAt size visits ns k) := rfl
    generalize fAt size visits ns k = σ at *
    obtain ⟨p, i, f⟩ := σ
    have hfl' : f.length = size := by rw [← hfv.length]; exact hfl
    dsimp only at F1 hp0 hp1 hfv
    k_steps
    all_goals unfold JFeet
    all_goals rw [hk1]
    all_goals unfold fStep
    all_goals dsimp only
    · rw [if_pos (show i ≥ (vF ns : Int) by assumption)]
      refine ⟨_, _, _, _, _, mFeet_eq, rfl, ints_set hfv _, ?_⟩
      rw [List.length_set]; exact hfl
    · rw [if_neg (show ¬ i ≥ (vF ns : Int) by assumption), if_pos (show i < (visits : Int) - (uF ns : Int) by assumption)]
      refine ⟨_, _, _, _, _, mFeet_eq, rfl, ints_set hfv _, ?_⟩
      rw [List.length_set]; exact hfl
    · rw [if_neg (show ¬ i ≥ (vF ns : Int) by assumption), if_neg (show ¬ i < (visits : Int) - (uF ns : Int) by assumption)]
      refine ⟨_, _, _, _, _, mFeet_eq, rfl, ints_set hfv _, ?_⟩
      rw [List.length_set]; exact hfl
  · rintro m₁ news₁ ⟨ti', tp', mo, fv, n, rfl, rfl, hfv, hfl⟩ h tk F1 N1
    have e : (rangeI 0 visits).length = visits := by simp [rangeI]
    rw [e] at F1 hfv
    exact fin h tk _ _ _ _ _ fv n F1 N1 hfv
end
end Mine
end
section
open PySem PySem.W PySem.Calls PyProof.Rows PySem.Spec
set_option maxRecDepth 100000
set_option maxHeartbeats 4000000
namespace Mine
local macro_rules | `(tactic| walk_at "exec For Name Call cons nil") => `(tactic| (k_here; with_reducible refine Mine.hFor ?_))
open LCg LCt
theorem mFeet_in {iv : Int} {ti : Tok} {pv : Int} {tp : Tok} {Df : Addr} {v : Int} {tv : Tok} {u : Int} {tu : Tok} {D : Addr} {n : Int} {tn : Tok} :
    (fun y => if y = Str.ofString "i" then some (.int iv ti) else if y = Str.ofString "place" then some (.int pv tp) else if y = Str.ofString "feet" then some (.ref Df) else if y = Str.ofString "v" then some (.int v tv) else if y = Str.ofString "u" then some (.int u tu) else if y = Str.ofString "rests" then some (.ref D) else if y = Str.ofString "visits" then some (.int n tn) else none) = mFeet iv ti pv tp none Df v tv u tu D n tn := by
  funext y
  unfold mFeet
  by_cases e1 : y = Str.ofString "i"
  · simp only [if_pos e1]
  by_cases e2 : y = Str.ofString "place"
  · simp only [if_neg e1, if_pos e2]
  by_cases e3 : y = Str.ofString "feet"
  · simp only [if_neg e1, if_neg e2, if_pos e3]
  by_cases e4 : y = Str.ofString "v"
  · simp only [if_neg e1, if_neg e2, if_neg e3, if_pos e4]
  by_cases e5 : y = Str.ofString "u"
  · simp only [if_neg e1, if_neg e2, if_neg e3, if_neg e4, if_pos e5]
  by_cases e6 : y = Str.ofString "rests"
  · simp only [if_neg e1, if_neg e2, if_neg e3, if_neg e4, if_neg e5, if_pos e6]
  by_cases e7 : y = Str.ofString "m"
  · subst e7; rfl
  simp only [if_neg e1, if_neg e2, if_neg e3, if_neg e4, if_neg e5, if_neg e6, if_neg e7]
theorem flat_rep (t : Tok) : ∀ n : Nat, IntsAre (List.replicate n [Value.int 0 t]).flatten (List.replicate n 0)
  | 0 => .nil
  | n + 1 => .cons 0 t (flat_rep t n)
theorem flat_rep2 (t : Tok) (n : Nat) : IntsAre (List.replicate ((n : Nat) : Int).toNat [Value.int 0 t]).flatten (List.replicate n 0) := by rw [Int.toNat_natCast]; exact flat_rep t n
section
variable {w : World} {mg mb : Str → Option Value} {hb g : Heap} {A : Around} {s : Shared} {Q : Flow → Shared → Prop} {L D Df : Addr}
theorem feet_for2 (hh : A.handled = none) (X : (KF w.params).In g) (T : Top vq looseF (ExcName.means hb) mg mb g) (size step visits : Nat) (h1 : 5 ≤ size) (h2 : size ≤ 12) (h5 : 1 ≤ visits) (h6 : visits ≤ size) (hst : step ≤ size)
    {ns : List Int} (hns : ns = restsF size step visits) (hp : ∀ k, k < visits → 0 ≤ (fAt size visits ns k).1 ∧ (fAt size visits ns k).1 < size) {ys : List Value} (hI : IntsAre ys ns)
    {ti tp tv tu tn : Tok} {fvs : List Value} {n0 : Nat} {o1 o2 : Obj} {t1 t2 : Tok} (d1 : o1.data = .cell (some (.int (step : Int) t2))) (d2 : o2.data = .cell (some (.int (size : Int) t1)))
    (F : Fr g L s.heap (mFeet 0 ti 0 tp none Df (vF ns) tv (uF ns) tu D visits tn)) {news : List (Addr × Obj)} (N : News g L s.heap news) (m1 : (Df, listOf fvs.toArray n0) ∈ news) (m2 : (D, LCg.lst ys) ∈ news) (m3 : (L + 1 + 1, o1) ∈ news) (m4 : (L + 1, o2) ∈ news)
    (hf : IntsAre fvs (List.replicate size 0)) (hlt : @LT.lt Nat _ D Df ∧ @LT.lt Nat _ (L + 1 + 1) Df ∧ @LT.lt Nat _ (L + 1) Df)
    (fin : ∀ h tk iv ti pv tp mo fvs n, Fr g L h (mFeet iv ti pv tp mo Df (vF ns) tv (uF ns) tu D visits tn) → News g L h [(Df, listOf fvs.toArray n), (D, LCg.lst ys), (L + 1 + 1, o1), (L + 1, o2)] → IntsAre fvs (fAt size visits ns visits).2.2 → Q .next { s with heap := h, toks := tk }) :
    wpAny (model pw w) A (exec feetFor (envOfC (Str.ofString "_law_feet") (fp 70).2.2 L 187 (.ref 186))) Q (fun _ _ => False) s := by
  refine feet_for (n0 := n0) hh X T size step visits h1 h2 h5 h6 hst hns hp hI d1 d2 F (fun p hp' => ?_) hf hlt fin
  rcases List.mem_cons.mp hp' with rfl | hp'
  · exact N _ m1
  rcases List.mem_cons.mp hp' with rfl | hp'
  · exact N _ m2
  rcases List.mem_cons.mp hp' with rfl | hp'
  · exact N _ m3
  rw [List.mem_singleton.mp hp']
  exact N _ m4
end
section
variable {w : World} {mg mb : Str → Option Value} {hb : Heap} {A : Around} {s : Shared} {Q E : Value → Shared → Prop}
theorem c_feet (B : Base w mg mb hb) (hs : Sub hb s.heap) (hA : A.depth < recursionLimit) (hh : A.handled = none) (size step visits : Nat) (t1 t2 t3 : Tok) (h1 : 5 ≤ size) (h2 : size ≤ 12) (h3 : 1 ≤ step) (h4 : step ≤ size) (h5 : 1 ≤ visits) (h6 : visits ≤ size)
    (hp : ∀ k, k < visits → 0 ≤ (fAt size visits (restsF size step visits) k).1 ∧ (fAt size visits (restsF size step visits) k).1 < size)
    (ret : ∀ h' tk' D vs n, Sub s.heap h' → s.heap.get? D = none → h'.get? D = some (listOf vs.toArray n) → IntsAre vs (fAt size visits (restsF size step visits) visits).2.2 → Q (.ref D) { s with heap := h', toks := tk' }) :
    wpAny (model pw w) A (call (.ref 187) [.int (size : Int) t1, .int (step : Int) t2, .int (visits : Int) t3]) Q E s := by
  refine enterGC B hs [] (fun p hp => nomatch hp) (f := 187) (name := "_law_feet") (qual := "_law_feet") (binds := [("size", .int (size : Int) t1), ("step", .int (step : Int) t2), ("visits", .int (visits : Int) t3)]) (by k_is) (by k_is) (by omega) ?_ ?_ ?_ ?_ ?_ ?_ ?_
  · exact BindsTo.of_eq rfl
  · exact rfl
  · decide +kernel
  · intro g L h₁ tk cells hg hg' hL F0 N0 Y X T hbg hlt
    have hb1 : (fp 70).2.1 = (fp 70).2.1 := rfl
    conv at hb1 => rhs; whnf
    have hb2 : (fp 70).2.2 = (fp 70).2.2 := rfl
    conv at hb2 => rhs; whnf
    simp only [hb2] at F0 Y
    replace F0 : Fr g L h₁ (fun y => if y = Str.ofString "visits" then some (.int (visits : Int) t3) else none) := F0
    rw [hb1, hb2]
    clear hb1 hb2
    have hY := CellsAre.two Y
    obtain ⟨o1, o2, hE, d1, d2⟩ := hY
    subst hE
    clear Y
    replace d1 : o1.data = .cell (some (.int (step : Int) t2)) := d1
    replace d2 : o2.data = .cell (some (.int (size : Int) t1)) := d2
    simp only [List.cons_append, List.nil_append] at N0
    k_steps
    refine CompSrc.range hh (by assumption) (by assumption) (by assumption) (sm_nat (by omega)) (rs_nat _) (by simp [sizeLine]; omega) fun g1 => ?_
    refine restU (JInt fun i => ((step : Int) * i).fmod size) .nil ?_ ?_
    · rintro i ys hi hj v I oI C oC D m₂ h tk E' ⟨u, rfl⟩ NS hm₂ F1 N1 off d
      k_steps
      refine CompEnd.intro F1 N1 _ (fun p hp => hp) off trivial ⟨hj.step (by simp), rfl⟩
    · intro ys hj D h tk F1 N1 o1
      have hI : IntsAre ys ((List.range visits).map fun (i : Nat) => ((step : Int) * i).fmod size) := hj
      clear hj
      generalize hns : ((List.range visits).map fun (i : Nat) => ((step : Int) * i).fmod size) = ns at hI
      have hlen : ns.length = visits := by rw [← hns]; simp
      have hys : ys.length = visits := by rw [hI.length, hlen]
      have hmx := (mxL_spec ns (by intro e; rw [e] at hlen; simp at hlen; omega)).1
      k_steps
      · rename Fr _ _ _ _ => F2
        rename News _ _ _ _ => N2
        rename IntsAre _ (List.drop 1 ns) => hI2
        have hmn := List.mem_of_mem_drop (mnL_spec (ns.drop 1) (by intro e; have := congrArg List.length e; simp at this; omega)).1
        refine kMin hh (isL N2 (by k_memK)) hI2 (by simp; omega) fun h3 tk3 t3 sub3 => ?_
        have F3 := F2.keeps sub3
        have N3 := N2.grown sub3
        clear F2 N2
        k_steps
        refine kIndex (N3 (D, lst ys) (by k_memK)).1 hI hmn (by omega) fun t4 => ?_
        k_steps
        rename Fr _ _ _ _ => F2
        rename News _ _ _ _ => N2
        refine kMax hh (isL (n := ys.length) N2 (by k_memK)) hI (by omega) fun h3 tk3 t3 sub3 => ?_
        have F3 := F2.keeps sub3
        have N3 := N2.grown sub3
        clear F2 N2
        k_steps
        refine kIndex (N3 (D, lst ys) (by k_memK)).1 hI hmx (by omega) fun t4 => ?_
        k_steps
        show wpAny _ _ _ _ _ _
        rename Fr _ _ _ _ => F2
        rename News _ _ _ _ => N2
        have hu : uF ns = ns.idxOf (mnL (ns.drop 1)) := by unfold uF; rw [if_pos (by omega)]
        rw [← hu] at F2
        rw [mFeet_in] at F2
        have hns' : ns = restsF size step visits := hns.symm
        subst hns'
        refine feet_for2 ?_ X T size step visits h1 h2 h5 h6 h4 rfl hp hI d1 d2 F2 N2 (.head _) (by k_memK) (by k_memK) (by k_memK) (flat_rep2 _ _) (by omega) ?_
        · exact hh
        intro h9 tk9 iv9 ti9 pv9 tp9 mo9 fvs9 n9 F9 N9 hI9
        clear F2 N2
        k_steps
        rename Fr _ _ _ _ => F2
        rename News _ _ _ _ => N2
        have z := N2 _ (.head _)
        refine ret _ _ _ _ _ (fun b o e => chgG hg F2 N2 b o e (.inl (by simp))) ?_ z.1 hI9
        cases q : s.heap.get? _ with
        | none => rfl
        | some o =>
          have := hg _ o q (by simp)
          rw [z.2.2] at this
          cases this
      · rename Fr _ _ _ _ => F2
        rename News _ _ _ _ => N2
        refine kMax hh (isL N2 (by k_memK)) hI (by omega) fun h3 tk3 t3 sub3 => ?_
        have F3 := F2.keeps sub3
        have N3 := N2.grown sub3
        clear F2 N2
        k_steps
        refine kIndex (N3 (D, lst ys) (by k_memK)).1 hI hmx (by omega) fun t4 => ?_
        k_steps
        show wpAny _ _ _ _ _ _
        rename Fr _ _ _ _ => F2
        rename News _ _ _ _ => N2
        rw [mFeet_in] at F2
        have hu : uF ns = 0 := by unfold uF; rw [if_neg (by omega)]
        replace F2 := (show Fr g L _ (mFeet 0 _ 0 _ none _ (vF ns) _ ((0 : Nat) : Int) _ D visits _) from F2)
        rw [← hu] at F2
        have hns' : ns = restsF size step visits := hns.symm
        subst hns'
        refine feet_for2 ?_ X T size step visits h1 h2 h5 h6 h4 rfl hp hI d1 d2 F2 N2 (.head _) (by k_memK) (by k_memK) (by k_memK) (flat_rep2 _ _) (by omega) ?_
        · exact hh
        intro h9 tk9 iv9 ti9 pv9 tp9 mo9 fvs9 n9 F9 N9 hI9
        clear F2 N2
        k_steps
        rename Fr _ _ _ _ => F2
        rename News _ _ _ _ => N2
        have z := N2 _ (.head _)
        refine ret _ _ _ _ _ (fun b o e => chgG hg F2 N2 b o e (.inl (by simp))) ?_ z.1 hI9
        cases q : s.heap.get? _ with
        | none => rfl
        | some o =>
          have := hg _ o q (by simp)
          rw [z.2.2] at this
          cases this
  · rfl
  · rfl
  · rfl
end
end Mine
end
section
open PySem PySem.W PySem.Calls PyProof.Rows PySem.Spec
set_option maxRecDepth 100000
set_option maxHeartbeats 4000000
namespace Mine
theorem fr_upd {g h h' : Heap} {L pb : Addr} {m : Str → Option Value} (F : Fr g L h m) (hk : ∀ b o, b ≠ pb → h.get? b = some o → h'.get? b = some o) (hL : L ≠ pb) (hg : g.get? pb = none) : Fr g L h' m :=
  LCg.fr_but F (fun b o hb e => hk b o (by simpa using hb) e) hL hg
theorem news_upd {g h h' : Heap} {L pb : Addr} {o o' : Obj} {news news' : List (Addr × Obj)} (N : News g L h news) (U : Upd pb o o' news news') (hk : ∀ b o, b ≠ pb → h.get? b = some o → h'.get? b = some o) (hp : h'.get? pb = some o') : News g L h' news' := by
  obtain ⟨pre, post, rfl, rfl, a, b⟩ := U.split
  intro p hp'
  rcases List.mem_append.mp hp' with q | q
  · have z := N p (List.mem_append_left _ q)
    exact ⟨hk _ _ (a p q) z.1, z.2⟩
  · rcases List.mem_cons.mp q with rfl | q
    · have z := N (pb, o) (List.mem_append_right _ (.head _))
      exact ⟨hp, z.2⟩
    · have z := N p (List.mem_append_right _ (.tail _ q))
      exact ⟨hk _ _ (b p q) z.1, z.2⟩
local macro_rules | `(tactic| walk_at "call ref") => `(tactic| (k_here; with_reducible refine Mine.hCall ?_))
noncomputable def forBody : Stmt → List Stmt
  | .For _ _ b _ _ => b
  | _ => []
noncomputable def nth (l : List Stmt) (i : Nat) : Stmt := match l.drop i with | s :: _ => s | [] => .Pass ⟨0, 0, 0, 0⟩
noncomputable def walkFor : Stmt := nth (fp 69).2.1 1
noncomputable def rotFor1 : Stmt := nth (forBody walkFor) 1
noncomputable def rotFor2 : Stmt := nth (fp 69).2.1 2
noncomputable abbrev ringL (P : Params) (lex dx pb : Addr) (ln : Int) (t1 : Tok) (st : Value) (t2 k1 k2 k3 k4 : Tok) (e : Nat) (ws : List Value) (n : Nat) (ex : List (Addr × Obj)) : List (Addr × Obj) :=
  (lex, instObj 52 dx) :: (dx, dictOf (lexE P ln t1 st t2 pb k1 k2 k3 k4) e) :: (pb, listOf ws.toArray n) :: ex
section
variable {w : World} {mg mb : Str → Option Value} {hb g : Heap} {A : Around} {s : Shared} {Q : Flow → Shared → Prop} {L : Addr} {m : Str → Option Value}
theorem rot_turn (B : Base w mg mb hb) (hbg : Sub hb g) (hA : A.depth + 1 < recursionLimit) (hh : A.handled = none) (X : (KF w.params).In g) (T : Top vq looseF (ExcName.means hb) mg mb g) {lex dx pb : Addr} {ws : List Value} {n : Nat} {ln : Int} {t1 t2 k1 k2 k3 k4 : Tok} {st : Value} {e : Nat} {o1 : Obj} {ex : List (Addr × Obj)} {x : Str} {tx : Tok}
    (hn1 : hb.get? lex = none) (hn2 : hb.get? dx = none) (hn3 : hb.get? pb = none) (hz : ws.length < 900) (e1 : o1.data = .cell (some (.ref lex))) (d1 : @Ne Nat dx pb) (d2 : @Ne Nat lex pb) (hex : ∀ p ∈ ex, p.1 ≠ pb) (hL1 : @Ne Nat (L + 1) pb) (hL2 : L ≠ pb)
    (F : Fr g L s.heap m) (N : News g L s.heap ((L + 1, o1) :: ringL w.params lex dx pb ln t1 st t2 k1 k2 k3 k4 e (.str x tx :: ws) n ex)) {body : List Stmt} (hbody : body = forBody rotFor1 ∨ body = forBody rotFor2)
    (fin : ∀ h tk n, Fr g L h m → News g L h ((L + 1, o1) :: ringL w.params lex dx pb ln t1 st t2 k1 k2 k3 k4 e (ws ++ [.str x tx]) n ex) → Q .next { s with heap := h, toks := tk }) :
    wpAny (model pw w) A (execs body (envOfC (Str.ofString "_law_walk") (fp 69).2.2 L 182 (.ref 181))) Q (fun _ _ => False) s := by
  have hb2 : (fp 69).2.2 = (fp 69).2.2 := rfl
  conv at hb2 => rhs; whnf
  have hr1 : forBody rotFor1 = forBody rotFor1 := rfl
  conv at hr1 => rhs; whnf
  have hr2 : forBody rotFor2 = forBody rotFor2 := rfl
  conv at hr2 => rhs; whnf
  rw [hb2]
  rw [hr1, hr2] at hbody
  clear hb2 hr1 hr2
  rcases hbody with rfl | rfl
  all_goals
    k_steps
    show wpAny _ _ (call (.ref 42) [.ref lex]) _ _ _
    refine c_pop B ?_ ?_ ?_ lex dx pb x tx ws n ln t1 t2 k1 k2 k3 k4 st e (N (lex, _) (.tail _ (.head _))).1 (N (dx, _) (.tail _ (.tail _ (.head _)))).1 (N (pb, _) (.tail _ (.tail _ (.tail _ (.head _))))).1 hn1 hn2 hn3 (by omega) ?_
    · exact hbOf hbg F.keep
    · omega
    · exact hh
    intro h5 tk5 hk5 hp5
    have hgp : g.get? pb = none := (N (pb, _) (.tail _ (.tail _ (.tail _ (.head _))))).2.2
    have F5 := fr_upd F hk5 hL2 hgp
    have U1 : Upd pb (listOf (Value.str x tx :: ws).toArray n) (listOf ws.toArray (n + 1)) ((L + 1, o1) :: ringL w.params lex dx pb ln t1 st t2 k1 k2 k3 k4 e (.str x tx :: ws) n ex) ((L + 1, o1) :: ringL w.params lex dx pb ln t1 st t2 k1 k2 k3 k4 e ws (n + 1) ex) := .tail hL1 (.tail d2 (.tail d1 (.head hex)))
    have N5 := news_upd N U1 hk5 hp5
    have F' := F5
    clear F5
    k_steps
    show wpAny _ _ (call (.ref 49) [.ref lex, .str x tx]) _ _ _
    refine c_push B ?_ ?_ ?_ lex dx pb ws.toArray (n + 1) ln t1 t2 k1 k2 k3 k4 st e x tx (N5 (lex, _) (.tail _ (.head _))).1 (N5 (dx, _) (.tail _ (.tail _ (.head _)))).1 (N5 (pb, _) (.tail _ (.tail _ (.tail _ (.head _))))).1 hn1 hn2 hn3 (by simp; omega) ?_
    · exact hbOf hbg F'.keep
    · omega
    · exact hh
    intro h6 tk6 hk6 hp6
    rw [List.push_toArray] at hp6
    have F6 := fr_upd F' hk6 hL2 hgp
    have U2 : Upd pb (listOf ws.toArray (n + 1)) (listOf (ws ++ [Value.str x tx]).toArray (n + 1 + 1)) ((L + 1, o1) :: ringL w.params lex dx pb ln t1 st t2 k1 k2 k3 k4 e ws (n + 1) ex) ((L + 1, o1) :: ringL w.params lex dx pb ln t1 st t2 k1 k2 k3 k4 e (ws ++ [.str x tx]) (n + 1 + 1) ex) := .tail hL1 (.tail d2 (.tail d1 (.head hex)))
    have N6 := news_upd N5 U2 hk6 hp6
    clear F' N5
    k_steps
    exact fin _ _ _ F6 N6
end
end Mine
end
section
open PySem PySem.W PySem.Calls PyProof.Rows PySem.Spec
set_option maxRecDepth 100000
set_option maxHeartbeats 4000000
namespace Mine
noncomputable def SV (xs : List Str) (ws : List Value) : Prop := ∃ l : List (Str × Tok), ws = strValues l ∧ l.map (·.1) = xs
theorem SV.length {xs : List Str} {ws : List Value} (h : SV xs ws) : ws.length = xs.length := by
  obtain ⟨l, rfl, rfl⟩ := h; simp [strValues]
theorem SV.cons {x : Str} {xs : List Str} {ws : List Value} (h : SV (x :: xs) ws) : ∃ t ws', ws = .str x t :: ws' ∧ SV xs ws' := by
  obtain ⟨l, rfl, hl⟩ := h
  cases l with
  | nil => cases hl
  | cons p r =>
    obtain ⟨a, t⟩ := p
    cases hl
    exact ⟨t, strValues r, rfl, r, rfl, rfl⟩
theorem SV.snoc {x : Str} {xs : List Str} {ws : List Value} {t : Tok} (h : SV xs ws) : SV (xs ++ [x]) (ws ++ [.str x t]) := by
  obtain ⟨l, rfl, rfl⟩ := h
  exact ⟨l ++ [(x, t)], by simp [strValues], by simp⟩
noncomputable def rotL : List Str → List Str
  | [] => []
  | x :: r => r ++ [x]
noncomputable def rotN : Nat → List Str → List Str
  | 0, l => l
  | n + 1, l => rotL (rotN n l)
theorem rotL_length : ∀ l : List Str, (rotL l).length = l.length
  | [] => rfl
  | x :: r => by simp [rotL]
theorem rotN_length (n : Nat) (l : List Str) : (rotN n l).length = l.length := by
  induction n with
  | zero => rfl
  | succ n ih => rw [rotN, rotL_length, ih]
noncomputable abbrev mT (x : Str) (to : Option Value) (m0 : Str → Option Value) : Str → Option Value := fun y => if y = x then to else m0 y
theorem mT_again {x : Str} {a b : Option Value} {m0 : Str → Option Value} : (fun y => if y = x then a else mT x b m0 y) = mT x a m0 := by
  funext y
  by_cases e : y = x
  · simp only [mT, if_pos e]
  · simp only [mT, if_neg e]
section
variable {w : World} {mg mb : Str → Option Value} {hb g : Heap} {A : Around} {s : Shared} {Q : Flow → Shared → Prop} {L : Addr} {m0 : Str → Option Value}
theorem rot_turns (B : Base w mg mb hb) (hbg : Sub hb g) (hA : A.depth + 1 < recursionLimit) (hh : A.handled = none) (X : (KF w.params).In g) (T : Top vq looseF (ExcName.means hb) mg mb g) {lex dx pb : Addr} {ws : List Value} {n : Nat} {ln : Int} {t1 t2 k1 k2 k3 k4 : Tok} {st : Value} {e : Nat} {o1 : Obj} {ex : List (Addr × Obj)}
    (hn1 : hb.get? lex = none) (hn2 : hb.get? dx = none) (hn3 : hb.get? pb = none) (e1 : o1.data = .cell (some (.ref lex))) (d1 : @Ne Nat dx pb) (d2 : @Ne Nat lex pb) (hex : ∀ p ∈ ex, p.1 ≠ pb) (hL1 : @Ne Nat (L + 1) pb) (hL2 : L ≠ pb)
    {to : Option Value} {xs : List Str} (hx : SV xs ws) (hxl : xs ≠ []) (hxl2 : xs.length < 800)
    (F : Fr g L s.heap (mT (Str.ofString "turn") to m0)) (N : News g L s.heap ((L + 1, o1) :: ringL w.params lex dx pb ln t1 st t2 k1 k2 k3 k4 e ws n ex)) {body : List Stmt} (hbody : body = forBody rotFor1 ∨ body = forBody rotFor2) {px : Pos}
    {r : Addr} {b : Int} {a1 a2 a3 : Tok} {c : Nat} (hr : IsRange s.heap r 0 b 1 a1 a2 a3) (hsm : Builtin.Range.small 0 b 1 = true) (hc : Builtin.Range.rangeSize 0 b 1 = ((c : Nat) : Int))
    (fin : ∀ h tk to ws n, Fr g L h (mT (Str.ofString "turn") to m0) → News g L h ((L + 1, o1) :: ringL w.params lex dx pb ln t1 st t2 k1 k2 k3 k4 e ws n ex) → SV (rotN c xs) ws → Q .next { s with heap := h, toks := tk }) :
    wpAny (model pw w) A (pyIter (.ref r)) (fun it s₂ => TurnsAt pw w A g (envOfC (Str.ofString "_law_walk") (fp 69).2.2 L 182 (.ref 181)) (.Name (Str.ofString "turn") px) body Q (fun _ _ => False) it s₂) (fun _ _ => False) s := by
  refine iter_rangeT (n := c) hh F N hr hsm hc fun I hIlt => ?_
  refine restF (rangeI 0 c) (fun k m₁ news₁ => ∃ to ws n, m₁ = mT (Str.ofString "turn") to m0 ∧ news₁ = ((L + 1, o1) :: ringL w.params lex dx pb ln t1 st t2 k1 k2 k3 k4 e ws n ex) ∧ SV (rotN k xs) ws) ⟨to, ws, n, rfl, rfl, hx⟩ trivial ?_ ?_
  · rintro k a m₁ news₁ ha ⟨to', ws', n', rfl, rfl, hws⟩ - v h tk hv F1
    obtain ⟨hk, rfl⟩ := rangeI_get ha
    obtain ⟨t', rfl⟩ := hv
    refine AllObj.cons fun o ho => AllObj.nil fun N1 => ?_
    simp only [List.cons_append, List.nil_append] at N1
    have hlen := rotN_length k xs
    cases hq : rotN k xs with
    | nil => rw [hq] at hlen; cases xs with | nil => exact absurd rfl hxl | cons => cases hlen
    | cons x r' =>
      rw [hq] at hws hlen
      obtain ⟨tx, ws2, rfl, hws2⟩ := hws.cons
      have hl2 : ws2.length < 900 := by have := hws2.length; simp at hlen; omega
      have lt1 : @LT.lt Nat _ (L + 1) I := hIlt _ (.head _)
      have lt2 : @LT.lt Nat _ lex I := hIlt (lex, _) (.tail _ (.head _))
      have lt3 : @LT.lt Nat _ dx I := hIlt (dx, _) (.tail _ (.tail _ (.head _)))
      have lt4 : @LT.lt Nat _ pb I := hIlt (pb, _) (.tail _ (.tail _ (.tail _ (.head _))))
      have hex2 : ∀ p ∈ (I, o) :: ex, p.1 ≠ pb := fun p hp => by
        rcases List.mem_cons.mp hp with rfl | hp
        · exact Nat.ne_of_gt lt4
        · exact hex p hp
      refine wpAny_assign_Name ?_
      refine wpAny_storeName_local rfl F1.ns (fun h' hn hs' => ?_) rfl
      have F2 := F1.set hn hs'
      rw [mT_again] at F2
      replace F2 : Fr g L h' _ := F2
      have N2 : News g L h' ((L + 1, o1) :: ringL w.params lex dx pb ln t1 st t2 k1 k2 k3 k4 e (.str x tx :: ws2) n' ((I, o) :: ex)) := by
        have N1' := N1.set hs'
        intro p hp
        refine N1' p ?_
        simp only [List.mem_cons] at hp ⊢
        rcases hp with h | h | h | h | h | h
        · exact .inr (.inl h)
        · exact .inr (.inr (.inl h))
        · exact .inr (.inr (.inr (.inl h)))
        · exact .inr (.inr (.inr (.inr (.inl h))))
        · exact .inl h
        · exact .inr (.inr (.inr (.inr (.inr h))))
      refine rot_turn B hbg hA hh X T hn1 hn2 hn3 hl2 e1 d1 d2 hex2 hL1 hL2 F2 N2 hbody ?_
      intro h3 tk3 n3 F3 N3
      refine ⟨h3, tk3, _, (L + 1, o1) :: ringL w.params lex dx pb ln t1 st t2 k1 k2 k3 k4 e (ws2 ++ [.str x tx]) n3 ex, rfl, F3, ?_, ?_, trivial, ⟨_, _, _, rfl, rfl, ?_⟩⟩
      · intro p hp
        refine N3 p ?_
        simp only [List.mem_cons, List.mem_append, List.not_mem_nil, or_false] at hp ⊢
        rcases hp with h | h | h | h | h | h
        · exact .inr (.inr (.inr (.inr (.inl h))))
        · exact .inl h
        · exact .inr (.inl h)
        · exact .inr (.inr (.inl h))
        · exact .inr (.inr (.inr (.inl h)))
        · exact .inr (.inr (.inr (.inr (.inr h))))
      · intro p hp q hq'
        rw [List.mem_singleton.mp hq']
        simp only [List.mem_cons] at hp
        rcases hp with rfl | rfl | rfl | rfl | h
        · exact Nat.ne_of_lt lt1
        · exact Nat.ne_of_lt lt2
        · exact Nat.ne_of_lt lt3
        · exact Nat.ne_of_lt lt4
        · exact Nat.ne_of_lt (hIlt _ (.tail _ (.tail _ (.tail _ (.tail _ h)))))
      · show SV (rotL (rotN k xs)) _
        rw [hq]
        exact hws2.snoc
  · rintro m₁ news₁ ⟨to', ws', n', rfl, rfl, hws⟩ h tk F1 N1
    have e : (rangeI 0 c).length = c := by simp [rangeI]
    rw [e] at hws
    exact fin h tk _ _ _ F1 N1 hws
end
end Mine
end
section
open PySem PySem.W PySem.Calls PyProof.Rows PySem.Spec
set_option maxRecDepth 100000
set_option maxHeartbeats 4000000
namespace Mine
local macro_rules | `(tactic| walk_at "pyIter ref") => `(tactic| (k_here; (with_reducible show wpAny _ _ (pyIter (Value.ref _)) (fun it s₂ => TurnsAt _ _ _ _ _ _ _ _ _ it s₂) _ _); refine Halt.of ?_))
noncomputable abbrev mW (vo : Option Value) (Du : Addr) (size : Int) (u1 : Tok) (step : Int) (u2 : Tok) (visits : Int) (u3 : Tok) (x : Int) (u4 : Tok) : Str → Option Value := fun y =>
  if y = Str.ofString "visit" then vo else if y = Str.ofString "unseen" then some (.ref Du) else if y = Str.ofString "x" then some (.int x u4) else if y = Str.ofString "visits" then some (.int visits u3) else if y = Str.ofString "step" then some (.int step u2)
  else if y = Str.ofString "size" then some (.int size u1) else none
section
variable {w : World} {mg mb : Str → Option Value} {hb g : Heap} {A : Around} {s : Shared} {Q : Flow → Shared → Prop} {L : Addr}
theorem rot_for (B : Base w mg mb hb) (hbg : Sub hb g) (hA : A.depth + 1 < recursionLimit) (hh : A.handled = none) (X : (KF w.params).In g) (T : Top vq looseF (ExcName.means hb) mg mb g) {lex dx pb : Addr} {ws : List Value} {n : Nat} {ln : Int} {t1 t2 k1 k2 k3 k4 : Tok} {st : Value} {e : Nat} {o1 : Obj} {ex : List (Addr × Obj)}
    (hn1 : hb.get? lex = none) (hn2 : hb.get? dx = none) (hn3 : hb.get? pb = none) (e1 : o1.data = .cell (some (.ref lex))) (d1 : @Ne Nat dx pb) (d2 : @Ne Nat lex pb) (hex : ∀ p ∈ ex, p.1 ≠ pb) (hL1 : @Ne Nat (L + 1) pb) (hL2 : L ≠ pb)
    {to vo : Option Value} {Du : Addr} {size step visits x : Nat} {u1 u2 u3 u4 : Tok} (z1 : 5 ≤ size) (z2 : size ≤ 12) (z3 : 1 ≤ step) (z4 : step ≤ size) (z5 : 1 ≤ visits) (z6 : visits ≤ size)
    {xs : List Str} (hx : SV xs ws) (hxl : xs ≠ []) (hxl2 : xs.length < 800)
    (F : Fr g L s.heap (mT (Str.ofString "turn") to (mW vo Du size u1 step u2 visits u3 x u4))) (N : News g L s.heap ((L + 1, o1) :: ringL w.params lex dx pb ln t1 st t2 k1 k2 k3 k4 e ws n ex)) {stm : Stmt} {c : Nat}
    (hs : (stm = rotFor1 ∧ c = step - 1) ∨ (stm = rotFor2 ∧ (c : Int) = (-(visits : Int) * step).fmod size))
    (fin : ∀ h tk to ws n, Fr g L h (mT (Str.ofString "turn") to (mW vo Du size u1 step u2 visits u3 x u4)) → News g L h ((L + 1, o1) :: ringL w.params lex dx pb ln t1 st t2 k1 k2 k3 k4 e ws n ex) → SV (rotN c xs) ws → Q .next { s with heap := h, toks := tk }) :
    wpAny (model pw w) A (exec stm (envOfC (Str.ofString "_law_walk") (fp 69).2.2 L 182 (.ref 181))) Q (fun _ _ => False) s := by
  have hr1 : rotFor1 = rotFor1 := rfl
  conv at hr1 => rhs; whnf
  have hr2 : rotFor2 = rotFor2 := rfl
  conv at hr2 => rhs; whnf
  have hb2 : (fp 69).2.2 = (fp 69).2.2 := rfl
  conv at hb2 => rhs; whnf
  rcases hs with ⟨rfl, rfl⟩ | ⟨rfl, hc⟩
  · rw [hr1, hb2]
    clear hr1 hr2
    refine For_turns F ?_
    k_steps
    show wpAny _ _ _ _ _ _
    rename IsRange _ _ _ _ _ _ _ _ => R2
    rename Fr _ _ _ _ => F2
    rename News _ _ _ _ => N2
    refine rot_turns (c := step - 1) B hbg hA ?_ X T hn1 hn2 hn3 e1 d1 d2 hex hL1 hL2 hx hxl hxl2 F2 N2 (.inl rfl) R2 (small_one (by omega) (by omega) (by omega) (by omega)) (by rw [PyProof.Rows.rangeSize_nat]; omega) ?_
    · exact hh
    · intro h3 tk3 to3 ws3 n3 F3 N3 hx3
      exact fin _ _ _ _ _ F3 N3 hx3
  · rw [hr2, hb2]
    clear hr1 hr2
    refine For_turns F ?_
    k_steps
    show wpAny _ _ _ _ _ _
    rename IsRange _ _ _ _ _ _ _ _ => R2
    rename Fr _ _ _ _ => F2
    rename News _ _ _ _ => N2
    rw [← hc] at R2
    have hc2 : (c : Int) < size := by rw [hc]; exact Int.fmod_lt_of_pos _ (by omega)
    refine rot_turns (c := c) B hbg hA ?_ X T hn1 hn2 hn3 e1 d1 d2 hex hL1 hL2 hx hxl hxl2 F2 N2 (.inr rfl) R2 (small_one (by omega) (by omega) (by omega) (by omega)) (by rw [PyProof.Rows.rangeSize_nat]; omega) ?_
    · exact hh
    · intro h3 tk3 to3 ws3 n3 F3 N3 hx3
      exact fin _ _ _ _ _ F3 N3 hx3
end
end Mine
end
section
open PySem PySem.W PySem.Calls PyProof.Rows PySem.Spec
set_option maxRecDepth 100000
set_option maxHeartbeats 4000000
namespace Mine
local macro_rules | `(tactic| walk_at "exec For Name Call cons nil") => `(tactic| (k_here; with_reducible refine Mine.hFor ?_))
local macro_rules | `(tactic| walk_at "call ref") => `(tactic| (k_here; with_reducible refine Mine.hCall ?_))
noncomputable def unseenL : List Int := [173, 847, 6150, 6155, 6156, 6157, 8203, 8204, 8205, 8288, 65279] ++ rangeKs 65024 16
theorem unseen_rng : ∀ n ∈ unseenL, 173 ≤ n ∧ n ≤ 65279 := by decide
theorem unseen_len : unseenL.length = 27 := by decide
noncomputable def markS (x i : Nat) : Str := Txt.mul ⟨#[(unseenL.getD (((x : Int) + i).fmod 27).toNat 0).toNat]⟩ ((i : Int) + 1)
section
variable {w : World} {mg mb : Str → Option Value} {hb g : Heap} {A : Around} {s : Shared} {Q : Flow → Shared → Prop} {L : Addr}
theorem visit_turn (B : Base w mg mb hb) (hbg : Sub hb g) (hA : A.depth + 1 < recursionLimit) (hh : A.handled = none) (X : (KF w.params).In g) (T : Top vq looseF (ExcName.means hb) mg mb g) {lex dx pb : Addr} {ws : List Value} {n : Nat} {ln : Int} {t1 t2 k1 k2 k3 k4 : Tok} {st : Value} {e : Nat} {o1 : Obj} {ex : List (Addr × Obj)}
    (hn1 : hb.get? lex = none) (hn2 : hb.get? dx = none) (hn3 : hb.get? pb = none) (e1 : o1.data = .cell (some (.ref lex))) (d1 : @Ne Nat dx pb) (d2 : @Ne Nat lex pb) (hex : ∀ p ∈ ex, p.1 ≠ pb) (hL1 : @Ne Nat (L + 1) pb) (hL2 : L ≠ pb)
    {to : Option Value} {Du : Addr} {size step visits x i : Nat} {u1 u2 u3 u4 ui : Tok} (z1 : 5 ≤ size) (z2 : size ≤ 12) (z3 : 1 ≤ step) (z4 : step ≤ size) (z5 : 1 ≤ visits) (z6 : visits ≤ size) (z7 : x < 5184) (hi : i < visits)
    {x0 : Str} {tx : Tok} {xs : List Str} (hx : SV xs ws) (hxl2 : xs.length < 700) (hx0 : x0.cps.size < 1000)
    {us : List Value} {nu : Nat} (hus : IntsAre us unseenL) (hDu : @Ne Nat Du pb)
    (F : Fr g L s.heap (mT (Str.ofString "turn") to (mW (some (.int (i : Int) ui)) Du size u1 step u2 visits u3 x u4))) (N : News g L s.heap ((L + 1, o1) :: ringL w.params lex dx pb ln t1 st t2 k1 k2 k3 k4 e (.str x0 tx :: ws) n ((Du, listOf us.toArray nu) :: ex)))
    (fin : ∀ h tk to ws n, Fr g L h (mT (Str.ofString "turn") to (mW (some (.int (i : Int) ui)) Du size u1 step u2 visits u3 x u4)) → News g L h ((L + 1, o1) :: ringL w.params lex dx pb ln t1 st t2 k1 k2 k3 k4 e ws n ((Du, listOf us.toArray nu) :: ex)) → SV (rotN (step - 1) (xs ++ [x0 ++ markS x i])) ws → Q .next { s with heap := h, toks := tk }) :
    wpAny (model pw w) A (execs (forBody walkFor) (envOfC (Str.ofString "_law_walk") (fp 69).2.2 L 182 (.ref 181))) Q (fun _ _ => False) s := by
  have hr1 : forBody walkFor = forBody walkFor := rfl
  conv at hr1 => rhs; whnf
  have hb2 : (fp 69).2.2 = (fp 69).2.2 := rfl
  conv at hb2 => rhs; whnf
  rw [hr1, hb2]
  clear hr1
  k_steps
  show wpAny _ _ (call (.ref 42) [.ref lex]) _ _ _
  refine c_pop B ?_ ?_ ?_ lex dx pb x0 tx ws n ln t1 t2 k1 k2 k3 k4 st e (N (lex, _) (.tail _ (.head _))).1 (N (dx, _) (.tail _ (.tail _ (.head _)))).1 (N (pb, _) (.tail _ (.tail _ (.tail _ (.head _))))).1 hn1 hn2 hn3 (by have := hx.length; omega) ?_
  · exact hbOf hbg F.keep
  · omega
  · exact hh
  intro h5 tk5 hk5 hp5
  have hgp : g.get? pb = none := (N (pb, _) (.tail _ (.tail _ (.tail _ (.head _))))).2.2
  have F5 := fr_upd F hk5 hL2 hgp
  have hex2 : ∀ p ∈ (Du, listOf us.toArray nu) :: ex, p.1 ≠ pb := fun p hp => by
    rcases List.mem_cons.mp hp with rfl | hp
    · exact hDu
    · exact hex p hp
  have U1 : Upd pb (listOf (Value.str x0 tx :: ws).toArray n) (listOf ws.toArray (n + 1)) ((L + 1, o1) :: ringL w.params lex dx pb ln t1 st t2 k1 k2 k3 k4 e (.str x0 tx :: ws) n ((Du, listOf us.toArray nu) :: ex)) ((L + 1, o1) :: ringL w.params lex dx pb ln t1 st t2 k1 k2 k3 k4 e ws (n + 1) ((Du, listOf us.toArray nu) :: ex)) := .tail hL1 (.tail d2 (.tail d1 (.head hex2)))
  have N5 := news_upd N U1 hk5 hp5
  have F' := F5
  clear F5
  unfold ringL at N5
  k_steps
  have hcn : 173 ≤ unseenL.getD (((x : Int) + i).fmod 27).toNat 0 ∧ unseenL.getD (((x : Int) + i).fmod 27).toNat 0 ≤ 65279 := by
    have h1 := Int.fmod_lt_of_pos ((x : Int) + i) (b := 27) (by decide)
    have h2 := Int.fmod_nonneg (a := (x : Int) + i) (b := 27) (by omega) (by decide)
    exact unseen_rng _ (getD_mem (by rw [unseen_len]; omega))
  generalize hcc : unseenL.getD (((x : Int) + i).fmod 27).toNat 0 = cn at hcn ⊢
  obtain ⟨hcn1, hcn2⟩ := hcn
  k_steps
  refine KXi.mul (n := 1) rfl (by decide) (by omega) (by omega) fun tm km _ hlen => ?_
  have hlen' : (Txt.mul ⟨#[cn.toNat]⟩ ((i : Int) + 1)).length = i + 1 := by have := hlen (by omega); omega
  refine SB.add (fun ta ka => ?_) (by
    have : x0.length = x0.cps.size := rfl
    rw [hlen', this, sizeLine_eq]; omega)
  k_steps
  show wpAny _ _ (call (.ref 49) [.ref lex, .str (x0 ++ Txt.mul ⟨#[cn.toNat]⟩ ((i : Int) + 1)) ta]) _ _ _
  have hm : markS x i = Txt.mul ⟨#[cn.toNat]⟩ ((i : Int) + 1) := by unfold markS; rw [hcc]
  rw [← hm]
  refine c_push B ?_ ?_ ?_ lex dx pb ws.toArray (n + 1) ln t1 t2 k1 k2 k3 k4 st e (x0 ++ markS x i) ta (N5 (lex, _) (.tail _ (.head _))).1 (N5 (dx, _) (.tail _ (.tail _ (.head _)))).1 (N5 (pb, _) (.tail _ (.tail _ (.tail _ (.head _))))).1 hn1 hn2 hn3 (by have := hx.length; simp; omega) ?_
  · exact hbOf hbg F'.keep
  · omega
  · exact hh
  intro h6 tk6 hk6 hp6
  rw [List.push_toArray] at hp6
  have F6 := fr_upd F' hk6 hL2 hgp
  have U2 : Upd pb (listOf ws.toArray (n + 1)) (listOf (ws ++ [Value.str (x0 ++ markS x i) ta]).toArray (n + 1 + 1)) ((L + 1, o1) :: ringL w.params lex dx pb ln t1 st t2 k1 k2 k3 k4 e ws (n + 1) ((Du, listOf us.toArray nu) :: ex)) ((L + 1, o1) :: ringL w.params lex dx pb ln t1 st t2 k1 k2 k3 k4 e (ws ++ [.str (x0 ++ markS x i) ta]) (n + 1 + 1) ((Du, listOf us.toArray nu) :: ex)) := .tail hL1 (.tail d2 (.tail d1 (.head hex2)))
  have N6 := news_upd N5 U2 hk6 hp6
  clear F' N5
  k_steps
  show wpAny _ _ _ _ _ _
  refine rot_for (stm := rotFor1) (c := step - 1) B hbg hA ?_ X T hn1 hn2 hn3 e1 d1 d2 hex2 hL1 hL2 z1 z2 z3 z4 z5 z6 (hx.snoc (x := x0 ++ markS x i) (t := ta)) (by simp) (by simp; omega) F6 N6 (.inl ⟨rfl, rfl⟩) ?_
  · exact hh
  intro h7 tk7 to7 ws7 n7 F7 N7 hx7
  k_steps
  exact fin _ _ _ _ _ F7 N7 hx7
end
end Mine
end
section
open PySem PySem.W PySem.Calls PyProof.Rows PySem.Spec
set_option maxRecDepth 100000
set_option maxHeartbeats 4000000
namespace Mine
local macro_rules | `(tactic| walk_at "pyIter ref") => `(tactic| (k_here; (with_reducible show wpAny _ _ (pyIter (Value.ref _)) (fun it s₂ => TurnsAt _ _ _ _ _ _ _ _ _ it s₂) _ _); refine Halt.of ?_))
noncomputable def markHead (x i : Nat) : List Str → List Str
  | [] => []
  | a :: r => r ++ [a ++ markS x i]
noncomputable def visN (x step : Nat) : Nat → List Str → List Str
  | 0, l => l
  | k + 1, l => rotN (step - 1) (markHead x k (visN x step k l))
theorem visN_length (x step : Nat) (l : List Str) : ∀ k, (visN x step k l).length = l.length
  | 0 => rfl
  | k + 1 => by
    rw [visN, rotN_length]
    have ih := visN_length x step l k
    cases h : visN x step k l with
    | nil => rw [h] at ih; exact ih
    | cons a r => rw [h] at ih; simp only [markHead, List.length_append, List.length_cons, List.length_nil] at ih ⊢; omega
theorem mW_visit {to vo : Option Value} {v : Value} {Du : Addr} {size step visits x : Int} {u1 u2 u3 u4 : Tok} :
    (fun y => if y = Str.ofString "visit" then some v else mT (Str.ofString "turn") to (mW vo Du size u1 step u2 visits u3 x u4) y) = mT (Str.ofString "turn") to (mW (some v) Du size u1 step u2 visits u3 x u4) := by
  funext y
  by_cases e1 : y = Str.ofString "visit"
  · subst e1; rfl
  · simp only [mT, mW, if_neg e1]
section
variable {w : World} {mg mb : Str → Option Value} {hb g : Heap} {A : Around} {s : Shared} {Q : Flow → Shared → Prop} {L : Addr}
theorem walk_for (B : Base w mg mb hb) (hbg : Sub hb g) (hA : A.depth + 1 < recursionLimit) (hh : A.handled = none) (X : (KF w.params).In g) (T : Top vq looseF (ExcName.means hb) mg mb g) {lex dx pb : Addr} {ws : List Value} {n : Nat} {ln : Int} {t1 t2 k1 k2 k3 k4 : Tok} {st : Value} {e : Nat} {o1 : Obj}
    (hn1 : hb.get? lex = none) (hn2 : hb.get? dx = none) (hn3 : hb.get? pb = none) (e1 : o1.data = .cell (some (.ref lex))) (d1 : @Ne Nat dx pb) (d2 : @Ne Nat lex pb) (hL1 : @Ne Nat (L + 1) pb) (hL2 : L ≠ pb)
    {to vo : Option Value} {Du : Addr} {size step visits x : Nat} {u1 u2 u3 u4 : Tok} (z1 : 5 ≤ size) (z2 : size ≤ 12) (z3 : 1 ≤ step) (z4 : step ≤ size) (z5 : 1 ≤ visits) (z6 : visits ≤ size) (z7 : x < 5184)
    {xs : List Str} (hx : SV xs ws) (hxl : xs ≠ []) (hxl2 : xs.length < 600) (hbd : ∀ k, k < visits → ∀ y ∈ visN x step k xs, y.cps.size < 1000)
    {us : List Value} {nu : Nat} (hus : IntsAre us unseenL) (hDu : @Ne Nat Du pb)
    (F : Fr g L s.heap (mT (Str.ofString "turn") to (mW vo Du size u1 step u2 visits u3 x u4))) (N : News g L s.heap ((L + 1, o1) :: ringL w.params lex dx pb ln t1 st t2 k1 k2 k3 k4 e ws n ((Du, listOf us.toArray nu) :: [])))
    (fin : ∀ h tk to vo ws n, Fr g L h (mT (Str.ofString "turn") to (mW vo Du size u1 step u2 visits u3 x u4)) → News g L h ((L + 1, o1) :: ringL w.params lex dx pb ln t1 st t2 k1 k2 k3 k4 e ws n ((Du, listOf us.toArray nu) :: [])) → SV (visN x step visits xs) ws → Q .next { s with heap := h, toks := tk }) :
    wpAny (model pw w) A (exec walkFor (envOfC (Str.ofString "_law_walk") (fp 69).2.2 L 182 (.ref 181))) Q (fun _ _ => False) s := by
  have hr1 : walkFor = walkFor := rfl
  conv at hr1 => rhs; whnf
  have hb2 : (fp 69).2.2 = (fp 69).2.2 := rfl
  conv at hb2 => rhs; whnf
  rw [hr1, hb2]
  clear hr1
  refine For_turns F ?_
  k_steps
  show wpAny _ _ _ _ _ _
  rename IsRange _ _ _ _ _ _ _ _ => R2
  rename Fr _ _ _ _ => F0
  rename News _ _ _ _ => N0
  rw [← hb2]
  clear hb2
  refine iter_rangeT (n := visits) hh F0 N0 R2 (sm_nat (by omega)) (rs_nat _) fun I hIlt => ?_
  refine restF (rangeI 0 visits) (fun k m₁ news₁ => ∃ to vo ws n, m₁ = mT (Str.ofString "turn") to (mW vo Du size u1 step u2 visits u3 x u4) ∧ news₁ = ((L + 1, o1) :: ringL w.params lex dx pb ln t1 st t2 k1 k2 k3 k4 e ws n ((Du, listOf us.toArray nu) :: [])) ∧ SV (visN x step k xs) ws) ⟨to, vo, ws, n, rfl, rfl, hx⟩ trivial ?_ ?_
  · rintro k a m₁ news₁ ha ⟨to', vo', ws', n', rfl, rfl, hws⟩ - v h tk hv F1
    obtain ⟨hk, rfl⟩ := rangeI_get ha
    obtain ⟨t', rfl⟩ := hv
    refine AllObj.cons fun o ho => AllObj.nil fun N1 => ?_
    simp only [List.cons_append, List.nil_append] at N1
    have hlen := visN_length x step xs k
    have hbk := hbd k hk
    cases hq : visN x step k xs with
    | nil => rw [hq] at hlen; cases xs with | nil => exact absurd rfl hxl | cons => cases hlen
    | cons x0 r' =>
      rw [hq] at hws hlen hbk
      obtain ⟨tx, ws2, rfl, hws2⟩ := hws.cons
      have hl2 : r'.length < 700 := by simp at hlen; omega
      have lt1 : @LT.lt Nat _ (L + 1) I := hIlt _ (.head _)
      have lt2 : @LT.lt Nat _ lex I := hIlt (lex, _) (.tail _ (.head _))
      have lt3 : @LT.lt Nat _ dx I := hIlt (dx, _) (.tail _ (.tail _ (.head _)))
      have lt4 : @LT.lt Nat _ pb I := hIlt (pb, _) (.tail _ (.tail _ (.tail _ (.head _))))
      have lt5 : @LT.lt Nat _ Du I := hIlt (Du, _) (.tail _ (.tail _ (.tail _ (.tail _ (.head _)))))
      have hex2 : ∀ p ∈ [(I, o)], p.1 ≠ pb := fun p hp => by
        rw [List.mem_singleton.mp hp]
        exact Nat.ne_of_gt lt4
      refine wpAny_assign_Name ?_
      refine wpAny_storeName_local rfl F1.ns (fun h' hn hs' => ?_) rfl
      have F2 := F1.set hn hs'
      rw [mW_visit] at F2
      replace F2 : Fr g L h' _ := F2
      rw [Int.zero_add] at F2
      have N2 : News g L h' ((L + 1, o1) :: ringL w.params lex dx pb ln t1 st t2 k1 k2 k3 k4 e (.str x0 tx :: ws2) n' ((Du, listOf us.toArray nu) :: [(I, o)])) := by
        have N1' := N1.set hs'
        intro p hp
        refine N1' p ?_
        simp only [List.mem_cons] at hp ⊢
        rcases hp with h | h | h | h | h | h | h
        · exact .inr (.inl h)
        · exact .inr (.inr (.inl h))
        · exact .inr (.inr (.inr (.inl h)))
        · exact .inr (.inr (.inr (.inr (.inl h))))
        · exact .inr (.inr (.inr (.inr (.inr (.inl h)))))
        · exact .inl h
        · exact absurd h (by simp)
      refine visit_turn B hbg hA hh X T hn1 hn2 hn3 e1 d1 d2 hex2 hL1 hL2 z1 z2 z3 z4 z5 z6 z7 hk hws2 hl2 (hbk x0 List.mem_cons_self) hus hDu F2 N2 ?_
      intro h3 tk3 to3 ws3 n3 F3 N3 hx3
      refine ⟨h3, tk3, _, (L + 1, o1) :: ringL w.params lex dx pb ln t1 st t2 k1 k2 k3 k4 e ws3 n3 ((Du, listOf us.toArray nu) :: []), rfl, F3, ?_, ?_, trivial, ⟨_, _, _, _, rfl, rfl, ?_⟩⟩
      · intro p hp
        refine N3 p ?_
        simp only [List.mem_cons, List.mem_append, List.not_mem_nil, or_false] at hp ⊢
        rcases hp with h | h | h | h | h | h
        · exact .inr (.inr (.inr (.inr (.inr h))))
        · exact .inl h
        · exact .inr (.inl h)
        · exact .inr (.inr (.inl h))
        · exact .inr (.inr (.inr (.inl h)))
        · exact .inr (.inr (.inr (.inr (.inl h))))
      · intro p hp q hq'
        rw [List.mem_singleton.mp hq']
        simp only [List.mem_cons, List.not_mem_nil, or_false] at hp
        rcases hp with rfl | rfl | rfl | rfl | rfl
        · exact Nat.ne_of_lt lt1
        · exact Nat.ne_of_lt lt2
        · exact Nat.ne_of_lt lt3
        · exact Nat.ne_of_lt lt4
        · exact Nat.ne_of_lt lt5
      · show SV (rotN (step - 1) (markHead x k (visN x step k xs))) _
        rw [hq]
        exact hx3
  · rintro m₁ news₁ ⟨to', vo', ws', n', rfl, rfl, hws⟩ h tk F1 N1
    have e : (rangeI 0 visits).length = visits := by simp [rangeI]
    rw [e] at hws
    exact fin h tk _ _ _ _ F1 N1 hws
end
end Mine
end
section
open PySem PySem.W PySem.Calls PyProof.Rows PySem.Spec
set_option maxRecDepth 100000
set_option maxHeartbeats 4000000
namespace Mine
local macro_rules | `(tactic| walk_at "exec For Name Call cons nil") => `(tactic| (k_here; with_reducible refine Mine.hFor ?_))
local macro_rules | `(tactic| walk_at "exec For Name BinOp cons nil") => `(tactic| (k_here; with_reducible refine Mine.hFor ?_))
local macro_rules | `(tactic| walk_at "call ref") => `(tactic| (k_here; with_reducible refine Mine.hCall ?_))
open LCg LCt
theorem mW_in {Du : Addr} {size step visits x : Int} {u1 u2 u3 u4 : Tok} :
    (fun y => if y = Str.ofString "unseen" then some (.ref Du) else if y = Str.ofString "x" then some (.int x u4) else if y = Str.ofString "visits" then some (.int visits u3) else if y = Str.ofString "step" then some (.int step u2) else if y = Str.ofString "size" then some (.int size u1) else none)
      = mT (Str.ofString "turn") none (mW none Du size u1 step u2 visits u3 x u4) := by
  funext y
  by_cases e1 : y = Str.ofString "turn"
  · subst e1; rfl
  by_cases e2 : y = Str.ofString "visit"
  · subst e2; rfl
  simp only [mT, mW, if_neg e1, if_neg e2]
section
variable {prog : Program} {w : World} {A : Around} {E : Value → Shared → Prop} {s : Shared} {h₀ : Heap} {L : Addr} {m : Str → Option Value} {env : Env}
theorem restUN {elt : PySem.Expr} {x : Str} {scope : Scope} {cl : List (Str × Addr)} {S : List (Addr × Obj) → Prop} {P : Nat → Value → Prop} {Fin : List Value → List (Addr × Obj) → Prop} {n : Nat} {news : List (Addr × Obj)} (J : Nat → List Value → List (Addr × Obj) → Prop) (h0 : J 0 [] news)
    (step : ∀ i ys news, i < n → J i ys news → ∀ v I oI C oC D m₂ h tk (E' : Value → Shared → Prop), P i v → NsObj oC m₂ → m₂ x = some v → Fr h₀ L h m → News h₀ L h ((I, oI) :: (C, oC) :: (D, lst ys) :: news) → Off3 I C D news → ((@Ne Nat I C) ∧ (@Ne Nat I D) ∧ (@Ne Nat C D)) →
      wpAny (model prog w) A (eval elt (compEnvC scope cl C env)) (CompEnd h₀ L m { s with heap := h, toks := tk } I oI C oC D (lst ys) S (fun y news' => J (i + 1) (ys ++ [y]) news')) E' { s with heap := h, toks := tk })
    (fin : ∀ ys news, J n ys news → Fin ys news) : CompRest prog w A h₀ L m env elt x scope cl s S P Fin n 0 [] news := by
  have key : ∀ k i ys news, k + i = n → J i ys news → CompRest prog w A h₀ L m env elt x scope cl s S P Fin k i ys news := by
    intro k
    induction k with
    | zero => intro i ys news e hj; exact CompRest.zero (fin ys news ((Nat.zero_add i).symm.trans e ▸ hj))
    | succ k ih =>
      intro i ys news e hj
      refine CompRest.succ fun v I oI C oC D m₂ h tk E' a b c d e' f g => ?_
      exact wpAny_mono (step i ys news (by omega) hj v I oI C oC D m₂ h tk E' a b c d e' f g) (fun y s₂ q => CompEnd.mono (fun y n j => ih (i + 1) _ _ (by omega) j) q) fun _ _ z => z
  exact key n 0 [] news rfl h0
end
section
variable {w : World} {mg mb : Str → Option Value} {hb : Heap} {A : Around} {s : Shared} {Q E : Value → Shared → Prop}
theorem c_walk (B : Base w mg mb hb) (hs : Sub hb s.heap) (hA : A.depth + 3 < recursionLimit) (hh : A.handled = none) (lex dx pb : Addr) (ws : List Value) (n : Nat) (ln : Int) (t1 t2 k1 k2 k3 k4 : Tok) (st : Value) (e : Nat)
    (h1 : s.heap.get? lex = some (instObj 52 dx)) (h2 : s.heap.get? dx = some (dictOf (lexE w.params ln t1 st t2 pb k1 k2 k3 k4) e)) (h3 : s.heap.get? pb = some (listOf ws.toArray n)) (hn1 : hb.get? lex = none) (hn2 : hb.get? dx = none) (hn3 : hb.get? pb = none)
    (size step visits x : Nat) (u1 u2 u3 u4 : Tok) (z1 : 5 ≤ size) (z2 : size ≤ 12) (z3 : 1 ≤ step) (z4 : step ≤ size) (z5 : 1 ≤ visits) (z6 : visits ≤ size) (z7 : x < 5184) {xs : List Str} (hx : SV xs ws) (hw : xs.length = size) (hbd : ∀ k, k < visits → ∀ y ∈ visN x step k xs, y.cps.size < 1000) {c : Nat} (hc : (c : Int) = (-(visits : Int) * step).fmod size)
    (ret : ∀ h' tk' D (vs : List Value) n, (∀ b o, b ≠ pb → s.heap.get? b = some o → h'.get? b = some o) → s.heap.get? D = none → h'.get? D = some (listOf vs.toArray n) → SV (rotN c (visN x step visits xs)) vs → Q (.ref D) { s with heap := h', toks := tk' }) :
    wpAny (model pw w) A (call (.ref 182) [.ref lex, .int (size : Int) u1, .int (step : Int) u2, .int (visits : Int) u3, .int (x : Int) u4]) Q E s := by
  have d1 : @Ne Nat dx pb := ne_of_obj h2 h3 (by kernel_rfl)
  have d2 : @Ne Nat lex pb := ne_of_obj h1 h3 (by kernel_rfl)
  have d3 : @Ne Nat lex dx := ne_of_obj h1 h2 (by kernel_rfl)
  refine enterGC B hs [(lex, instObj 52 dx), (dx, dictOf (lexE w.params ln t1 st t2 pb k1 k2 k3 k4) e), (pb, listOf ws.toArray n)] ?_ (f := 182) (name := "_law_walk") (qual := "_law_walk") (binds := [("ring", .ref lex), ("size", .int (size : Int) u1), ("step", .int (step : Int) u2), ("visits", .int (visits : Int) u3), ("x", .int (x : Int) u4)]) (by k_is) (by k_is) (by omega) ?_ ?_ ?_ ?_ ?_ ?_ ?_
  · intro p hp
    rcases List.mem_cons.mp hp with rfl | hp
    · exact ⟨h1, hn1⟩
    rcases List.mem_cons.mp hp with rfl | hp
    · exact ⟨h2, hn2⟩
    rw [List.mem_singleton.mp hp]; exact ⟨h3, hn3⟩
  · exact BindsTo.of_eq rfl
  · exact rfl
  · decide +kernel
  · intro g L h₁ tk cells hg hg' hL F0 N0 Y X T hbg hlt
    have hb1 : (fp 69).2.1 = (fp 69).2.1 := rfl
    conv at hb1 => rhs; whnf
    have hb2 : (fp 69).2.2 = (fp 69).2.2 := rfl
    conv at hb2 => rhs; whnf
    simp only [hb2] at F0 Y
    replace F0 : Fr g L h₁ (fun y => if y = Str.ofString "x" then some (.int (x : Int) u4) else if y = Str.ofString "visits" then some (.int (visits : Int) u3) else if y = Str.ofString "step" then some (.int (step : Int) u2) else if y = Str.ofString "size" then some (.int (size : Int) u1) else none) := F0
    rw [hb1, hb2]
    clear hb1 hb2
    obtain ⟨o1, hE, e1⟩ := CellsAre.one Y
    subst hE
    clear Y
    replace e1 : o1.data = .cell (some (.ref lex)) := e1
    have hL1 : @Ne Nat (L + 1) pb := Nat.ne_of_gt (Nat.lt_succ_of_lt (hlt (pb, _) (by k_memK)))
    have hL2 : L ≠ pb := Nat.ne_of_gt (hlt (pb, _) (by k_memK))
    simp only [List.cons_append, List.nil_append] at N0
    k_steps
    rename IsRange _ _ _ _ _ _ _ _ => rgX
    rename Fr _ _ _ _ => F2
    rename News _ _ _ _ => N2
    refine kll_range (n := 16) ?_ F2 N2 rgX (by decide) (by decide) (by decide) ?_
    · exact hh
    intro D3 us c3 h3 tk3 F3 N3 l3 hI3
    k_lt l3
    clear F2 N2 rgX
    k_steps
    show wpAny _ _ _ _ _ _
    rename Fr _ _ _ _ => F2
    rename News _ _ _ _ => N2
    rw [mW_in] at F2
    refine walk_for (us := _) (nu := 0) (e := e) (n := n) (ln := ln) (t1 := t1) (t2 := t2) (k1 := k1) (k2 := k2) (k3 := k3) (k4 := k4) (st := st) (o1 := o1) B hbg ?_ ?_ X T hn1 hn2 hn3 e1 d1 d2 hL1 hL2 z1 z2 z3 z4 z5 z6 z7 hx (by intro q; rw [q] at hw; simp at hw; omega) (by omega) hbd (by assumption) (by omega) F2 (fun p hp => N2 p ?_) ?_
    · show A.depth + 1 + 1 < _
      omega
    · exact hh
    · simp only [List.mem_cons, List.not_mem_nil, or_false] at hp ⊢
      rcases hp with h | h | h | h | h
      · exact .inr (.inr (.inr (.inl h)))
      · exact .inr (.inr (.inr (.inr (.inl h))))
      · exact .inr (.inr (.inr (.inr (.inr (.inl h)))))
      · exact .inr (.inr (.inr (.inr (.inr (.inr h)))))
      · exact .inl h
    intro h4 tk4 to4 vo4 ws4 n4 F4 N4 hx4
    clear F2 N2
    k_steps
    show wpAny _ _ _ _ _ _
    have hl4 := visN_length x step xs visits
    refine rot_for (stm := rotFor2) (c := c) B hbg ?_ ?_ X T hn1 hn2 hn3 e1 d1 d2 ?_ hL1 hL2 z1 z2 z3 z4 z5 z6 hx4 (by intro q; rw [q] at hl4; simp at hl4; omega) (by omega) F4 N4 (.inr ⟨rfl, hc⟩) ?_
    · show A.depth + 1 + 1 < _
      omega
    · exact hh
    · intro p hp
      rw [List.mem_singleton.mp hp]
      show @Ne Nat _ pb
      omega
    intro h5 tk5 to5 ws5 n5 F5 N5 hx5
    clear F4 N4
    obtain ⟨ex, hex, N6⟩ : ∃ ex, (∀ p ∈ ex, p.1 ≠ pb) ∧ News g L h5 ((L + 1, o1) :: ringL w.params lex dx pb ln t1 st t2 k1 k2 k3 k4 e ws5 n5 ex) := ⟨_, by
      intro p hp
      rw [List.mem_singleton.mp hp]
      show @Ne Nat _ pb
      omega, N5⟩
    clear N5
    have hl5 := rotN_length c (visN x step visits xs)
    generalize hR : rotN c (visN x step visits xs) = R at hx5 hl5 ret
    have hgp : g.get? pb = none := (N6 (pb, _) (.tail _ (.tail _ (.tail _ (.head _))))).2.2
    k_steps
    rename Fr _ _ _ _ => F7
    rename News _ _ _ _ => N7
    refine CompSrc.range ?_ F7 N7 (by assumption) (sm_nat (by omega)) (rs_nat _) (by simp [sizeLine]; omega) fun g1 => ?_
    · exact hh
    clear F7 N7
    refine restUN (fun i ys news => ∃ ws n, news = ((L + 1, o1) :: ringL w.params lex dx pb ln t1 st t2 k1 k2 k3 k4 e ws n ex) ∧ SV (R.drop i) ws ∧ SV (R.take i) ys) ⟨ws5, n5, rfl, by simpa using hx5, [], rfl, rfl⟩ ?_ ?_
    · rintro i ys news hi ⟨ws6, n6, rfl, hw6, hy6⟩ v I oI C oC D m₂ h tk E' ⟨u, rfl⟩ NS hm₂ F1 N1 off d
      have hir : i < R.length := by omega
      rw [List.drop_eq_getElem_cons hir] at hw6
      obtain ⟨tx, ws7, rfl, hw7⟩ := hw6.cons
      have hl7 := hw7.length
      k_steps
      show wpAny _ _ (call (.ref 42) [.ref lex]) _ _ _
      refine c_pop B ?_ ?_ ?_ lex dx pb R[i] tx ws7 n6 ln t1 t2 k1 k2 k3 k4 st e (N1 (lex, _) (.tail _ (.tail _ (.tail _ (.tail _ (.head _)))))).1 (N1 (dx, _) (.tail _ (.tail _ (.tail _ (.tail _ (.tail _ (.head _))))))).1 (N1 (pb, _) (.tail _ (.tail _ (.tail _ (.tail _ (.tail _ (.tail _ (.head _)))))))).1 hn1 hn2 hn3 (by simp at hl7; omega) ?_
      · exact hbOf hbg F1.keep
      · show A.depth + 1 < _
        omega
      · exact hh
      intro h8 tk8 hk8 hp8
      have oo := off.mem
      have qI := (oo (pb, _) (.tail _ (.tail _ (.tail _ (.head _)))))
      have F8 := fr_upd F1 hk8 hL2 hgp
      have U1 : Upd pb (listOf (Value.str R[i] tx :: ws7).toArray n6) (listOf ws7.toArray (n6 + 1)) ((I, oI) :: (C, oC) :: (D, lst ys) :: (L + 1, o1) :: ringL w.params lex dx pb ln t1 st t2 k1 k2 k3 k4 e (.str R[i] tx :: ws7) n6 ex) ((I, oI) :: (C, oC) :: (D, lst ys) :: (L + 1, o1) :: ringL w.params lex dx pb ln t1 st t2 k1 k2 k3 k4 e ws7 (n6 + 1) ex) :=
        .tail (Ne.symm qI.1) (.tail (Ne.symm qI.2.1) (.tail (Ne.symm qI.2.2) (.tail hL1 (.tail d2 (.tail d1 (.head hex))))))
      have N8 := news_upd N1 U1 hk8 hp8
      refine CompEnd.intro F8 N8 _ (fun p hp => hp) (Off3.of fun p hp => ?_) trivial ⟨ws7, n6 + 1, rfl, hw7, ?_⟩
      · simp only [List.mem_cons] at hp
        rcases hp with rfl | rfl | rfl | rfl | hp
        · exact oo (L + 1, o1) (.head _)
        · exact oo (lex, _) (.tail _ (.head _))
        · exact oo (dx, _) (.tail _ (.tail _ (.head _)))
        · exact qI
        · exact oo p (.tail _ (.tail _ (.tail _ (.tail _ hp))))
      · rw [List.take_succ_eq_append_getElem hir]
        exact hy6.snoc
    · rintro ys news ⟨ws6, n6, rfl, hw6, hy6⟩ D h tk F1 N1 o1'
      rw [List.take_of_length_le (by omega)] at hy6
      have hD := N1 (D, lst ys) (.head _)
      k_steps
      refine ret _ _ D ys ys.length (fun b o hb e => ?_) ?_ hD.1 hy6
      · by_cases b1 : b = lex
        · subst b1; rw [h1] at e; cases e; exact (N1 (b, _) (.tail _ (.tail _ (.head _)))).1
        by_cases b2 : b = dx
        · subst b2; rw [h2] at e; cases e; exact (N1 (b, _) (.tail _ (.tail _ (.tail _ (.head _))))).1
        exact F1.keep b o (hg b o e (by simp [b1, b2, hb]))
      · cases q : s.heap.get? D with
        | none => rfl
        | some o =>
          obtain ⟨_, q1, q2, q3, _⟩ := o1'
          have := hg D o q (by
            intro hm
            simp only [List.map_cons, List.map_nil, List.mem_cons, List.not_mem_nil, or_false] at hm
            rcases hm with rfl | rfl | rfl
            · exact q1 rfl
            · exact q2 rfl
            · exact q3 rfl)
          rw [hD.2.2] at this
          cases this
  · rfl
  · rfl
  · rfl
end
end Mine
end
section
open PySem PySem.W PySem.Calls PyProof.Rows PySem.Spec
set_option maxRecDepth 100000
set_option maxHeartbeats 4000000
namespace Mine
local macro_rules | `(tactic| walk_at "pyIter ref") => `(tactic| (k_here; (with_reducible show wpAny _ _ (pyIter (Value.ref _)) (fun it s₂ => TurnsAt _ _ _ _ _ _ _ _ _ it s₂) _ _); refine Halt.of ?_))
theorem item_strs {prog : Program} {w : World} {A : Around} {E : Value → Shared → Prop} {s : Shared} {value slice : PySem.Expr} {a : Addr} {lv : List (Str × Tok)} {k : Int} {u : Tok} {Q : Value → Shared → Prop}
    (hl : s.heap.IsList a (strValues lv).toArray) (h0 : 0 ≤ k) (h1 : k.toNat < lv.length) (hfit : k < 2 ^ 63) (h : ∀ t, Q (.str ((lv.map (·.1)).getD k.toNat ⟨#[]⟩) t) s)
    (hs : subscripted slice false (.ref a) (.int k u) = operate [.ref a, .int k u] (getItem (.ref a) (.int k u)) := by with_unfolding_all rfl) :
    wpAny (model prog w) A (subscriptTail value slice (.ref a) (.int k u)) Q E s := by
  have hv : (strValues lv)[k.toNat]? = some (.str ((lv.map (·.1)).getD k.toNat ⟨#[]⟩) (lv[k.toNat].2)) := by
    unfold strValues
    rw [List.getElem?_map, List.getElem?_eq_getElem h1, List.getD_eq_getElem?_getD, List.getElem?_map, List.getElem?_eq_getElem h1]
    rfl
  exact tail_any hl.typeIs slot_list_getitem.lookup (wpAny_getItem_list hl h0 hfit (by simpa using hv) (h _)) hs
noncomputable def cardFor : Stmt := nth (fp 66).2.1 4
noncomputable def cardT (W : Str) (y : Nat) : Nat → Str
  | 0 => Str.ofString ""
  | k + 1 => cardT W y k ++ (if ((y : Int) + k).fmod 3 = 0 then Str.ofString "\\" ++ Txt.item W k else Txt.item W k)
noncomputable abbrev mC (ko : Option Value) (tx : Str) (tt : Tok) (W : Str) (tw : Tok) (Ls Ds : Addr) (number : Int) (u1 : Tok) (x : Int) (u2 : Tok) (y : Int) (u3 : Tok) : Str → Option Value := fun z =>
  if z = Str.ofString "text" then some (.str tx tt) else if z = Str.ofString "k" then ko else if z = Str.ofString "word" then some (.str W tw) else if z = Str.ofString "starts" then some (.ref Ls) else if z = Str.ofString "signs" then some (.ref Ds)
  else if z = Str.ofString "y" then some (.int y u3) else if z = Str.ofString "x" then some (.int x u2) else if z = Str.ofString "number" then some (.int number u1) else none
theorem mC_eq {ko ko' : Option Value} {tx tx' : Str} {tt tt' : Tok} {W : Str} {tw : Tok} {Ls Ds : Addr} {number : Int} {u1 : Tok} {x : Int} {u2 : Tok} {y : Int} {u3 : Tok} :
    (fun z => if z = Str.ofString "text" then some (.str tx' tt') else if z = Str.ofString "k" then ko' else mC ko tx tt W tw Ls Ds number u1 x u2 y u3 z) = mC ko' tx' tt' W tw Ls Ds number u1 x u2 y u3 := by
  funext z
  by_cases e1 : z = Str.ofString "text"
  · simp only [mC, if_pos e1]
  by_cases e2 : z = Str.ofString "k"
  · simp only [mC, if_neg e1, if_pos e2]
  simp only [mC, if_neg e1, if_neg e2]
inductive JCard (W : Str) (tw : Tok) (Ls Ds : Addr) (number : Int) (u1 : Tok) (x : Int) (u2 : Tok) (y : Nat) (u3 : Tok) (k : Nat) (m : Str → Option Value) (news : List (Addr × Obj)) : Prop
  | mk (ko : Option Value) (tt : Tok) (h1 : m = mC ko (cardT W y k) tt W tw Ls Ds number u1 x u2 y u3) (h2 : news = []) : JCard W tw Ls Ds number u1 x u2 y u3 k m news
theorem len_app (x y : Str) : (x ++ y).length = x.length + y.length := by
  show (x.cps ++ y.cps).size = _
  rw [Array.size_append]; rfl
theorem cardT_len (W : Str) (y : Nat) : ∀ k, (cardT W y k).length ≤ 2 * k
  | 0 => Nat.zero_le _
  | k + 1 => by
    have ih := cardT_len W y k
    unfold cardT
    rw [len_app]
    have e1 : (Txt.item W k).length = 1 := rfl
    split
    · rw [len_app, e1]
      have e2 : (Str.ofString "\\").length = 1 := by decide
      omega
    · rw [e1]; omega
section
variable {w : World} {mg mb : Str → Option Value} {hb g : Heap} {A : Around} {s : Shared} {Q : Flow → Shared → Prop} {L : Addr}
theorem card_for (hh : A.handled = none) (X : (KF w.params).In g) (T : Top vq looseF (ExcName.means hb) mg mb g) {number x y : Nat} {u1 u2 u3 tw tt : Tok} {Ls Ds : Addr} {W : Str} (hW : W.length ≤ 3)
    (F : Fr g L s.heap (mC none (Str.ofString "") tt W tw Ls Ds number u1 x u2 y u3)) (N : News g L s.heap [])
    (fin : ∀ h tk ko tt, Fr g L h (mC ko (cardT W y W.length) tt W tw Ls Ds number u1 x u2 y u3) → Q .next { s with heap := h, toks := tk }) :
    wpAny (model pw w) A (exec cardFor (envOf (Str.ofString "_law_card") (fp 66).2.2 L 165 (.ref 164))) Q (fun _ _ => False) s := by
  have hr1 : cardFor = cardFor := rfl
  conv at hr1 => rhs; whnf
  have hb2 : (fp 66).2.2 = (fp 66).2.2 := rfl
  conv at hb2 => rhs; whnf
  rw [hr1, hb2]
  clear hr1 hb2
  refine For_turns F ?_
  k_steps
  show wpAny _ _ _ _ _ _
  rename IsRange _ _ _ _ _ _ _ _ => R2
  rename Fr _ _ _ _ => F0
  rename News _ _ _ _ => N0
  refine iter_rangeT (n := W.length) hh F0 N0 R2 (sm_nat (by omega)) (rs_nat _) fun I hIlt => ?_
  refine restF (rangeI 0 W.length) (JCard W tw Ls Ds number u1 x u2 y u3) ⟨none, tt, rfl, rfl⟩ trivial ?_ ?_
  · rintro k a m₁ news₁ ha ⟨ko, tt', rfl, rfl⟩ - v h tk hv F1
    obtain ⟨hk, rfl⟩ := rangeI_get ha
    obtain ⟨t', rfl⟩ := hv
    refine AllObj.cons fun o ho => AllObj.nil fun N1 => ?_
    simp only [List.cons_append, List.nil_append] at N1
    have hlen : (cardT W y k).length ≤ 10 := Nat.le_trans (cardT_len W y k) (by omega)
    k_steps
    · rw [mC_eq]
      have e : cardT W y (k + 1) = cardT W y k ++ (Str.ofString "\\" ++ Txt.item W (0 + (k : Int))) := by
        rw [Int.zero_add]
        rename ((y : Int) + (0 + (k : Int))).fmod 3 = 0 => hq
        rw [Int.zero_add] at hq
        show cardT W y k ++ _ = _
        rw [if_pos hq]
      rw [← e]
      exact ⟨_, _, rfl, rfl⟩
    · rw [mC_eq]
      have e : cardT W y (k + 1) = cardT W y k ++ Txt.item W (0 + (k : Int)) := by
        rw [Int.zero_add]
        rename ¬ ((y : Int) + (0 + (k : Int))).fmod 3 = 0 => hq
        rw [Int.zero_add] at hq
        show cardT W y k ++ _ = _
        rw [if_neg hq]
      rw [← e]
      exact ⟨_, _, rfl, rfl⟩
  · rintro m₁ news₁ ⟨ko, tt', rfl, rfl⟩ h tk F1 N1
    have e : (rangeI 0 W.length).length = W.length := by simp [rangeI]
    rw [e] at F1
    exact fin h tk _ _ F1
end
end Mine
end
section
open PySem PySem.W PySem.Calls PyProof.Rows PySem.Spec
set_option maxRecDepth 100000
set_option maxHeartbeats 4000000
namespace Mine
local macro_rules | `(tactic| walk_at "exec For Name Call cons nil") => `(tactic| (k_here; with_reducible refine Mine.hFor ?_))
noncomputable def callRecv : PySem.Expr → PySem.Expr
  | .Call (.Attribute v _ _) _ _ _ => v
  | e => e
noncomputable def strOf : PySem.Expr → Str
  | .Constant (.str v) _ _ => v
  | _ => ⟨#[]⟩
noncomputable def signsStr : Str := strOf (callRecv (asgV (nth (fp 66).2.1 0)))
noncomputable def signsL : List Str := Txt.split signsStr (Str.ofString " ")
theorem signs_ok : (Nat.beq signsL.length 48 && signsL.all fun s => Nat.ble s.length 3) = true := by kernel_rfl
theorem signs_len : signsL.length = 48 := Nat.eq_of_beq_eq_true (Bool.and_eq_true_iff.mp signs_ok).1
theorem signs_le {s : Str} (h : s ∈ signsL) : s.length ≤ 3 := Nat.le_of_ble_eq_true (List.all_eq_true.mp (Bool.and_eq_true_iff.mp signs_ok).2 s h)
noncomputable def startsL : List Int := [97, 65, 119808, 119860, 119912, 120016, 120172, 120224, 120276, 120328, 120380, 120432]
theorem starts_rng : ∀ n ∈ startsL, 65 ≤ n ∧ n ≤ 120432 := by decide
theorem starts_len : startsL.length = 12 := by decide
noncomputable def cardW (number x : Nat) : Str := if number < 256 then signsL.getD (number - 208) ⟨#[]⟩ else ⟨#[(startsL.getD ((x : Int).fmod 12).toNat 0 + number - 256).toNat]⟩
noncomputable def cardS (number x y : Nat) : Str :=
  (if (y : Int).fmod 2 = 1 then Str.ofString "\"" ++ cardT (cardW number x) y (cardW number x).length ++ Str.ofString "\"" else cardT (cardW number x) y (cardW number x).length) ++ Txt.item (Str.ofString " \n\t\r") (((y : Int).fdiv 2).fmod 4)
theorem look3 {a b c : Str} {va vb vc : Value} : (fun z => List.lookup z [(a, va), (b, vb), (c, vc)].reverse) = fun z => if z = c then some vc else if z = b then some vb else if z = a then some va else none := by
  funext z
  show List.lookup z [(c, vc), (b, vb), (a, va)] = _
  have ff : ∀ {d : Str}, z ≠ d → (z == d) = false := fun h => beq_false_of_ne h
  by_cases e1 : z = c
  · subst e1; simp [List.lookup]
  by_cases e2 : z = b
  · simp only [List.lookup, ff e1, if_neg e1]; subst e2; simp
  by_cases e3 : z = a
  · simp only [List.lookup, ff e1, ff e2, if_neg e1, if_neg e2]; subst e3; simp
  simp only [List.lookup, ff e1, ff e2, ff e3, if_neg e1, if_neg e2, if_neg e3]
theorem mC_in {tx : Str} {tt : Tok} {W : Str} {tw : Tok} {Ls Ds : Addr} {number : Int} {u1 : Tok} {x : Int} {u2 : Tok} {y : Int} {u3 : Tok} :
    (fun z => if z = Str.ofString "text" then some (.str tx tt) else if z = Str.ofString "word" then some (.str W tw) else if z = Str.ofString "starts" then some (.ref Ls) else if z = Str.ofString "signs" then some (.ref Ds)
      else if z = Str.ofString "y" then some (.int y u3) else if z = Str.ofString "x" then some (.int x u2) else if z = Str.ofString "number" then some (.int number u1) else none) = mC none tx tt W tw Ls Ds number u1 x u2 y u3 := by
  funext z
  by_cases e : z = Str.ofString "k"
  · subst e; rfl
  simp only [mC, if_neg e]
theorem cardW_len {number x : Nat} (z1 : 208 ≤ number) (z2 : number ≤ 267) : (cardW number x).length ≤ 3 := by
  unfold cardW
  split
  · refine signs_le ?_
    have h : number - 208 < signsL.length := by rw [signs_len]; omega
    rw [List.getD_eq_getElem?_getD, List.getElem?_eq_getElem h]
    exact List.getElem_mem h
  · exact Nat.le_of_ble_eq_true rfl
section
variable {w : World} {mg mb : Str → Option Value} {hb : Heap} {A : Around} {s : Shared} {Q E : Value → Shared → Prop}
theorem c_card (B : Base w mg mb hb) (hs : Sub hb s.heap) (hA : A.depth < recursionLimit) (hh : A.handled = none) (number x y : Nat) (u1 u2 u3 : Tok) (z1 : 208 ≤ number) (z2 : number ≤ 267) (z3 : x < 5184) (z4 : y < 5184)
    (ret : ∀ h' tk' t', Sub s.heap h' → Q (.str (cardS number x y) t') { s with heap := h', toks := tk' }) :
    wpAny (model pw w) A (call (.ref 165) [.int (number : Int) u1, .int (x : Int) u2, .int (y : Int) u3]) Q E s := by
  refine enterG B hs [] (fun p hp => nomatch hp) (f := 165) (name := "_law_card") (qual := "_law_card") (binds := [("number", .int (number : Int) u1), ("x", .int (x : Int) u2), ("y", .int (y : Int) u3)]) (by k_is) (by k_is) (by omega) ?_ ?_ ?_ ?_ ?_ ?_ ?_
  · exact BindsTo.of_eq rfl
  · exact locs rfl
  · intro g L h₁ hg hg' hL F0 N0 X T hbg
    have hb1 : (fp 66).2.1 = (fp 66).2.1 := rfl
    conv at hb1 => rhs; whnf
    have hb2 : (fp 66).2.2 = (fp 66).2.2 := rfl
    conv at hb2 => rhs; whnf
    rw [hb1, hb2]
    clear hb1 hb2
    rw [look3] at F0
    k_steps
    · rename List.map _ _ = _ => hsp
      rename Fr _ _ _ _ => F2
      rename News _ _ _ _ => N2
      replace hsp : List.map _ _ = signsL := hsp
      have hlen := congrArg List.length hsp
      rw [List.length_map, signs_len] at hlen
      refine item_strs (isL (n := 0) N2 (by k_memK)) (by omega) (by omega) (by omega) fun t3 => ?_
      have hW : cardW number x = signsL.getD ((number : Int) - 208).toNat ⟨#[]⟩ := by
        unfold cardW
        rw [if_pos (by omega)]
        congr 1
        omega
      rw [hsp, ← hW]
      k_steps
      show wpAny _ _ _ _ _ _
      rename Fr _ _ _ _ => F2
      rw [mC_in] at F2
      refine card_for (W := cardW number x) ?_ X T ?_ F2 (fun p hp => nomatch hp) ?_
      · exact hh
      · exact cardW_len z1 z2
      intro h5 tk5 ko5 tt5 F5
      have N5 : News g L h5 [] := fun p hp => nomatch hp
      have hl5 := cardT_len (cardW number x) y (cardW number x).length
      have hw5 := cardW_len (x := x) z1 z2
      clear F2
      k_steps
      · rename Fr _ _ _ _ => F6
        have e : cardS number x y = Str.ofString "\"" ++ cardT (cardW number x) y (cardW number x).length ++ Str.ofString "\"" ++ Txt.item (Str.ofString " \n\t\r") (((y : Int).fdiv 2).fmod 4) := by
          unfold cardS
          rw [if_pos (by assumption)]
        rw [e] at ret
        exact ret _ _ _ fun b o e => F6.keep b o (hg b o e (by simp))
      · rename Fr _ _ _ _ => F6
        have e : cardS number x y = cardT (cardW number x) y (cardW number x).length ++ Txt.item (Str.ofString " \n\t\r") (((y : Int).fdiv 2).fmod 4) := by
          unfold cardS
          rw [if_neg (by assumption)]
        rw [e] at ret
        exact ret _ _ _ fun b o e => F6.keep b o (hg b o e (by simp))
    · have hcn : 65 ≤ startsL.getD ((x : Int).fmod 12).toNat 0 ∧ startsL.getD ((x : Int).fmod 12).toNat 0 ≤ 120432 := by
        have h1 := Int.fmod_lt_of_pos (x : Int) (b := 12) (by decide)
        have h2 := Int.fmod_nonneg (a := (x : Int)) (b := 12) (by omega) (by decide)
        exact starts_rng _ (getD_mem (by rw [starts_len]; omega))
      have hW : cardW number x = ⟨#[(startsL.getD ((x : Int).fmod 12).toNat 0 + number - 256).toNat]⟩ := by
        unfold cardW
        rw [if_neg (by omega)]
      show wpAny _ _ (call (.builtin "chr") [.int (startsL.getD ((x : Int).fmod 12).toNat 0 + number - 256) _]) _ _ _
      generalize hcc : startsL.getD ((x : Int).fmod 12).toNat 0 = cn at hcn hW ⊢
      obtain ⟨hcn1, hcn2⟩ := hcn
      k_steps
      show wpAny _ _ _ _ _ _
      rename Fr _ _ _ _ => F2
      rw [← hW] at F2
      rw [mC_in] at F2
      refine card_for (W := cardW number x) ?_ X T ?_ F2 (fun p hp => nomatch hp) ?_
      · exact hh
      · exact cardW_len z1 z2
      intro h5 tk5 ko5 tt5 F5
      have N5 : News g L h5 [] := fun p hp => nomatch hp
      have hl5 := cardT_len (cardW number x) y (cardW number x).length
      have hw5 := cardW_len (x := x) z1 z2
      clear F2
      k_steps
      · rename Fr _ _ _ _ => F6
        have e : cardS number x y = Str.ofString "\"" ++ cardT (cardW number x) y (cardW number x).length ++ Str.ofString "\"" ++ Txt.item (Str.ofString " \n\t\r") (((y : Int).fdiv 2).fmod 4) := by
          unfold cardS
          rw [if_pos (by assumption)]
        rw [e] at ret
        exact ret _ _ _ fun b o e => F6.keep b o (hg b o e (by simp))
      · rename Fr _ _ _ _ => F6
        have e : cardS number x y = cardT (cardW number x) y (cardW number x).length ++ Txt.item (Str.ofString " \n\t\r") (((y : Int).fdiv 2).fmod 4) := by
          unfold cardS
          rw [if_neg (by assumption)]
        rw [e] at ret
        exact ret _ _ _ fun b o e => F6.keep b o (hg b o e (by simp))
  · rfl
  · rfl
  · rfl
  · decide
end
end Mine
end
section
open PySem PySem.W PySem.Calls PyProof.Rows PySem.Spec
set_option maxRecDepth 100000
set_option maxHeartbeats 4000000
namespace Mine
section
variable {w : World} {mg mb : Str → Option Value} {hb : Heap} {A : Around} {s : Shared} {R : Result → Shared → Prop}
theorem enterGc {name qual : Str} {params : Arguments} {body : List Stmt} {scope : Scope} {dV kV doc pm cdv ct oc : Value} {an od : Option Addr} {osl : Array (Option Value)} {f : Addr} {args : List Value} {binds : List (Str × Value)}
    (B : Base w mg mb hb) (hs : Sub hb s.heap) (hid : List (Addr × Obj)) (hh : ∀ p ∈ hid, s.heap.get? p.1 = some p.2 ∧ hb.get? p.1 = none)
    (ho : (KF w.params).lookup f = some ⟨oc, od, .func (fnOf name qual params body scope dV kV doc pm an cdv ct), osl⟩) (hcd : codeIn (KF w.params) cdv qual = true) (hroom : A.depth < recursionLimit)
    (hbind : BindsTo s (fnOf name qual params body scope dV kV doc pm an cdv ct) ⟨args, []⟩ binds) (hloc : ∀ y ∈ binds, scope.names.lookup y.1 = some .local)
    (h : ∀ g L h₁, (∀ b o, s.heap.get? b = some o → b ∉ hid.map (·.1) → g.get? b = some o) → (∀ b, s.heap.get? b = none → g.get? b = none) → L = s.heap.objs.size → Fr g L h₁ (fun y => binds.reverse.lookup y) → News g L h₁ hid → (KF w.params).In g → Top vq looseF (ExcName.means hb) mg mb g → Sub hb g → (∀ p ∈ hid, p.1 < L) →
      wpAny (model pw w) (A.deeper (envOf qual scope L f cdv)) (execs body (envOf qual scope L f cdv)) (fun fl s' => R (.ok (.ret (match fl with | .ret v => v | _ => .none))) s') (fun _ _ => False) { s with heap := h₁, toks := s.toks + binds.length })
    (hco : scope.isCoroutine = false) (hgen : scope.isGenerator = false) (hk : scope.kind = .function) (hcell : ∀ x ∈ scope.names, x.2 ≠ .cell) :
    codeAny (model pw w) A (.call (.ref f) ⟨args, []⟩) R s := by
  have X : (KF w.params).In s.heap := B.K.keeps hs
  have nm : ∀ b o, hb.get? b = some o → b ∉ hid.map (·.1) := fun b o e q => by
    obtain ⟨p, hp, rfl⟩ := List.mem_map.mp q
    rw [(hh p hp).2] at e; cases e
  have st : ∀ b o, hb.get? b = some o → (hideAll s.heap (hid.map (·.1))).get? b = some o := fun b o e => hideAll_get _ (hs b o e) (nm b o e)
  refine codeAny_call_def (fd := fnOf name qual params body scope dV kV doc pm an cdv ct) (body := body) (binds := binds) hroom (X _ _ ho) rfl (B.T.nolimit.keeps hs) (codeRec_of X hcd) rfl hbind hcell hloc (fun h₁ hns hk₁ => ?_) hco hgen hk
  refine wpAny_mono (h (hideAll s.heap (hid.map (·.1))) s.heap.objs.size h₁ (fun b o e n => hideAll_get _ e n) (fun b e => ?_) rfl ⟨hns, fun b o e => hk₁ b o (of_hideAll _ e), Nat.le_of_eq (hideAll_size _ _)⟩
    (fun p hp => ⟨hk₁ _ _ (hh p hp).1, Nat.ne_of_lt (Heap.lt_size (hh p hp).1), hideAll_none _ (List.mem_map_of_mem hp)⟩) (B.K.keeps st) (B.T.keeps st) (fun b o e => st b o e) (fun p hp => Heap.lt_size (hh p hp).1)) (fun fl s' hl => hl) fun _ _ y => y.elim
  cases q : (hideAll s.heap (hid.map (·.1))).get? b with
  | none => rfl
  | some o => rw [of_hideAll _ q] at e; cases e
theorem c_init (B : Base w mg mb hb) (hs : Sub hb s.heap) (hA : A.depth < recursionLimit) (x dx : Addr) (st : Value) (h1 : s.heap.get? x = some (instObj 52 dx)) (h2 : s.heap.get? dx = some (dictOf [] 0)) (hn1 : hb.get? x = none) (hn2 : hb.get? dx = none) (hx : @LT.lt Nat _ dx x)
    (ret : ∀ h' tk' pb t1 t2 k1 k2 k3 k4 e, (∀ b o, b ≠ dx → s.heap.get? b = some o → h'.get? b = some o) → h'.get? dx = some (dictOf (lexE w.params 1 t1 st t2 pb k1 k2 k3 k4) e) → h'.get? pb = some (listOf #[] 0) → s.heap.get? pb = none → R (.ok (.ret .none)) { s with heap := h', toks := tk' }) :
    codeAny (model pw w) A (.call (.ref 28) ⟨[.ref x, st], []⟩) R s := by
  refine enterGc B hs [(x, instObj 52 dx), (dx, dictOf [] 0)] ?_ (f := 28) (name := "__init__") (qual := "_netrclex.__init__") (binds := [("self", .ref x), ("fp", st)]) (by k_is) (by k_is) hA ?_ ?_ ?_ ?_ ?_ ?_ ?_
  · intro p hp
    rcases List.mem_cons.mp hp with rfl | hp
    · exact ⟨h1, hn1⟩
    rw [List.mem_singleton.mp hp]; exact ⟨h2, hn2⟩
  · exact BindsTo.of_eq rfl
  · exact locs rfl
  · intro g L h₁ hg hg' hL F N X T hbg hlt
    have hb1 : (fq 1 0).2.1 = (fq 1 0).2.1 := rfl
    conv at hb1 => rhs; whnf
    have hb2 : (fq 1 0).2.2 = (fq 1 0).2.2 := rfl
    conv at hb2 => rhs; whnf
    rw [hb1, hb2]
    clear hb1 hb2
    k_steps
    rename Fr _ _ _ _ => F2
    rename News _ _ _ _ => N2
    have z := N2 _ (.head _)
    refine ret _ _ _ _ _ _ _ _ _ _ (fun b o hb e => chgG hg F2 N2 b o e ?_) (N2 (dx, _) (.tail _ (.tail _ (.head _)))).1 z.1 ?_
    · by_cases b1 : b = x
      · exact chg_hit b1 h1 (.tail _ (.head _)) e
      exact .inl (by simp [b1, hb])
    · cases q : s.heap.get? _ with
      | none => rfl
      | some o =>
        have := hg _ o q (by
          intro hm
          simp only [List.map_cons, List.map_nil, List.mem_cons, List.not_mem_nil, or_false] at hm
          rcases hm with hm | hm
          · have hm' : @Eq Nat _ x := hm
            omega
          · have hm' : @Eq Nat _ dx := hm
            omega)
        rw [z.2.2] at this
        cases this
  · rfl
  · rfl
  · rfl
  · decide
end
end Mine
end
section
open PySem PySem.W PySem.Calls PyProof.Rows PySem.Spec
set_option maxRecDepth 100000
set_option maxHeartbeats 4000000
namespace Mine
section
variable {w : World} {mg mb : Str → Option Value} {hb : Heap} {A : Around} {s : Shared} {Q E : Value → Shared → Prop}
theorem enterL {name qual : Str} {params : Arguments} {body : PySem.Expr} {scope : Scope} {cl : List (Str × Addr)} {pm ctv : Value} {c' f : Addr} {args : List Value} {binds : List (Str × Value)}
    (B : Base w mg mb hb) (hs : Sub hb s.heap) (hid : List (Addr × Obj)) (hh : ∀ p ∈ hid, s.heap.get? p.1 = some p.2 ∧ hb.get? p.1 = none)
    (ho : s.heap.get? f = some (kla_obj name qual params body scope cl pm c' ctv)) (hcd : s.heap.CodeRec (.ref c') qual) (hroom : A.depth < recursionLimit)
    (hbind : bindArgs (kla_fn name qual params body scope cl pm (.ref c') ctv) ⟨args, []⟩ = pure binds) (hloc : ∀ y ∈ binds, scope.names.lookup y.1 = some .local)
    (h : ∀ g L h₁, (∀ b o, s.heap.get? b = some o → b ∉ hid.map (·.1) → g.get? b = some o) → (∀ b, s.heap.get? b = none → g.get? b = none) → L = s.heap.objs.size → Fr g L h₁ (fun y => binds.reverse.lookup y) → News g L h₁ hid → (KF w.params).In g → Top vq looseF (ExcName.means hb) mg mb g → Sub hb g → (∀ p ∈ hid, p.1 < L) →
      wpAny (model pw w) (A.deeper (envX qual scope L f (.ref c') cl)) (eval body (envX qual scope L f (.ref c') cl)) Q (fun _ _ => False) { s with heap := h₁, toks := s.toks + binds.length })
    (hco : scope.isCoroutine = false) (hgen : scope.isGenerator = false) (hk : scope.kind = .function) (hcell : ∀ x ∈ scope.names, x.2 ≠ .cell) :
    wpAny (model pw w) A (call (.ref f) args) Q E s := by
  have X : (KF w.params).In s.heap := B.K.keeps hs
  have nm : ∀ b o, hb.get? b = some o → b ∉ hid.map (·.1) := fun b o e q => by
    obtain ⟨p, hp, rfl⟩ := List.mem_map.mp q
    rw [(hh p hp).2] at e; cases e
  have st : ∀ b o, hb.get? b = some o → (hideAll s.heap (hid.map (·.1))).get? b = some o := fun b o e => hideAll_get _ (hs b o e) (nm b o e)
  refine wpAny_call (kla_callFunE hroom ho rfl hco hgen rfl hcd ?_)
  rw [hbind]
  refine wpAny_pure (wpAny_newFunctionEnv hcell hloc (fun h₁ hns hsb => ⟨(B.T.nolimit.keeps hs).fresh _ hsb, ?_⟩) hk)
  have hk₁ : ∀ b o, s.heap.get? b = some o → h₁.get? b = some o := fun b o e => hsb.extBut b o (Nat.ne_of_lt (Heap.lt_size e)) (Heap.get?_push_of_some _ e)
  refine kla_codeExpr (wpAny_mono (h (hideAll s.heap (hid.map (·.1))) s.heap.objs.size h₁ (fun b o e n => hideAll_get _ e n) (fun b e => ?_) rfl ⟨hns, fun b o e => hk₁ b o (of_hideAll _ e), Nat.le_of_eq (hideAll_size _ _)⟩
    (fun p hp => ⟨hk₁ _ _ (hh p hp).1, Nat.ne_of_lt (Heap.lt_size (hh p hp).1), hideAll_none _ (List.mem_map_of_mem hp)⟩) (B.K.keeps st) (B.T.keeps st) (fun b o e => st b o e) (fun p hp => Heap.lt_size (hh p hp).1)) (fun fl s' hl => hl) fun _ _ y => y.elim)
  cases q : (hideAll s.heap (hid.map (·.1))).get? b with
  | none => rfl
  | some o => rw [of_hideAll _ q] at e; cases e
end
end Mine
end
section
open PySem PySem.W PySem.Calls PyProof.Rows PySem.Spec
set_option maxRecDepth 100000
set_option maxHeartbeats 400000
namespace Mine
noncomputable def lamE : PySem.Expr := asgV (nth (fp 68).2.1 3)
noncomputable def lamP : PySem.Expr → Arguments
  | .Lambda p _ _ _ => p
  | _ => ⟨[], [], none, [], [], none, []⟩
noncomputable def lamB : PySem.Expr → PySem.Expr
  | .Lambda _ b _ _ => b
  | e => e
noncomputable def lamS : PySem.Expr → Scope
  | .Lambda _ _ s _ => s
  | _ => { kind := .function, names := [], isGenerator := false, isCoroutine := false }
theorem kl_last_app : ∀ (l : List Value) (v : Value), kl_last (l ++ [v]) = some (l, v)
  | [], _ => rfl
  | a :: r, v => by
    show (match kl_last (r ++ [v]) with
      | some (p, y) => some (a :: p, y)
      | none => some ([], a)) = _
    rw [kl_last_app r v]
section
variable {w : World} {mg mb : Str → Option Value} {hb : Heap} {A : Around} {s : Shared} {Q E : Value → Shared → Prop}
theorem c_lam (B : Base w mg mb hb) (hs : Sub hb s.heap) (hA : A.depth < recursionLimit) {f c' cL D : Addr} {qual : Str} {pm ctv : Value} {o1 : Obj} {ws : List Value} {n : Nat} {u : Tok}
    (ho : s.heap.get? f = some (kla_obj "<lambda>" qual (lamP lamE) (lamB lamE) (lamS lamE) [(Str.ofString "left", cL)] pm c' ctv)) (hcd : s.heap.CodeRec (.ref c') qual)
    (h1 : s.heap.get? cL = some o1) (e1 : o1.data = .cell (some (.ref D))) (h2 : s.heap.get? D = some (listOf ws.toArray n)) (hn1 : hb.get? cL = none) (hn2 : hb.get? D = none) (hz : ws.length ≤ 2000)
    (none_ : ws = [] → ∀ h' tk' t', (∀ b o, s.heap.get? b = some o → h'.get? b = some o) → Q (.str (Str.ofString "") t') { s with heap := h', toks := tk' })
    (some_ : ∀ ws' v, ws = ws' ++ [v] → ∀ h' tk', (∀ b o, b ≠ D → s.heap.get? b = some o → h'.get? b = some o) → h'.get? D = some (listOf ws'.toArray (n + 1)) → Q v { s with heap := h', toks := tk' }) :
    wpAny (model pw w) A (call (.ref f) [.int 1 u]) Q E s := by
  have hq1 : lamE = lamE := rfl
  conv at hq1 => rhs; whnf
  have dne : @Ne Nat cL D := fun q => by
    have q' : cL = D := q
    rw [q', h2] at h1; cases h1; cases e1
  refine enterL B hs [(cL, o1), (D, listOf ws.toArray n)] ?_ ho hcd hA (binds := [("size", .int 1 u)]) ?_ ?_ ?_ ?_ ?_ ?_ ?_
  · intro p hp
    rcases List.mem_cons.mp hp with rfl | hp
    · exact ⟨h1, hn1⟩
    rw [List.mem_singleton.mp hp]; exact ⟨h2, hn2⟩
  · rfl
  · exact locs rfl
  · intro g L h₁ hg hg' hL F0 N0 X T hbg hlt
    rw [hq1]
    dsimp only [lamB, lamS]
    clear hq1
    iterate 3 walk1
    refine nameX_F N0 rfl (.head _) e1 ?_
    refine wpAny_truthy_list (items := ws.toArray) (isL (n := n) N0 (by k_memK)) (by simp; omega) ?_
    rcases List.eq_nil_or_concat ws with hw | ⟨ws', v, hw⟩
    · subst hw
      simp only [List.isEmpty_toArray, List.isEmpty_nil, Bool.not_true, Bool.false_eq_true, if_false]
      walk1
      refine none_ rfl _ _ _ fun b o e => chgG hg F0 N0 b o e ?_
      by_cases b1 : b = cL
      · exact chg_hit b1 h1 (.head _) e
      by_cases b2 : b = D
      · exact chg_hit b2 h2 (.tail _ (.head _)) e
      exact .inl (by simp [b1, b2])
    · rw [List.concat_eq_append] at hw
      have hne : (!ws.toArray.isEmpty) = true := by rw [hw]; simp
      rw [hne]
      simp only [if_true]
      iterate 8 walk1
      rw [if_pos rfl]
      walk1
      refine nameX_F N0 rfl (.head _) e1 ?_
      refine kl_method N0 (.tail _ (.head _)) PySem.F.slot_list_pop PySem.F.type_list_pop ?_
      walk1
      have hlast : kl_last (ws.toArray).toList = some (ws', v) := by
        show kl_last ws = _
        rw [hw]
        exact kl_last_app ws' v
      refine kl_pop (its := ws.toArray) (n := n) F0 N0 hlast (news' := [(cL, o1), (D, listOf ws'.toArray (n + 1))]) (.tail dne (.head (fun _ h => nomatch h))) (by show ws.length ≤ _; rw [sizeLine_eq]; omega) fun h5 F5 N5 => ?_
      refine some_ ws' v hw _ _ (fun b o hb e => chgG hg F5 N5 b o e ?_) (N5 _ (.tail _ (.head _))).1
      by_cases b1 : b = cL
      · exact chg_hit b1 h1 (.head _) e
      exact .inl (by simp [b1, hb])
  · rfl
  · rfl
  · rfl
  · decide
end
end Mine
end
section
open PySem PySem.W PySem.Calls PyProof.Rows PySem.Spec
set_option maxRecDepth 100000
set_option maxHeartbeats 1000000
namespace Mine
local macro_rules | `(tactic| walk_at "call ref") => `(tactic| (k_here; with_reducible refine Mine.hCall ?_))
noncomputable abbrev strE (P : Params) (t1 t2 : Tok) (pb : Addr) (k1 k2 k3 k4 k5 : Tok) (f : Addr) : List DictEntry :=
  lexE P 1 t1 .none t2 pb k1 k2 k3 k4 ++ [⟨PyData.keyHash P (Str.ofString "read"), .str (Str.ofString "read") k5, .ref f⟩]
noncomputable abbrev lamO (qual : Str) (cL : Addr) (pm : Value) (c' : Addr) (ctv : Value) : Obj := kla_obj "<lambda>" qual (lamP lamE) (lamB lamE) (lamS lamE) [(Str.ofString "left", cL)] pm c' ctv
section
variable {w : World} {mg mb : Str → Option Value} {hb : Heap} {A : Around} {s : Shared} {R : Result → Shared → Prop}
theorem c_read (B : Base w mg mb hb) (hs : Sub hb s.heap) (hA : A.depth + 1 < recursionLimit) (hh : A.handled = none) {lex dx pb sx sdx pb1 f c' cL D : Addr} {ln : Int} {t1 t2 k1 k2 k3 k4 a1 a2 b1 b2 b3 b4 b5 : Tok} {e e' : Nat} {qual : Str} {pm ctv : Value} {o1 oc : Obj} {vs : Array Value} {tq : Tok} {ws : List Value} {n : Nat}
    (h1 : s.heap.get? lex = some (instObj 52 dx)) (h2 : s.heap.get? dx = some (dictOf (lexE w.params ln t1 (.ref sx) t2 pb k1 k2 k3 k4) e)) (h3 : s.heap.get? sx = some (instObj 52 sdx)) (h4 : s.heap.get? sdx = some (dictOf (strE w.params a1 a2 pb1 b1 b2 b3 b4 b5 f) e'))
    (h5 : s.heap.get? f = some (lamO qual cL pm c' ctv)) (h6 : s.heap.get? c' = some oc) (h6' : oc.data = .fields vs) (h6'' : vs[1]? = some (.str qual tq)) (h7 : s.heap.get? cL = some o1) (e1 : o1.data = .cell (some (.ref D))) (h8 : s.heap.get? D = some (listOf ws.toArray n))
    (n1 : hb.get? lex = none) (n2 : hb.get? dx = none) (n3 : hb.get? sx = none) (n4 : hb.get? sdx = none) (n5 : hb.get? f = none) (n7 : hb.get? cL = none) (n8 : hb.get? D = none) (hz : ws.length ≤ 2000) (hln : 0 ≤ ln ∧ ln < 100000) (hcl : c' ∉ ([(lex, instObj 52 dx), (dx, dictOf (lexE w.params ln t1 (.ref sx) t2 pb k1 k2 k3 k4) e), (sx, instObj 52 sdx), (sdx, dictOf (strE w.params a1 a2 pb1 b1 b2 b3 b4 b5 f) e'), (f, lamO qual cL pm c' ctv), (cL, o1), (D, listOf ws.toArray n)] : List (Addr × Obj)).map (·.1))
    (dd : @Ne Nat dx sdx) (hv : ∀ v ∈ ws, ∃ c t, v = .str ⟨#[c]⟩ t)
    (none_ : ws = [] → ∀ h' tk' t', (∀ b o, s.heap.get? b = some o → h'.get? b = some o) → R (.ok (.ret (.str (Str.ofString "") t'))) { s with heap := h', toks := tk' })
    (some_ : ∀ ws' c tc, ws = ws' ++ [.str ⟨#[c]⟩ tc] → ∀ h' tk' ln' t1' e2, (∀ b o, b ≠ D → b ≠ dx → s.heap.get? b = some o → h'.get? b = some o) → h'.get? D = some (listOf ws'.toArray (n + 1)) →
      h'.get? dx = some (dictOf (lexE w.params ln' t1' (.ref sx) t2 pb k1 k2 k3 k4) e2) → 0 ≤ ln' ∧ ln' ≤ ln + 1 → R (.ok (.ret (.str ⟨#[c]⟩ tc))) { s with heap := h', toks := tk' }) :
    codeAny (model pw w) A (.call (.ref 35) ⟨[.ref lex], []⟩) R s := by
  refine enterGc B hs [(lex, instObj 52 dx), (dx, dictOf (lexE w.params ln t1 (.ref sx) t2 pb k1 k2 k3 k4) e), (sx, instObj 52 sdx), (sdx, dictOf (strE w.params a1 a2 pb1 b1 b2 b3 b4 b5 f) e'), (f, lamO qual cL pm c' ctv), (cL, o1), (D, listOf ws.toArray n)] ?_ (f := 35) (name := "_read_char") (qual := "_netrclex._read_char") (binds := [("self", .ref lex)]) (by k_is) (by k_is) (by omega) ?_ ?_ ?_ ?_ ?_ ?_ ?_
  · intro p hp
    simp only [List.mem_cons, List.not_mem_nil, or_false] at hp
    rcases hp with rfl | rfl | rfl | rfl | rfl | rfl | rfl
    · exact ⟨h1, n1⟩
    · exact ⟨h2, n2⟩
    · exact ⟨h3, n3⟩
    · exact ⟨h4, n4⟩
    · exact ⟨h5, n5⟩
    · exact ⟨h7, n7⟩
    · exact ⟨h8, n8⟩
  · exact BindsTo.of_eq rfl
  · exact locs rfl
  · intro g L h₁ hg hg' hL F0 N0 X T hbg hlt
    have hb1 : (fq 1 1).2.1 = (fq 1 1).2.1 := rfl
    conv at hb1 => rhs; whnf
    have hb2 : (fq 1 1).2.2 = (fq 1 1).2.2 := rfl
    conv at hb2 => rhs; whnf
    rw [hb1, hb2]
    clear hb1 hb2
    iterate 8 walk1
    have hfn : FnAt f h₁ := ⟨_, _, _, _, (N0 (f, lamO qual cL pm c' ctv) (.tail _ (.tail _ (.tail _ (.tail _ (.head _)))))).1⟩
    refine callWith_F hfn ?_
    iterate 3 walk1
    refine ⟨hfn, ?_⟩
    have hcode : h₁.CodeRec (.ref c') qual := by
      have hc := F0.keep c' oc (hg c' oc h6 hcl)
      exact ⟨c', oc, vs, tq, rfl, hc, h6', h6''⟩
    refine c_lam B ?_ ?_ (N0 (f, lamO qual cL pm c' ctv) (.tail _ (.tail _ (.tail _ (.tail _ (.head _)))))).1 hcode (N0 (cL, o1) (.tail _ (.tail _ (.tail _ (.tail _ (.tail _ (.head _))))))).1 e1 (N0 (D, listOf ws.toArray n) (.tail _ (.tail _ (.tail _ (.tail _ (.tail _ (.tail _ (.head _)))))))).1 n7 n8 hz ?_ ?_
    · exact hbOf hbg F0.keep
    · exact hA
    · intro hw h9 tk9 t9 sub9
      subst hw
      have F9 := F0.keeps sub9
      have N9 := N0.grown sub9
      clear F0 N0
      k_steps
      rename Fr _ _ _ _ => F2
      rename News _ _ _ _ => N2
      refine none_ rfl _ _ _ fun b o e => chgG hg F2 N2 b o e ?_
      by_cases b1 : b = lex
      · exact chg_hit b1 h1 (.head _) e
      by_cases b2 : b = dx
      · exact chg_hit b2 h2 (.tail _ (.head _)) e
      by_cases b3 : b = sx
      · exact chg_hit b3 h3 (.tail _ (.tail _ (.head _))) e
      by_cases b4 : b = sdx
      · exact chg_hit b4 h4 (.tail _ (.tail _ (.tail _ (.head _)))) e
      by_cases b5 : b = f
      · exact chg_hit b5 h5 (.tail _ (.tail _ (.tail _ (.tail _ (.head _))))) e
      by_cases b6 : b = cL
      · exact chg_hit b6 h7 (.tail _ (.tail _ (.tail _ (.tail _ (.tail _ (.head _)))))) e
      by_cases b7 : b = D
      · exact chg_hit b7 h8 (.tail _ (.tail _ (.tail _ (.tail _ (.tail _ (.tail _ (.head _))))))) e
      exact .inl (by simp [b1, b2, b3, b4, b5, b6, b7])
    · intro ws' v hw h9 tk9 hk9 hd9
      obtain ⟨c, tc, rfl⟩ := hv v (by rw [hw]; simp)
      have m1 : @Ne Nat lex D := ne_of_obj h1 h8 (by kernel_rfl)
      have m2 : @Ne Nat dx D := ne_of_obj h2 h8 (by kernel_rfl)
      have m3 : @Ne Nat sx D := ne_of_obj h3 h8 (by kernel_rfl)
      have m4 : @Ne Nat sdx D := ne_of_obj h4 h8 (by kernel_rfl)
      have m5 : @Ne Nat f D := ne_of_obj h5 h8 (by kernel_rfl)
      have m6 : @Ne Nat cL D := fun q => by
        have q' : cL = D := q
        rw [q', h8] at h7; cases h7; cases e1
      have p1 : @Ne Nat lex dx := ne_of_obj h1 h2 (by kernel_rfl)
      have p3 : @Ne Nat sx dx := ne_of_obj h3 h2 (by kernel_rfl)
      have p5 : @Ne Nat f dx := ne_of_obj h5 h2 (by kernel_rfl)
      have p6 : @Ne Nat cL dx := fun q => by
        have q' : cL = dx := q
        rw [q', h2] at h7; cases h7; cases e1
      have zD := N0 (D, listOf ws.toArray n) (.tail _ (.tail _ (.tail _ (.tail _ (.tail _ (.tail _ (.head _)))))))
      have F9 := fr_upd F0 hk9 (Ne.symm zD.2.1) zD.2.2
      have N9 := news_upd N0 (.tail m1 (.tail m2 (.tail m3 (.tail m4 (.tail m5 (.tail m6 (.head fun _ h => nomatch h))))))) hk9 hd9
      clear F0 N0 zD
      k_steps
      · rename Fr _ _ _ _ => F1
        rename News _ _ _ _ => N1
        refine set_dict (K := KF w.params) F1 X N1 (by k_inst) rfl (by k_is) (by k_is) (by k_is) (by k_is) rfl rfl (by k_upd) (Nat.le_of_ble_eq_true rfl) ?_
        intro h10 F2 N2
        clear F1 N1
        k_steps
        refine some_ ws' c tc hw _ _ (ln + 1) _ _ (fun b o hb hb' e => chgG hg F2 N2 b o e ?_) (N2 (D, listOf ws'.toArray (n + 1)) (.tail _ (.tail _ (.tail _ (.tail _ (.tail _ (.tail _ (.head _)))))))).1 (N2 (dx, _) (.tail _ (.head _))).1 (by omega)
        by_cases b1 : b = lex
        · exact chg_hit b1 h1 (.head _) e
        by_cases b3 : b = sx
        · exact chg_hit b3 h3 (.tail _ (.tail _ (.head _))) e
        by_cases b4 : b = sdx
        · exact chg_hit b4 h4 (.tail _ (.tail _ (.tail _ (.head _)))) e
        by_cases b5 : b = f
        · exact chg_hit b5 h5 (.tail _ (.tail _ (.tail _ (.tail _ (.head _))))) e
        by_cases b6 : b = cL
        · exact chg_hit b6 h7 (.tail _ (.tail _ (.tail _ (.tail _ (.tail _ (.head _)))))) e
        exact .inl (by simp [b1, b3, b4, b5, b6, hb, hb'])
      · rename Fr _ _ _ _ => F2
        rename News _ _ _ _ => N2
        refine some_ ws' c tc hw _ _ ln _ _ (fun b o hb hb' e => chgG hg F2 N2 b o e ?_) (N2 (D, listOf ws'.toArray (n + 1)) (.tail _ (.tail _ (.tail _ (.tail _ (.tail _ (.tail _ (.head _)))))))).1 (N2 (dx, _) (.tail _ (.head _))).1 (by omega)
        by_cases b1 : b = lex
        · exact chg_hit b1 h1 (.head _) e
        by_cases b3 : b = sx
        · exact chg_hit b3 h3 (.tail _ (.tail _ (.head _))) e
        by_cases b4 : b = sdx
        · exact chg_hit b4 h4 (.tail _ (.tail _ (.tail _ (.head _)))) e
        by_cases b5 : b = f
        · exact chg_hit b5 h5 (.tail _ (.tail _ (.tail _ (.tail _ (.head _))))) e
        by_cases b6 : b = cL
        · exact chg_hit b6 h7 (.tail _ (.tail _ (.tail _ (.tail _ (.tail _ (.head _)))))) e
        exact .inl (by simp [b1, b3, b4, b5, b6, hb, hb'])
  · rfl
  · rfl
  · rfl
  · decide
end
end Mine
end
section
open PySem PySem.W PySem.Calls PyProof.Rows PySem.Spec
set_option maxRecDepth 100000
namespace Mine
theorem slot_ci_next : Slot "callable_iterator" "__next__" "callable_iterator.__next__" :=
  .of (owner := "callable_iterator") (n := "__next__") (by rw [typeLookup_type, builtinLookup_eq_fast]; kernel_rfl) (by decide +kernel) (by decide +kernel) (by decide +kernel)
    (by first | exact .inl (by decide +kernel) | exact .inr (by decide +kernel)) (by rw [isSubtype_type]; kernel_rfl)
theorem slot_ci_iter : Slot "callable_iterator" "__iter__" "callable_iterator.__iter__" :=
  .of (owner := "callable_iterator") (n := "__iter__") (by rw [typeLookup_type, builtinLookup_eq_fast]; kernel_rfl) (by decide +kernel) (by decide +kernel) (by decide +kernel)
    (by first | exact .inl (by decide +kernel) | exact .inr (by decide +kernel)) (by rw [isSubtype_type]; kernel_rfl)
theorem entry_ci_next : entryFor table "callable_iterator.__next__" = some Builtin.«callable_iterator.__next__» := entryFor_of_tree (by kernel_rfl)
theorem args_ci_next (a : Value) : argsOk "callable_iterator.__next__" ⟨[a], []⟩ := by unfold argsOk; kernel_rfl
theorem entry_ci_iter : entryFor table "callable_iterator.__iter__" = some Builtin.«dict_keyiterator.__iter__» :=
  entryFor_alias (id' := "dict_keyiterator.__iter__") (by kernel_rfl) rfl (by decide +kernel) (by kernel_rfl)
theorem args_ci_iter (a : Value) : argsOk "callable_iterator.__iter__" ⟨[a], []⟩ := by unfold argsOk; kernel_rfl

theorem wpAny_callBorrowed {M : Model} {A : Around} {E : Value → Shared → Prop} {s : Shared} {f : Value} {pos : List Value} {Q : Value → Shared → Prop}
    (hc : codeAny M A (.call f ⟨pos, []⟩) (fun r s' => match r with | .ok (.ret v) => Q v s' | .ok _ => False | .error e => E e s') s) :
    wpAny M A (callBorrowed f pos) Q E s := fun Γ p hΓ => by
  unfold callBorrowed
  rw [Sem.wp_call]
  have := hc (Γ.enter (.call f ⟨pos, []⟩) none p) p rfl (hΓ.enter _ none p (by intro x; cases x))
  refine Eq.mp ?_ this
  congr 1
  funext r s'
  cases r with
  | error e => rfl
  | ok f => cases f <;> rfl
end Mine
end
section
open PySem PySem.W PySem.Calls PyProof.Rows PySem.Spec
set_option maxRecDepth 100000
namespace Mine
section
variable {prog : Program} {w : World} {A : Around} {E : Value → Shared → Prop} {s : Shared}
theorem slot_meth_call : Slot "method" "__call__" "method.__call__" :=
  .of (owner := "method") (n := "__call__") (by rw [typeLookup_type, builtinLookup_eq_fast]; kernel_rfl) (by decide +kernel) (by decide +kernel) (by decide +kernel)
    (by first | exact .inl (by decide +kernel) | exact .inr (by decide +kernel)) (by rw [isSubtype_type]; kernel_rfl)
theorem args_iter2 (a b : Value) : argsOk "iter" ⟨[a, b], []⟩ := by unfold argsOk; kernel_rfl
noncomputable abbrev ciObj (a b c : Value) : Obj := { cls := .type "callable_iterator", data := .fields #[a, b, c] }
theorem ci_make {q : Addr} {f self sv : Value} {Q : Value → Shared → Prop} (h : s.heap.get? q = some (methodObj f self))
    (hQ : Q (.ref s.heap.objs.size) { s with heap := s.heap.push (ciObj (.ref q) sv (.bool false)) }) : wpAny (model prog w) A (call (.builtin "iter") [.ref q, sv]) Q E s := by
  refine call_function_entry (by decide +kernel) (by decide +kernel) kdk_entry_iter (args_iter2 _ _) ?_
  show wpAny _ _ (specialOf (.ref q) "__call__" >>= _) _ _ s
  refine wpAny_bind (wpAny_specialOf (T := "method") ⟨_, h, rfl⟩ slot_meth_call.lookup ?_)
  rw [if_neg (by simp)]
  refine wpAny_bind (wpAny_rule ?_)
  refine wpAny_bind ?_
  unfold newFields
  refine wpAny_newObj_type ?_ (by size_fits)
  exact wpAny_pure ⟨_, rfl, hQ⟩
end
end Mine
end
section
open PySem PySem.W PySem.Calls PyProof.Rows PySem.Spec
set_option maxRecDepth 100000
namespace Mine
section
variable {prog : Program} {w : World} {A : Around} {E : Value → Shared → Prop} {s : Shared}
theorem ci_next (hh : A.handled = none) {I q F : Addr} {self : Value} {x0 : Str} {t0 : Tok} {oF : Obj} {fd : FuncData} {Q : Option Value → Shared → Prop}
    (hI : s.heap.get? I = some (ciObj (.ref q) (.str x0 t0) (.bool false))) (hq : s.heap.get? q = some (methodObj (.ref F) self)) (hF : s.heap.get? F = some oF) (hFd : oF.data = .func fd)
    (hc : codeAny (model prog w) A.in1 (.call (.ref F) ⟨[self], []⟩) (fun r s' => ∃ y t, r = .ok (.ret (.str y t)) ∧ s'.heap.get? I = some (ciObj (.ref q) (.str x0 t0) (.bool false)) ∧ s'.heap.get? q = some (methodObj (.ref F) self) ∧ s'.heap.get? F = some oF ∧
      (y ≠ x0 → ∀ tk, Q (some (.str y t)) { s' with toks := tk }) ∧ (y = x0 → ∀ h' tk, (∀ b o, b ≠ I → s'.heap.get? b = some o → h'.get? b = some o) → h'.get? I = some (ciObj .none .none (.bool true)) → Q none { s' with heap := h', toks := tk })) s) :
    wpAny (model prog w) A (pyNext (.ref I)) Q E s := by
  unfold pyNext
  refine wpAny_bind (wpAny_attempt (wpAny_callSpecial?_slot (name := Str.ofString "__next__") ⟨_, hI, rfl⟩ slot_ci_next
    (wpAny_call_entry slot_ci_next ⟨_, hI, rfl⟩ entry_ci_next ?_ (args_ci_next _))))
  show wpAny _ _ (field (.ref I) 2 >>= _) _ _ s
  refine wpAny_bind (wpAny_field hI rfl (x := .bool false) rfl ?_)
  rw [if_neg (show ¬ ((Value.bool false == Value.bool true) = true) by decide)]
  show wpAny _ _ (field (.ref I) 0 >>= _) _ _ s
  refine wpAny_bind (wpAny_field hI rfl (x := .ref q) rfl ?_)
  refine wpAny_bind (wpAny_attempt ?_)
  unfold callOutOfASlot
  have hbor : ∀ {A' : Around} {E' : Value → Shared → Prop} {Q' : Bool → Shared → Prop} {s' : Shared}, s'.heap.get? q = some (methodObj (.ref F) self) → s'.heap.get? F = some oF → Q' true s' → wpAny (model prog w) A' (borrowsExactly (.ref q)) Q' E' s' := by
    intro A' E' Q' s' h1 h2 h3
    unfold borrowsExactly
    refine wpAny_bind (wpAny_load h1 ?_)
    show wpAny _ _ (load F >>= _) _ _ _
    refine wpAny_bind (wpAny_load h2 ?_)
    rw [hFd]
    exact wpAny_pure h3
  refine wpAny_bind (hbor hq hF ?_)
  rw [if_pos rfl]
  refine wpAny_callBorrowed (method_call hq ?_)
  refine codeAny_mono hc fun r s' ⟨y, t, hr, i1, i2, i3, i4, i5⟩ => ?_
  subst hr
  show wpAny _ _ (field (.ref I) 2 >>= _) _ _ s'
  refine wpAny_bind (wpAny_field i1 rfl (x := .bool false) rfl ?_)
  rw [if_neg (show ¬ ((Value.bool false == Value.bool true) = true) by decide)]
  show wpAny _ _ (field (.ref I) 1 >>= _) _ _ s'
  refine wpAny_bind (wpAny_field i1 rfl (x := .str x0 t0) rfl ?_)
  refine wpAny_bind (wpAny_holding (wpAny_eqBool_str ?_))
  by_cases hy : y = x0
  · subst hy
    rw [if_neg (by simp)]
    refine wpAny_bind (wpAny_rule (wpAny_bind ?_))
    show wpAny _ _ (field (.ref I) 0 >>= fun old => slotLetsGo "callable_iterator.__next__" old _ >>= fun _ => (do setField (.ref I) 0 .none; setField (.ref I) 1 .none; setField (.ref I) 2 (.bool true))) _ _ _
    refine wpAny_bind (wpAny_field i1 rfl (x := .ref q) rfl ?_)
    refine wpAny_bind ?_
    unfold slotLetsGo
    refine wpAny_bind (hbor i2 i3 ?_)
    rw [if_pos rfl]
    refine wpAny_pure ?_
    refine wpAny_bind (wpAny_setField i1 rfl (by simp) ?_)
    have g1 := Heap.get?_update_self (h := s'.heap) (Obj.mapFields (·.setIfInBounds 0 Value.none)) i1 rfl
    refine wpAny_bind (wpAny_setField g1 rfl (by simp) ?_)
    have g2 := Heap.get?_update_self (Obj.mapFields (·.setIfInBounds 1 Value.none)) g1 rfl
    refine wpAny_setField g2 rfl (by simp) ?_
    show wpAny _ _ (newExc (.type "StopIteration") [] >>= _) _ _ _
    refine wpAny_bind ?_
    simp only [newExc, newTuple]
    refine wpAny_bind (wpAny_newObj_type ?_ (by size_fits))
    refine wpAny_bind (m := firstArgMember _ _) (wpAny_of_eq (a := Value.none) (by first | rfl | (simp only [firstArgMember]; rfl)) ?_)
    refine wpAny_newObj_type ?_ (by size_fits)
    simp only [raiseNew]
    refine wpAny_bind (wpAny_handled ?_)
    rw [show A.in1.handled = none from hh]
    refine wpAny_bind (wpAny_pure (wpAny_throw ?_))
    refine wpAny_bind (wpAny_isInstance (T := "StopIteration") (b := true) ⟨_, Heap.get?_push_size _ rfl, rfl⟩ isSubtype_stop ?_)
    have g3 := Heap.get?_update_self (Obj.mapFields (·.setIfInBounds 2 (Value.bool true))) g2 rfl
    refine wpAny_pure (i5 rfl _ _ (fun b o hb e => ?_) (Heap.get?_push_of_some _ (Heap.get?_push_of_some _ g3)))
    refine Heap.get?_push_of_some _ (Heap.get?_push_of_some _ ?_)
    exact (Heap.get?_update_other _ _ (Ne.symm hb)).trans ((Heap.get?_update_other _ _ (Ne.symm hb)).trans ((Heap.get?_update_other _ _ (Ne.symm hb)).trans e))
  · rw [if_pos (by simp [Ne.symm hy])]
    exact wpAny_pure ⟨_, rfl, wpAny_pure (i4 hy _)⟩
theorem ci_ended (hh : A.handled = none) {I : Addr} {a b : Value} {Q : Option Value → Shared → Prop} (hI : s.heap.get? I = some (ciObj a b (.bool true)))
    (h : ∀ h' tk, (∀ b o, s.heap.get? b = some o → h'.get? b = some o) → Q none { s with heap := h', toks := tk }) : wpAny (model prog w) A (pyNext (.ref I)) Q E s := by
  unfold pyNext
  refine wpAny_bind (wpAny_attempt (wpAny_callSpecial?_slot (name := Str.ofString "__next__") ⟨_, hI, rfl⟩ slot_ci_next
    (wpAny_call_entry slot_ci_next ⟨_, hI, rfl⟩ entry_ci_next ?_ (args_ci_next _))))
  show wpAny _ _ (field (.ref I) 2 >>= _) _ _ s
  refine wpAny_bind (wpAny_field hI rfl (x := .bool true) rfl ?_)
  rw [if_pos (show ((Value.bool true == Value.bool true) = true) by decide)]
  refine wpAny_bind (wpAny_rule (wpAny_bind ?_))
  show wpAny _ _ (newExc (.type "StopIteration") [] >>= _) _ _ _
  refine wpAny_bind ?_
  simp only [newExc, newTuple]
  refine wpAny_bind (wpAny_newObj_type ?_ (by size_fits))
  refine wpAny_bind (m := firstArgMember _ _) (wpAny_of_eq (a := Value.none) (by first | rfl | (simp only [firstArgMember]; rfl)) ?_)
  refine wpAny_newObj_type ?_ (by size_fits)
  simp only [raiseNew]
  refine wpAny_bind (wpAny_handled ?_)
  rw [show A.in1.handled = none from hh]
  refine wpAny_bind (wpAny_pure (wpAny_throw ?_))
  refine wpAny_bind (wpAny_isInstance (T := "StopIteration") (b := true) ⟨_, Heap.get?_push_size _ rfl, rfl⟩ isSubtype_stop ?_)
  exact wpAny_pure (h _ _ fun b o e => Heap.get?_push_of_some _ (Heap.get?_push_of_some _ e))
theorem ci_self {I : Addr} {a b c : Value} {Q : Value → Shared → Prop} (hI : s.heap.get? I = some (ciObj a b c)) (h : Q (.ref I) s) : wpAny (model prog w) A (pyIter (.ref I)) Q E s := by
  have hit : s.TypeIs (.ref I) "callable_iterator" := ⟨_, hI, rfl⟩
  refine wpAny_pyIter_slot hit slot_ci_iter (wpAny_call_entry slot_ci_iter hit entry_ci_iter ?_ (args_ci_iter _))
  show wpAny _ _ (ret (.ref I)) _ _ s
  exact wpAny_pure ⟨_, rfl, "callable_iterator", _, hit, slot_ci_next.lookup, h⟩
end
end Mine
end
section
open PySem PySem.W PySem.Calls PyProof.Rows PySem.Spec
set_option maxRecDepth 100000
set_option maxHeartbeats 1000000
namespace Mine
structure LxC where
  (lex dx pb sx sdx pb1 f c' cL D q I : Addr)
  (qual : Str) (pm ctv : Value) (o1 oc : Obj) (vs : Array Value)
  (tq t2 k1 k2 k3 k4 a1 a2 b1 b2 b3 b4 b5 tI : Tok) (e' n0 : Nat)
structure LxC.Ok (C : LxC) (g : Heap) : Prop where
  hc : g.get? C.c' = some C.oc
  hd : C.oc.data = .fields C.vs
  hv : C.vs[1]? = some (.str C.qual C.tq)
  he : C.o1.data = .cell (some (.ref C.D))
  dd : @Ne Nat C.dx C.sdx
  dp : C.pb ≠ C.D
noncomputable abbrev lv (ls : List (Nat × Tok)) : List Value := (ls.map fun p => Value.str ⟨#[p.1]⟩ p.2).reverse
noncomputable abbrev LxC.core (C : LxC) (P : Params) (ln : Int) (t1 : Tok) (e : Nat) (ls : List (Nat × Tok)) (n : Nat) : List (Addr × Obj) :=
  [(C.lex, instObj 52 C.dx), (C.dx, dictOf (lexE P ln t1 (.ref C.sx) C.t2 C.pb C.k1 C.k2 C.k3 C.k4) e), (C.sx, instObj 52 C.sdx), (C.sdx, dictOf (strE P C.a1 C.a2 C.pb1 C.b1 C.b2 C.b3 C.b4 C.b5 C.f) C.e'), (C.f, lamO C.qual C.cL C.pm C.c' C.ctv), (C.cL, C.o1), (C.D, listOf (lv ls).toArray n)]
noncomputable abbrev LxC.ci (C : LxC) : Obj := ciObj (.ref C.q) (.str (Str.ofString "") C.tI) (.bool false)
noncomputable abbrev ciEnd : Obj := ciObj .none .none (.bool true)
noncomputable abbrev LxC.news (C : LxC) (P : Params) (ci : Obj) (ln : Int) (t1 : Tok) (e : Nat) (ls : List (Nat × Tok)) (n : Nat) : List (Addr × Obj) :=
  (C.I, ci) :: (C.q, methodObj (.ref 35) (.ref C.lex)) :: (C.pb, listOf ([] : List Value).toArray C.n0) :: C.core P ln t1 e ls n
theorem lv_vals (ls : List (Nat × Tok)) : ∀ v ∈ lv ls, ∃ c t, v = .str ⟨#[c]⟩ t := by
  intro v hv
  obtain ⟨p, _, rfl⟩ := List.mem_map.mp (List.mem_reverse.mp hv)
  exact ⟨_, _, rfl⟩
section
variable {w : World} {mg mb : Str → Option Value} {hb g : Heap} {A : Around} {s : Shared} {L : Addr} {m : Str → Option Value}
theorem news_none (hbg : Sub hb g) {news : List (Addr × Obj)} {h : Heap} (N : News g L h news) {p : Addr × Obj} (hp : p ∈ news) : hb.get? p.1 = none := by
  cases q : hb.get? p.1 with
  | none => rfl
  | some o => have := hbg _ _ q; rw [(N p hp).2.2] at this; cases this
theorem lx_read1 {C : LxC} {h h' : Heap} {ci : Obj} {P : Params} {ln ln' : Int} {t1 t1' : Tok} {e e2 n n' : Nat} {ls r : List (Nat × Tok)} (O : C.Ok g) (hci : ci.cls = .type "callable_iterator")
    (F : Fr g L h m) (N : News g L h (C.news P ci ln t1 e ls n)) (hk : ∀ b o, b ≠ C.D → b ≠ C.dx → h.get? b = some o → h'.get? b = some o) (hD : h'.get? C.D = some (listOf (lv r).toArray n'))
    (hdx : h'.get? C.dx = some (dictOf (lexE P ln' t1' (.ref C.sx) C.t2 C.pb C.k1 C.k2 C.k3 C.k4) e2)) : Fr g L h' m ∧ News g L h' (C.news P ci ln' t1' e2 r n') := by
  have z0 := N (C.I, _) (.head _)
  have z1 := N (C.q, _) (.tail _ (.head _))
  have z2 := N (C.pb, _) (.tail _ (.tail _ (.head _)))
  have z3 := N (C.lex, _) (.tail _ (.tail _ (.tail _ (.head _))))
  have z4 := N (C.dx, _) (.tail _ (.tail _ (.tail _ (.tail _ (.head _)))))
  have z5 := N (C.sx, _) (.tail _ (.tail _ (.tail _ (.tail _ (.tail _ (.head _))))))
  have z6 := N (C.sdx, _) (.tail _ (.tail _ (.tail _ (.tail _ (.tail _ (.tail _ (.head _)))))))
  have z7 := N (C.f, _) (.tail _ (.tail _ (.tail _ (.tail _ (.tail _ (.tail _ (.tail _ (.head _))))))))
  have z8 := N (C.cL, _) (.tail _ (.tail _ (.tail _ (.tail _ (.tail _ (.tail _ (.tail _ (.tail _ (.head _)))))))))
  have z9 := N (C.D, _) (.tail _ (.tail _ (.tail _ (.tail _ (.tail _ (.tail _ (.tail _ (.tail _ (.tail _ (.head _))))))))))
  have nD : ∀ b o, h.get? b = some o → (o.cls == Value.type "list") = false → b ≠ C.D := fun b o e q => ne_of_obj e z9.1 q
  have nx : ∀ b o, h.get? b = some o → (o.cls == Value.type "dict") = false → b ≠ C.dx := fun b o e q => ne_of_obj e z4.1 q
  refine ⟨⟨F.ns.at' fun o e => hk _ o (fun q => z9.2.1 q.symm) (fun q => z4.2.1 q.symm) e, fun b o e => hk b o (fun q => ?_) (fun q => ?_) (F.keep b o e), F.above⟩, ?_⟩
  · rw [q, z9.2.2] at e; cases e
  · rw [q, z4.2.2] at e; cases e
  intro p hp
  rcases hp with _ | ⟨_, hp⟩
  · exact ⟨hk _ _ (nD _ _ z0.1 (by rw [hci]; kernel_rfl)) (nx _ _ z0.1 (by rw [hci]; kernel_rfl)) z0.1, z0.2⟩
  rcases hp with _ | ⟨_, hp⟩
  · exact ⟨hk _ _ (nD _ _ z1.1 (by kernel_rfl)) (nx _ _ z1.1 (by kernel_rfl)) z1.1, z1.2⟩
  rcases hp with _ | ⟨_, hp⟩
  · exact ⟨hk _ _ O.dp (nx _ _ z2.1 (by kernel_rfl)) z2.1, z2.2⟩
  rcases hp with _ | ⟨_, hp⟩
  · exact ⟨hk _ _ (nD _ _ z3.1 (by kernel_rfl)) (nx _ _ z3.1 (by kernel_rfl)) z3.1, z3.2⟩
  rcases hp with _ | ⟨_, hp⟩
  · exact ⟨hdx, z4.2⟩
  rcases hp with _ | ⟨_, hp⟩
  · exact ⟨hk _ _ (nD _ _ z5.1 (by kernel_rfl)) (nx _ _ z5.1 (by kernel_rfl)) z5.1, z5.2⟩
  rcases hp with _ | ⟨_, hp⟩
  · exact ⟨hk _ _ (nD _ _ z6.1 (by kernel_rfl)) (fun q => O.dd q.symm) z6.1, z6.2⟩
  rcases hp with _ | ⟨_, hp⟩
  · exact ⟨hk _ _ (nD _ _ z7.1 (by kernel_rfl)) (nx _ _ z7.1 (by kernel_rfl)) z7.1, z7.2⟩
  rcases hp with _ | ⟨_, hp⟩
  · refine ⟨hk _ _ (fun q => ?_) (fun q => ?_) z8.1, z8.2⟩
    · have q' : C.cL = C.D := q
      have := z8.1
      rw [q', z9.1] at this
      have := O.he.symm.trans (congrArg Obj.data (Option.some.inj this)).symm
      cases this
    · have q' : C.cL = C.dx := q
      have := z8.1
      rw [q', z4.1] at this
      have := O.he.symm.trans (congrArg Obj.data (Option.some.inj this)).symm
      cases this
  rcases hp with _ | ⟨_, hp⟩
  · exact ⟨hD, z9.2⟩
  · cases hp
theorem lx_c' {C : LxC} {h : Heap} {ci : Obj} {P : Params} {ln : Int} {t1 : Tok} {e n : Nat} {ls : List (Nat × Tok)} (O : C.Ok g) (N : News g L h (C.news P ci ln t1 e ls n)) : C.c' ∉ (C.core P ln t1 e ls n).map (·.1) := by
  intro hm
  obtain ⟨p, hp, e⟩ := List.mem_map.mp hm
  have := (N p (.tail _ (.tail _ (.tail _ hp)))).2.2
  rw [e, O.hc] at this
  cases this
theorem lv_nil {ls : List (Nat × Tok)} (h : lv ls = []) : ls = [] := by
  cases ls with
  | nil => rfl
  | cons p r => exact absurd (List.reverse_eq_nil_iff.mp h) (by simp)
theorem lv_cons {ls : List (Nat × Tok)} {ws : List Value} {c : Nat} {tc : Tok} (h : lv ls = ws ++ [.str ⟨#[c]⟩ tc]) : ∃ r, ls = (c, tc) :: r ∧ ws = lv r := by
  cases ls with
  | nil => simp at h
  | cons p r =>
    have h' : lv r ++ [Value.str ⟨#[p.1]⟩ p.2] = ws ++ [.str ⟨#[c]⟩ tc] := by
      have e : lv (p :: r) = lv r ++ [Value.str ⟨#[p.1]⟩ p.2] := List.reverse_cons
      rw [← e]; exact h
    obtain ⟨h1, h2⟩ := List.append_inj' h' rfl
    injection h2 with h2
    injection h2 with h3 h4
    injection h3 with h3
    injection h3 with h3
    injection h3 with h3
    exact ⟨r, by rw [← h3, ← h4], h1.symm⟩
theorem lx_read (B : Base w mg mb hb) (hbg : Sub hb g) (hA : A.depth + 1 < recursionLimit) (hh : A.handled = none) {C : LxC} (O : C.Ok g) {ci : Obj} (hci : ci.cls = .type "callable_iterator") {ln : Int} {t1 : Tok} {e n : Nat} {ls : List (Nat × Tok)} {R : Result → Shared → Prop}
    (F : Fr g L s.heap m) (N : News g L s.heap (C.news w.params ci ln t1 e ls n)) (hz : ls.length ≤ 2000) (hln : 0 ≤ ln ∧ ln + ls.length < 50000)
    (none_ : ls = [] → ∀ h' tk' t', Fr g L h' m → News g L h' (C.news w.params ci ln t1 e ls n) → R (.ok (.ret (.str (Str.ofString "") t'))) { s with heap := h', toks := tk' })
    (some_ : ∀ c tc r, ls = (c, tc) :: r → ∀ h' tk' ln' t1' e2 n', Fr g L h' m → News g L h' (C.news w.params ci ln' t1' e2 r n') → 0 ≤ ln' ∧ ln' + r.length < 50000 → R (.ok (.ret (.str ⟨#[c]⟩ tc))) { s with heap := h', toks := tk' }) :
    codeAny (model pw w) A (.call (.ref 35) ⟨[.ref C.lex], []⟩) R s := by
  have z3 := N (C.lex, _) (.tail _ (.tail _ (.tail _ (.head _))))
  have z4 := N (C.dx, _) (.tail _ (.tail _ (.tail _ (.tail _ (.head _)))))
  have z5 := N (C.sx, _) (.tail _ (.tail _ (.tail _ (.tail _ (.tail _ (.head _))))))
  have z6 := N (C.sdx, _) (.tail _ (.tail _ (.tail _ (.tail _ (.tail _ (.tail _ (.head _)))))))
  have z7 := N (C.f, _) (.tail _ (.tail _ (.tail _ (.tail _ (.tail _ (.tail _ (.tail _ (.head _))))))))
  have z8 := N (C.cL, _) (.tail _ (.tail _ (.tail _ (.tail _ (.tail _ (.tail _ (.tail _ (.tail _ (.head _)))))))))
  have z9 := N (C.D, _) (.tail _ (.tail _ (.tail _ (.tail _ (.tail _ (.tail _ (.tail _ (.tail _ (.tail _ (.head _))))))))))
  have hn : ∀ a o, g.get? a = none ∧ s.heap.get? a = some o → hb.get? a = none := fun a o ⟨q, _⟩ => by
    cases x : hb.get? a with
    | none => rfl
    | some o => have := hbg _ _ x; rw [q] at this; cases this
  refine c_read B (hbOf hbg F.keep) hA hh z3.1 z4.1 z5.1 z6.1 z7.1 (F.keep _ _ O.hc) O.hd O.hv z8.1 O.he z9.1 (hn _ _ ⟨z3.2.2, z3.1⟩) (hn _ _ ⟨z4.2.2, z4.1⟩) (hn _ _ ⟨z5.2.2, z5.1⟩) (hn _ _ ⟨z6.2.2, z6.1⟩) (hn _ _ ⟨z7.2.2, z7.1⟩) (hn _ _ ⟨z8.2.2, z8.1⟩) (hn _ _ ⟨z9.2.2, z9.1⟩) (by simpa using hz) (by omega) (lx_c' O N) O.dd (lv_vals ls) ?_ ?_
  · intro hw h' tk' t' hk
    exact none_ (lv_nil hw) h' tk' t' (F.keeps hk) (N.grown hk)
  · intro ws' c tc hw h' tk' ln' t1' e2 hk hD hdx hl
    obtain ⟨r, rfl, rfl⟩ := lv_cons hw
    obtain ⟨F', N'⟩ := lx_read1 O hci F N hk hD hdx
    exact some_ c tc r rfl h' tk' ln' t1' e2 _ F' N' (by simp only [List.length_cons] at hln; omega)
theorem lx_next (B : Base w mg mb hb) (hbg : Sub hb g) (hA : A.depth + 1 < recursionLimit) (hh : A.handled = none) {C : LxC} (O : C.Ok g) {ln : Int} {t1 : Tok} {e n : Nat} {ls : List (Nat × Tok)} {E : Value → Shared → Prop} {Q : Option Value → Shared → Prop}
    (X : (KF w.params).In g)
    (F : Fr g L s.heap m) (N : News g L s.heap (C.news w.params C.ci ln t1 e ls n)) (hz : ls.length ≤ 2000) (hln : 0 ≤ ln ∧ ln + ls.length < 50000)
    (none_ : ls = [] → ∀ h' tk', Fr g L h' m → News g L h' (C.news w.params ciEnd ln t1 e ls n) → Q none { s with heap := h', toks := tk' })
    (some_ : ∀ c tc r, ls = (c, tc) :: r → ∀ h' tk' ln' t1' e2 n', Fr g L h' m → News g L h' (C.news w.params C.ci ln' t1' e2 r n') → 0 ≤ ln' ∧ ln' + r.length < 50000 → Q (some (.str ⟨#[c]⟩ tc)) { s with heap := h', toks := tk' }) :
    wpAny (model pw w) A (pyNext (.ref C.I)) Q E s := by
  have z0 := N (C.I, _) (.head _)
  have z1 := N (C.q, _) (.tail _ (.head _))
  have hA' : A.in1.depth + 1 < recursionLimit := hA
  refine ci_next hh z0.1 z1.1 (X.keeps F.keep _ _ (by k_is)) rfl ?_
  refine lx_read B hbg hA' hh O rfl F N hz hln (fun hw h' tk' t' F' N' => ?_) fun c tc r hw h' tk' ln' t1' e2 n' F' N' hl => ?_
  · refine ⟨_, t', rfl, (N' (C.I, _) (.head _)).1, (N' (C.q, _) (.tail _ (.head _))).1, X.keeps F'.keep _ _ (by k_is), fun q => absurd rfl q, fun _ h9 tk9 k9 i9 => ?_⟩
    have zI := N' (C.I, _) (.head _)
    refine none_ hw h9 tk9 (fr_upd F' k9 (fun q => zI.2.1 q.symm) zI.2.2) (news_upd N' (.head fun p hp q => ?_) k9 i9)
    have zp := (N' p (.tail _ hp)).1
    rw [q, zI.1] at zp
    have hcl : p.2.cls = .type "callable_iterator" := by rw [← Option.some.inj zp]
    have hnc : ∀ o, p.2 = o → (o.cls == Value.type "callable_iterator") = false → False := fun o ho hq => by rw [← ho, hcl] at hq; exact absurd hq (by decide)
    rcases hp with _ | ⟨_, hp⟩
    · exact hnc _ rfl (by kernel_rfl)
    rcases hp with _ | ⟨_, hp⟩
    · exact hnc _ rfl (by kernel_rfl)
    rcases hp with _ | ⟨_, hp⟩
    · exact hnc _ rfl (by kernel_rfl)
    rcases hp with _ | ⟨_, hp⟩
    · exact hnc _ rfl (by kernel_rfl)
    rcases hp with _ | ⟨_, hp⟩
    · exact hnc _ rfl (by kernel_rfl)
    rcases hp with _ | ⟨_, hp⟩
    · exact hnc _ rfl (by kernel_rfl)
    rcases hp with _ | ⟨_, hp⟩
    · exact hnc _ rfl (by kernel_rfl)
    rcases hp with _ | ⟨_, hp⟩
    · have h8 : C.o1 = C.ci := (Option.some.inj zp).symm
      have := O.he
      rw [h8] at this
      cases this
    rcases hp with _ | ⟨_, hp⟩
    · exact hnc _ rfl (by kernel_rfl)
    · cases hp
  · refine ⟨_, tc, rfl, (N' (C.I, _) (.head _)).1, (N' (C.q, _) (.tail _ (.head _))).1, X.keeps F'.keep _ _ (by k_is), fun _ tk9 => ?_, fun q => ?_⟩
    · exact some_ c tc r hw h' _ ln' t1' e2 n' F' N' hl
    · cases q
end
end Mine
end
section
open PySem PySem.W PySem.Calls PyProof.Rows PySem.Spec
set_option maxRecDepth 100000
set_option maxHeartbeats 1000000
namespace Mine
local macro_rules | `(tactic| walk_at "call ref") => `(tactic| (k_here; with_reducible refine Mine.hCall ?_))
noncomputable def ifB : Stmt → List Stmt
  | .If _ b _ _ => b
  | _ => []
noncomputable def ifE : Stmt → List Stmt
  | .If _ _ b _ => b
  | _ => []
noncomputable def gtFor : Stmt := nth (fq 1 2).2.1 3
noncomputable def gtA : Stmt := nth (ifB (nth (forBody gtFor) 1)) 0
noncomputable def gtB : Stmt := nth (ifE (nth (forBody gtFor) 1)) 2
noncomputable def blank (c : Nat) : Bool := c == 10 || c == 9 || c == 13 || c == 32
noncomputable def quoteQ (c : Nat) : Bool := c == 34
noncomputable def goS (stop : Nat → Bool) (t : Str) : List Nat → Str × List Nat
  | [] => (t, [])
  | [c] => if stop c then (t, []) else if c = 92 then (t ++ Str.ofString "", []) else (t ++ ⟨#[c]⟩, [])
  | c :: d :: r => if stop c then (t, d :: r) else if c = 92 then goS stop (t ++ ⟨#[d]⟩) r else goS stop (t ++ ⟨#[c]⟩) (d :: r)
noncomputable abbrev mG (C : LxC) (ch : Option Value) (tok : Str) (tt : Tok) : Str → Option Value := fun z =>
  if z = Str.ofString "token" then some (.str tok tt) else if z = Str.ofString "ch" then ch else if z = Str.ofString "fiter" then some (.ref C.I) else if z = Str.ofString "self" then some (.ref C.lex) else none
theorem mG_eq1 {C : LxC} {ch ch' : Option Value} {tok : Str} {tt : Tok} : (fun z => if z = Str.ofString "ch" then ch' else mG C ch tok tt z) = mG C ch' tok tt := by
  funext z
  by_cases e2 : z = Str.ofString "ch"
  · subst e2; rfl
  by_cases e1 : z = Str.ofString "token"
  · simp only [mG, if_pos e1, if_neg e2]
  simp only [mG, if_neg e1, if_neg e2]
theorem mG_eq2 {C : LxC} {ch ch' : Option Value} {tok tok' : Str} {tt tt' : Tok} : (fun z => if z = Str.ofString "token" then some (Value.str tok' tt') else if z = Str.ofString "ch" then ch' else mG C ch tok tt z) = mG C ch' tok' tt' := by
  funext z
  by_cases e1 : z = Str.ofString "token"
  · simp only [mG, if_pos e1]
  by_cases e2 : z = Str.ofString "ch"
  · simp only [mG, if_neg e1, if_pos e2]
  simp only [mG, if_neg e1, if_neg e2]
theorem mG_eq3 {C : LxC} {ch c1 ch' : Option Value} {tok tok' : Str} {tt tt' : Tok} : (fun z => if z = Str.ofString "token" then some (Value.str tok' tt') else if z = Str.ofString "ch" then ch' else if z = Str.ofString "ch" then c1 else mG C ch tok tt z) = mG C ch' tok' tt' := by
  funext z
  by_cases e1 : z = Str.ofString "token"
  · simp only [mG, if_pos e1]
  by_cases e2 : z = Str.ofString "ch"
  · simp only [mG, if_neg e1, if_pos e2]
  simp only [mG, if_neg e1, if_neg e2]
theorem in_blank (c : Nat) : (Builtin.Str.occurrences (Str.ofString "\n\t\u000d ") ⟨#[c]⟩ 0 (Str.ofString "\n\t\u000d ").length 1).isEmpty = !blank c := by
  have h := StrLaws.found_one (Str.ofString "\n\t\u000d ") c
  have e : (Str.ofString "\n\t\u000d ").cps.toList = [10, 9, 13, 32] := by decide
  rw [e] at h
  cases q : (Builtin.Str.occurrences (Str.ofString "\n\t\u000d ") ⟨#[c]⟩ 0 (Str.ofString "\n\t\u000d ").length 1).isEmpty with
  | true => rw [q] at h; have := (Eq.symm h); simp at this; simp [blank, this]
  | false => rw [q] at h; have := (Eq.symm h); simp at this; rcases this with h | h | h | h <;> simp [blank, h]
theorem eq_cp (c d : Nat) (x : Str) (hx : x = ⟨#[d]⟩) : ((⟨#[c]⟩ : Str) == x) = decide (c = d) := by
  subst hx
  by_cases e : c = d
  · subst e; simp
  · rw [decide_eq_false e]
    refine beq_false_of_ne fun q => e ?_
    injection q with q
    injection q with q
    injection q with q
section
variable {w : World} {mg mb : Str → Option Value} {hb g : Heap} {A : Around} {s : Shared} {L : Addr}
noncomputable abbrev gtEnv (L : Addr) : Env := envOf (Str.ofString "_netrclex.get_token") (fq 1 2).2.2 L 42 (.ref 41)
noncomputable def TurnOk (w : World) (A : Around) (g : Heap) (L : Addr) (C : LxC) (stop : Nat → Bool) (body : List Stmt) : Prop :=
  ∀ {s : Shared} {Q : Flow → Shared → Prop} {px : Pos} {ln : Int} {t1 tt : Tok} {e n : Nat} {ls : List (Nat × Tok)} {ch : Option Value} {tok : Str} {c : Nat} {tc : Tok},
    Fr g L s.heap (mG C ch tok tt) → News g L s.heap (C.news w.params C.ci ln t1 e ls n) → tok.length + ls.length ≤ 2000 → (0 ≤ ln ∧ ln + ls.length < 50000) →
    (stop c = true → ∀ h tk ch, Fr g L h (mG C ch tok tt) → News g L h (C.news w.params C.ci ln t1 e ls n) → Q (.ret (.str tok tt)) { s with heap := h, toks := tk }) →
    (∀ h tk ch' tok' tt' ln' t1' e' ls' n', stop c = false → (c ≠ 92 ∧ tok' = tok ++ ⟨#[c]⟩ ∧ ls' = ls ∨ c = 92 ∧ ls = [] ∧ tok' = tok ++ Str.ofString "" ∧ ls' = [] ∨ c = 92 ∧ ∃ d td, ls = (d, td) :: ls' ∧ tok' = tok ++ ⟨#[d]⟩) →
      Fr g L h (mG C ch' tok' tt') → News g L h (C.news w.params C.ci ln' t1' e' ls' n') → (0 ≤ ln' ∧ ln' + ls'.length < 50000) → Q .next { s with heap := h, toks := tk }) →
    wpAny (model pw w) A (assign (PySem.Expr.Name (Str.ofString "ch") px) (gtEnv L) (.str ⟨#[c]⟩ tc)) (fun _ s₂ => wpAny (model pw w) A (execs body (gtEnv L)) Q (fun _ _ => False) s₂) (fun _ _ => False) s
theorem turnB (B : Base w mg mb hb) (hbg : Sub hb g) (hA : A.depth + 1 < recursionLimit) (hh : A.handled = none) (X : (KF w.params).In g) {C : LxC} (O : C.Ok g) : TurnOk w A g L C blank (forBody gtB) := by
  intro s Q px ln t1 tt e n ls ch tok c tc F N hz hln ret next
  have hr1 : forBody gtB = forBody gtB := rfl
  conv at hr1 => rhs; whnf
  have hb2 : (fq 1 2).2.2 = (fq 1 2).2.2 := rfl
  conv at hb2 => rhs; whnf
  unfold gtEnv
  rw [hr1, hb2]
  clear hr1 hb2
  k_steps
  · rename (Builtin.Str.occurrences _ _ _ _ _).isEmpty = true => hbk
    rename (_ == _) = true => hq
    rw [in_blank] at hbk
    rw [eq_cp c 92 _ (by decide)] at hq
    have hc : c = 92 := by simpa using hq
    have hbk' : blank c = false := by simpa using hbk
    rename Fr _ _ _ _ => F2
    rename News _ _ _ _ => N2
    show wpAny _ _ (call (.ref 35) [.ref C.lex]) _ _ _
    refine wpAny_call (lx_read B hbg ?_ ?_ O (ci := C.ci) rfl F2 N2 (by omega) hln ?_ ?_)
    · exact hA
    · exact hh
    · intro hw h' tk' t' F3 N3
      subst hw
      clear F2 N2
      k_steps
      rename Fr _ _ _ _ => F4
      rename News _ _ _ _ => N4
      rw [mG_eq3] at F4
      exact next _ _ _ _ _ _ _ _ _ _ hbk' (.inr (.inl ⟨hc, rfl, rfl, rfl⟩)) F4 N4 hln
    · intro d td r hw h' tk' ln' t1' e2 n' F3 N3 hl
      subst hw
      clear F2 N2
      simp only [List.length_cons] at hz
      k_steps
      rename Fr _ _ _ _ => F4
      rename News _ _ _ _ => N4
      rw [mG_eq3] at F4
      exact next _ _ _ _ _ _ _ _ _ _ hbk' (.inr (.inr ⟨hc, d, td, rfl, rfl⟩)) F4 N4 hl
  · rename (Builtin.Str.occurrences _ _ _ _ _).isEmpty = true => hbk
    rename (_ == _) = false => hq
    rw [in_blank] at hbk
    rw [eq_cp c 92 _ (by decide)] at hq
    have hc : c ≠ 92 := by simpa using hq
    have hbk' : blank c = false := by simpa using hbk
    rename Fr _ _ _ _ => F4
    rename News _ _ _ _ => N4
    rw [mG_eq2] at F4
    exact next _ _ _ _ _ _ _ _ _ _ hbk' (.inl ⟨hc, rfl, rfl⟩) F4 N4 hln
  · rename (Builtin.Str.occurrences _ _ _ _ _).isEmpty = false => hbk
    rw [in_blank] at hbk
    have hbk' : blank c = true := by simpa using hbk
    rename Fr _ _ _ _ => F4
    rename News _ _ _ _ => N4
    rw [mG_eq1] at F4
    exact ret hbk' _ _ _ F4 N4
end
end Mine
end
section
open PySem PySem.W PySem.Calls PyProof.Rows PySem.Spec
set_option maxRecDepth 100000
set_option maxHeartbeats 1000000
namespace Mine
local macro_rules | `(tactic| walk_at "call ref") => `(tactic| (k_here; with_reducible refine Mine.hCall ?_))
section
variable {w : World} {mg mb : Str → Option Value} {hb g : Heap} {A : Around} {s : Shared} {L : Addr}
theorem turnA (B : Base w mg mb hb) (hbg : Sub hb g) (hA : A.depth + 1 < recursionLimit) (hh : A.handled = none) (X : (KF w.params).In g) {C : LxC} (O : C.Ok g) : TurnOk w A g L C quoteQ (forBody gtA) := by
  intro s Q px ln t1 tt e n ls ch tok c tc F N hz hln ret next
  have hr1 : forBody gtA = forBody gtA := rfl
  conv at hr1 => rhs; whnf
  have hb2 : (fq 1 2).2.2 = (fq 1 2).2.2 := rfl
  conv at hb2 => rhs; whnf
  unfold gtEnv
  rw [hr1, hb2]
  clear hr1 hb2
  k_steps
  · rename (_ == Str.ofString "\"") = true => hbk
    rw [eq_cp c 34 _ (by decide)] at hbk
    have hbk' : quoteQ c = true := by simpa [quoteQ] using hbk
    rename Fr _ _ _ _ => F4
    rename News _ _ _ _ => N4
    rw [mG_eq1] at F4
    exact ret hbk' _ _ _ F4 N4
  · rename (_ == Str.ofString "\"") = false => hbk
    rename (_ == Str.ofString "\\") = true => hq
    rw [eq_cp c 34 _ (by decide)] at hbk
    rw [eq_cp c 92 _ (by decide)] at hq
    have hc : c = 92 := by simpa using hq
    have hbk' : quoteQ c = false := by simpa [quoteQ] using hbk
    rename Fr _ _ _ _ => F2
    rename News _ _ _ _ => N2
    show wpAny _ _ (call (.ref 35) [.ref C.lex]) _ _ _
    refine wpAny_call (lx_read B hbg ?_ ?_ O (ci := C.ci) rfl F2 N2 (by omega) hln ?_ ?_)
    · exact hA
    · exact hh
    · intro hw h' tk' t' F3 N3
      subst hw
      clear F2 N2
      k_steps
      rename Fr _ _ _ _ => F4
      rename News _ _ _ _ => N4
      rw [mG_eq3] at F4
      exact next _ _ _ _ _ _ _ _ _ _ hbk' (.inr (.inl ⟨hc, rfl, rfl, rfl⟩)) F4 N4 hln
    · intro d td r hw h' tk' ln' t1' e2 n' F3 N3 hl
      subst hw
      clear F2 N2
      simp only [List.length_cons] at hz
      k_steps
      rename Fr _ _ _ _ => F4
      rename News _ _ _ _ => N4
      rw [mG_eq3] at F4
      exact next _ _ _ _ _ _ _ _ _ _ hbk' (.inr (.inr ⟨hc, d, td, rfl, rfl⟩)) F4 N4 hl
  · rename (_ == Str.ofString "\"") = false => hbk
    rename (_ == Str.ofString "\\") = false => hq
    rw [eq_cp c 34 _ (by decide)] at hbk
    rw [eq_cp c 92 _ (by decide)] at hq
    have hc : c ≠ 92 := by simpa using hq
    have hbk' : quoteQ c = false := by simpa [quoteQ] using hbk
    rename Fr _ _ _ _ => F4
    rename News _ _ _ _ => N4
    rw [mG_eq2] at F4
    exact next _ _ _ _ _ _ _ _ _ _ hbk' (.inl ⟨hc, rfl, rfl⟩) F4 N4 hln
theorem goS_step1 (stop : Nat → Bool) (t : Str) (c : Nat) (r : List Nat) (h1 : stop c = false) (h2 : c ≠ 92) : goS stop t (c :: r) = goS stop (t ++ ⟨#[c]⟩) r := by
  cases r with
  | nil => simp [goS, h1, h2]
  | cons d r => simp [goS, h1, h2]
theorem goS_stop (stop : Nat → Bool) (t : Str) (c : Nat) (r : List Nat) (h1 : stop c = true) : goS stop t (c :: r) = (t, r) := by
  cases r with
  | nil => simp [goS, h1]
  | cons d r => simp [goS, h1]
theorem goS_esc (stop : Nat → Bool) (t : Str) (d : Nat) (r : List Nat) (h1 : stop 92 = false) : goS stop t (92 :: d :: r) = goS stop (t ++ ⟨#[d]⟩) r := by
  simp [goS, h1]
theorem goS_esc0 (stop : Nat → Bool) (t : Str) (h1 : stop 92 = false) : goS stop t [92] = goS stop (t ++ Str.ofString "") [] := by
  simp [goS, h1]
noncomputable def endsFor : Stmt → List Stmt
  | .For _ _ _ e _ => e
  | _ => []
inductive InvS (w : World) (g : Heap) (L : Addr) (C : LxC) (stop : Nat → Bool) (s : Shared) (N0 : Nat) (R : Str × List Nat) (k : Nat) (s' : Shared) : Prop
  | mk (h : Heap) (tk : Tok) (ch : Option Value) (tok' : Str) (tt' : Tok) (ln' : Int) (t1' : Tok) (e' : Nat) (ls' : List (Nat × Tok)) (n' : Nat) (h1 : s' = { s with heap := h, toks := tk }) (h2 : k = ls'.length) (h3 : goS stop tok' (ls'.map (·.1)) = R) (h4 : tok'.length + ls'.length ≤ 2000) (h5 : ls'.length ≤ N0) (h6 : 0 ≤ ln' ∧ ln' + (ls'.length : Int) < 50000)
    (h7 : Fr g L h (mG C ch tok' tt')) (h8 : News g L h (C.news w.params C.ci ln' t1' e' ls' n')) : InvS w g L C stop s N0 R k s'
theorem loopS (B : Base w mg mb hb) (hbg : Sub hb g) (hA : A.depth + 1 < recursionLimit) (hh : A.handled = none) (X : (KF w.params).In g) {C : LxC} (O : C.Ok g) {stop : Nat → Bool} {body : List Stmt} (TO : TurnOk w A g L C stop body) {p1 p2 p3 : Pos} {Q : Flow → Shared → Prop}
    {ln : Int} {t1 tt : Tok} {e n : Nat} {ls : List (Nat × Tok)} {ch : Option Value} {tok : Str}
    (F : Fr g L s.heap (mG C ch tok tt)) (N : News g L s.heap (C.news w.params C.ci ln t1 e ls n)) (hz : tok.length + ls.length ≤ 2000) (hln : 0 ≤ ln ∧ ln + ls.length < 50000)
    (ret : ∀ h tk ch tt' ln' t1' e' ls' n', ls'.map (·.1) = (goS stop tok (ls.map (·.1))).2 → ls'.length ≤ ls.length → Fr g L h (mG C ch (goS stop tok (ls.map (·.1))).1 tt') → News g L h (C.news w.params C.ci ln' t1' e' ls' n') → (0 ≤ ln' ∧ ln' + ls'.length < 50000) → Q (.ret (.str (goS stop tok (ls.map (·.1))).1 tt')) { s with heap := h, toks := tk })
    (done : ∀ h tk ch tt' ln' t1' e' n', (goS stop tok (ls.map (·.1))).2 = [] → Fr g L h (mG C ch (goS stop tok (ls.map (·.1))).1 tt') → News g L h (C.news w.params ciEnd ln' t1' e' [] n') → (0 ≤ ln' ∧ ln' < 50000) → Q .next { s with heap := h, toks := tk }) :
    wpAny (model pw w) A (exec (.For (.Name (Str.ofString "ch") p1) (.Name (Str.ofString "fiter") p2) body [] p3) (gtEnv L)) Q (fun _ _ => False) s := by
  refine wpAny_For ?_
  have hb2 : (fq 1 2).2.2 = (fq 1 2).2.2 := rfl
  conv at hb2 => rhs; whnf
  have he : gtEnv L = gtEnv L := rfl
  conv at he => rhs; unfold gtEnv; rw [hb2]
  rw [he]
  walk1
  rw [← he]
  refine ci_self (N (C.I, _) (.head _)).1 ?_
  refine codeAny_forLoop_any (InvS w g L C stop s ls.length (goS stop tok (ls.map (·.1)))) ?_ ls.length ⟨s.heap, s.toks, ch, tok, tt, ln, t1, e, ls, n, rfl, rfl, rfl, hz, Nat.le_refl _, hln, F, N⟩
  rintro k s' ⟨h, tk, ch', tok', tt', ln', t1', e', ls', n', rfl, rfl, hgo, hz', hle, hln', F', N'⟩
  refine lx_next B hbg hA hh O X F' N' (by omega) hln' ?_ ?_
  · intro hw h2 tk2 F2 N2
    subst hw
    refine wpAny_execs_nil ?_
    have e1 : goS stop tok' (([] : List (Nat × Tok)).map (·.1)) = (tok', []) := rfl
    rw [e1] at hgo
    rw [← congrArg Prod.fst hgo, ← congrArg Prod.snd hgo] at done
    exact done h2 tk2 _ _ _ _ _ _ rfl F2 N2 (by simpa using hln')
  · intro c tc r hw h2 tk2 ln2 t2 e2 n2 F2 N2 hl2
    subst hw
    simp only [List.map_cons] at hgo
    simp only [List.length_cons] at hz' hle
    refine wpAny_of_eq (a := ()) rfl ?_
    refine wpAny_mono (TO (Q := fun f s₃ => match f with
            | .next | .cont => ∃ m, m < r.length + 1 ∧ InvS w g L C stop s ls.length (goS stop tok (ls.map (·.1))) m s₃
            | .brk => Q .next s₃
            | .ret v => Q (.ret v) s₃) F2 N2 (by omega) hl2 ?_ ?_) (fun _ s₂ h₂ => wpAny_mono h₂ (fun f s₃ h₃ => ?_) fun _ _ x => x.elim) fun _ _ x => x.elim
    · intro hs h3 tk3 ch3 F3 N3
      rw [goS_stop _ _ _ _ hs] at hgo
      rw [← congrArg Prod.fst hgo, ← congrArg Prod.snd hgo] at ret
      exact ret h3 tk3 _ _ _ _ _ _ _ rfl (by omega) F3 N3 hl2
    · intro h3 tk3 ch3 tok3 tt3 ln3 t13 e3 ls3 n3 hs hst F3 N3 hl3
      rcases hst with ⟨h92, rfl, rfl⟩ | ⟨rfl, rfl, rfl, rfl⟩ | ⟨rfl, d, td, rfl, rfl⟩
      · rw [goS_step1 _ _ _ _ hs h92] at hgo
        exact ⟨_, by omega, h3, tk3, ch3, _, tt3, ln3, t13, e3, ls3, n3, rfl, rfl, hgo, by rw [len_app]; have : (⟨#[c]⟩ : Str).length = 1 := rfl; omega, by omega, hl3, F3, N3⟩
      · simp only [List.map_nil] at hgo
        rw [goS_esc0 _ _ hs] at hgo
        refine ⟨0, by simp, h3, tk3, ch3, _, tt3, ln3, t13, e3, [], n3, rfl, rfl, hgo, ?_, by simp, hl3, F3, N3⟩
        rw [len_app]
        have : (Str.ofString "").length = 0 := by decide
        simp only [List.length_nil] at hz' ⊢
        omega
      · simp only [List.map_cons] at hgo
        rw [goS_esc _ _ _ _ hs] at hgo
        simp only [List.length_cons] at hz' hle
        exact ⟨ls3.length, by simp only [List.length_cons]; omega, h3, tk3, ch3, _, tt3, ln3, t13, e3, ls3, n3, rfl, rfl, hgo, by rw [len_app]; have : (⟨#[d]⟩ : Str).length = 1 := rfl; omega, by omega, hl3, F3, N3⟩
    · exact h₃
end
end Mine
end
section
open PySem PySem.W PySem.Calls PyProof.Rows PySem.Spec
set_option maxRecDepth 100000
set_option maxHeartbeats 1000000
namespace Mine
local macro_rules | `(tactic| walk_at "call ref") => `(tactic| (k_here; with_reducible refine Mine.hCall ?_))
local macro_rules | `(tactic| walk_at "exec For Name Name cons nil") => `(tactic| (k_here; with_reducible refine Mine.hFor ?_))
noncomputable def goO (t : Str) : List Nat → Str × List Nat
  | [] => (t, [])
  | [c] => if blank c then (t, []) else if c = 34 then (t, []) else if c = 92 then (t ++ Str.ofString "", []) else (t ++ ⟨#[c]⟩, [])
  | c :: d :: r => if blank c then goO t (d :: r) else if c = 34 then goS quoteQ t (d :: r) else if c = 92 then goS blank (t ++ ⟨#[d]⟩) r else goS blank (t ++ ⟨#[c]⟩) (d :: r)
theorem goO_blank (t : Str) (c : Nat) (r : List Nat) (h : blank c = true) : goO t (c :: r) = goO t r := by
  cases r <;> simp [goO, h]
theorem goO_quote (t : Str) (c : Nat) (r : List Nat) (h : blank c = false) (h2 : c = 34) : goO t (c :: r) = goS quoteQ t r := by
  subst h2; cases r <;> simp [goO, h, goS]
theorem goO_esc0 (t : Str) (c : Nat) (h : blank c = false) (h2 : c = 92) : goO t [c] = goS blank (t ++ Str.ofString "") [] := by
  subst h2; simp [goO, h, goS]
theorem goO_esc (t : Str) (c d : Nat) (r : List Nat) (h : blank c = false) (h2 : c = 92) : goO t (c :: d :: r) = goS blank (t ++ ⟨#[d]⟩) r := by
  subst h2; simp [goO, h]
theorem goO_other (t : Str) (c : Nat) (r : List Nat) (h : blank c = false) (h1 : c ≠ 34) (h2 : c ≠ 92) : goO t (c :: r) = goS blank (t ++ ⟨#[c]⟩) r := by
  cases r <;> simp [goO, h, h1, h2, goS]
section
variable {w : World} {mg mb : Str → Option Value} {hb g : Heap} {A : Around} {s : Shared} {L : Addr}
theorem turnO (B : Base w mg mb hb) (hbg : Sub hb g) (hA : A.depth + 1 < recursionLimit) (hh : A.handled = none) (X : (KF w.params).In g) {C : LxC} (O : C.Ok g) {Q : Flow → Shared → Prop} {px : Pos} {ln : Int} {t1 tt : Tok} {e n : Nat} {ls : List (Nat × Tok)} {ch : Option Value} {tok : Str} {c : Nat} {tc : Tok} {R : Str × List Nat}
    (hR : R = goO tok (c :: ls.map (·.1)))
    (F : Fr g L s.heap (mG C ch tok tt)) (N : News g L s.heap (C.news w.params C.ci ln t1 e ls n)) (hz : tok.length + ls.length < 2000) (hln : 0 ≤ ln ∧ ln + ls.length < 50000)
    (cont_ : blank c = true → ∀ h tk ch, Fr g L h (mG C ch tok tt) → News g L h (C.news w.params C.ci ln t1 e ls n) → Q .cont { s with heap := h, toks := tk })
    (ret : ∀ h tk ch tt' ln' t1' e' ls' n', ls'.map (·.1) = R.2 → ls'.length ≤ ls.length → Fr g L h (mG C ch R.1 tt') → News g L h (C.news w.params C.ci ln' t1' e' ls' n') → (0 ≤ ln' ∧ ln' + ls'.length < 50000) → Q (.ret (.str R.1 tt')) { s with heap := h, toks := tk })
    (done : ∀ h tk ch tt' ln' t1' e' n', R.2 = [] → Fr g L h (mG C ch R.1 tt') → News g L h (C.news w.params ciEnd ln' t1' e' [] n') → (0 ≤ ln' ∧ ln' < 50000) → Q .next { s with heap := h, toks := tk }) :
    wpAny (model pw w) A (assign (PySem.Expr.Name (Str.ofString "ch") px) (gtEnv L) (.str ⟨#[c]⟩ tc)) (fun _ s₂ => wpAny (model pw w) A (execs (forBody gtFor) (gtEnv L)) Q (fun _ _ => False) s₂) (fun _ _ => False) s := by
  have hr1 : forBody gtFor = forBody gtFor := rfl
  conv at hr1 => rhs; whnf
  have hb2 : (fq 1 2).2.2 = (fq 1 2).2.2 := rfl
  conv at hb2 => rhs; whnf
  unfold gtEnv
  rw [hr1, hb2]
  clear hr1 hb2
  k_steps
  · rename (Builtin.Str.occurrences _ _ _ _ _).isEmpty = true => hbk
    rename (_ == Str.ofString "\"") = true => hq
    rw [in_blank] at hbk
    rw [eq_cp c 34 _ (by decide)] at hq
    have hbk' : blank c = false := by simpa using hbk
    rename Fr _ _ _ _ => F4
    rename News _ _ _ _ => N4
    rw [mG_eq1] at F4
    rw [goO_quote _ _ _ hbk' (by simpa using hq)] at hR
    subst hR
    refine loopS B hbg ?_ ?_ X O (stop := quoteQ) (turnA B hbg ?_ ?_ X O) F4 N4 (by omega) hln ?_ ?_
    · exact hA
    · exact hh
    · exact hA
    · exact hh
    · exact fun h tk ch tt' ln' t1' e' ls' n' h1 h2 F5 N5 hl => ret h _ ch tt' ln' t1' e' ls' n' h1 h2 F5 N5 hl
    · intro h tk ch tt' ln' t1' e' n' h1 F5 N5 hl
      k_steps
      exact done h _ ch tt' ln' t1' e' n' h1 F5 N5 hl
  · rename (Builtin.Str.occurrences _ _ _ _ _).isEmpty = true => hbk
    rename (_ == Str.ofString "\"") = false => hq
    rename (_ == Str.ofString "\\") = true => hq2
    rw [in_blank] at hbk
    rw [eq_cp c 34 _ (by decide)] at hq
    rw [eq_cp c 92 _ (by decide)] at hq2
    have hbk' : blank c = false := by simpa using hbk
    have hc : c = 92 := by simpa using hq2
    rename Fr _ _ _ _ => F2
    rename News _ _ _ _ => N2
    show wpAny _ _ (call (.ref 35) [.ref C.lex]) _ _ _
    refine wpAny_call (lx_read B hbg ?_ ?_ O (ci := C.ci) rfl F2 N2 (by omega) hln ?_ ?_)
    · exact hA
    · exact hh
    · intro hw h' tk' t' F3 N3
      subst hw
      clear F2 N2
      k_steps
      rename Fr _ _ _ _ => F4
      rename News _ _ _ _ => N4
      rw [mG_eq3] at F4
      simp only [List.map_nil] at hR
      rw [goO_esc0 _ _ hbk' hc] at hR
      subst hR
      refine loopS B hbg ?_ ?_ X O (stop := blank) (turnB B hbg ?_ ?_ X O) F4 N4 ?_ hln ?_ ?_
      · exact hA
      · exact hh
      · exact hA
      · exact hh
      · rw [len_app]; have : (Str.ofString "").length = 0 := by decide
        omega
      · exact fun h tk ch tt' ln' t1' e' ls' n' h1 h2 F5 N5 hl => ret h _ ch tt' ln' t1' e' ls' n' h1 h2 F5 N5 hl
      · intro h tk ch tt' ln' t1' e' n' h1 F5 N5 hl
        k_steps
        exact done h _ ch tt' ln' t1' e' n' h1 F5 N5 hl
    · intro d td r hw h' tk' ln' t1' e2 n' F3 N3 hl
      subst hw
      clear F2 N2
      simp only [List.length_cons] at hz
      k_steps
      rename Fr _ _ _ _ => F4
      rename News _ _ _ _ => N4
      rw [mG_eq3] at F4
      simp only [List.map_cons] at hR
      rw [goO_esc _ _ _ _ hbk' hc] at hR
      subst hR
      refine loopS B hbg ?_ ?_ X O (stop := blank) (turnB B hbg ?_ ?_ X O) F4 N4 ?_ hl ?_ ?_
      · exact hA
      · exact hh
      · exact hA
      · exact hh
      · rw [len_app]; have : (⟨#[d]⟩ : Str).length = 1 := rfl
        omega
      · exact fun h tk ch tt' ln' t1' e' ls' n' h1 h2 F5 N5 hl => ret h _ ch tt' ln' t1' e' ls' n' h1 (by simp only [List.length_cons]; omega) F5 N5 hl
      · intro h tk ch tt' ln' t1' e' n' h1 F5 N5 hl
        k_steps
        exact done h _ ch tt' ln' t1' e' n' h1 F5 N5 hl
  · rename (Builtin.Str.occurrences _ _ _ _ _).isEmpty = true => hbk
    rename (_ == Str.ofString "\"") = false => hq
    rename (_ == Str.ofString "\\") = false => hq2
    rw [in_blank] at hbk
    rw [eq_cp c 34 _ (by decide)] at hq
    rw [eq_cp c 92 _ (by decide)] at hq2
    have hbk' : blank c = false := by simpa using hbk
    rename Fr _ _ _ _ => F4
    rename News _ _ _ _ => N4
    rw [mG_eq2] at F4
    rw [goO_other _ _ _ hbk' (by simpa using hq) (by simpa using hq2)] at hR
    subst hR
    refine loopS B hbg ?_ ?_ X O (stop := blank) (turnB B hbg ?_ ?_ X O) F4 N4 ?_ hln ?_ ?_
    · exact hA
    · exact hh
    · exact hA
    · exact hh
    · rw [len_app]; have : (⟨#[c]⟩ : Str).length = 1 := rfl
      omega
    · exact fun h tk ch tt' ln' t1' e' ls' n' h1 h2 F5 N5 hl => ret h _ ch tt' ln' t1' e' ls' n' h1 h2 F5 N5 hl
    · intro h tk ch tt' ln' t1' e' n' h1 F5 N5 hl
      k_steps
      exact done h _ ch tt' ln' t1' e' n' h1 F5 N5 hl
  · rename (Builtin.Str.occurrences _ _ _ _ _).isEmpty = false => hbk
    rw [in_blank] at hbk
    rename Fr _ _ _ _ => F4
    rename News _ _ _ _ => N4
    rw [mG_eq1] at F4
    exact cont_ (by simpa using hbk) _ _ _ F4 N4
end
end Mine
end
section
open PySem PySem.W PySem.Calls PyProof.Rows PySem.Spec
set_option maxRecDepth 100000
set_option maxHeartbeats 1000000
namespace Mine
local macro_rules | `(tactic| walk_at "exec For Name Name cons nil") => `(tactic| (k_here; with_reducible refine Mine.hFor ?_))
local macro_rules | `(tactic| walk_at "call builtin") => `(tactic| (k_here; (with_reducible show wpAny _ _ (call (Value.builtin "iter") _) _ _ _); refine Halt.of ?_))
section
variable {w : World} {mg mb : Str → Option Value} {hb g : Heap} {A : Around} {s : Shared} {L : Addr}
inductive InvO (w : World) (g : Heap) (L : Addr) (C : LxC) (s : Shared) (N0 : Nat) (R : Str × List Nat) (k : Nat) (s' : Shared) : Prop
  | mk (h : Heap) (tk : Tok) (ch : Option Value) (tok' : Str) (tt' : Tok) (ln' : Int) (t1' : Tok) (e' : Nat) (ls' : List (Nat × Tok)) (n' : Nat) (h1 : s' = { s with heap := h, toks := tk }) (h2 : ls'.length ≤ N0) (h3 : 0 ≤ ln' ∧ ln' + (ls'.length : Int) < 50000) (h4 : Fr g L h (mG C ch tok' tt'))
    (h5 : (k = ls'.length + 1 ∧ goO tok' (ls'.map (·.1)) = R ∧ tok'.length + ls'.length ≤ 2000 ∧ News g L h (C.news w.params C.ci ln' t1' e' ls' n')) ∨ (k = 0 ∧ tok' = R.1 ∧ R.2 = [] ∧ ls' = [] ∧ News g L h (C.news w.params ciEnd ln' t1' e' ls' n'))) : InvO w g L C s N0 R k s'
theorem loopO (B : Base w mg mb hb) (hbg : Sub hb g) (hA : A.depth + 1 < recursionLimit) (hh : A.handled = none) (X : (KF w.params).In g) {C : LxC} (O : C.Ok g) {Q : Flow → Shared → Prop}
    {ln : Int} {t1 tt : Tok} {e n : Nat} {ls : List (Nat × Tok)} {ch : Option Value} {tok : Str}
    (F : Fr g L s.heap (mG C ch tok tt)) (N : News g L s.heap (C.news w.params C.ci ln t1 e ls n)) (hz : tok.length + ls.length ≤ 2000) (hln : 0 ≤ ln ∧ ln + ls.length < 50000)
    (ret : ∀ h tk ch tt' ln' t1' e' ls' n', ls'.map (·.1) = (goO tok (ls.map (·.1))).2 → ls'.length ≤ ls.length → Fr g L h (mG C ch (goO tok (ls.map (·.1))).1 tt') → News g L h (C.news w.params C.ci ln' t1' e' ls' n') → (0 ≤ ln' ∧ ln' + ls'.length < 50000) → Q (.ret (.str (goO tok (ls.map (·.1))).1 tt')) { s with heap := h, toks := tk })
    (done : ∀ h tk ch tt' ln' t1' e' n', (goO tok (ls.map (·.1))).2 = [] → Fr g L h (mG C ch (goO tok (ls.map (·.1))).1 tt') → News g L h (C.news w.params ciEnd ln' t1' e' [] n') → (0 ≤ ln' ∧ ln' < 50000) → Q .next { s with heap := h, toks := tk }) :
    wpAny (model pw w) A (exec gtFor (gtEnv L)) Q (fun _ _ => False) s := by
  have hr0 : ∃ p1 p2 p3, gtFor = .For (.Name (Str.ofString "ch") p1) (.Name (Str.ofString "fiter") p2) (forBody gtFor) [] p3 := ⟨_, _, _, rfl⟩
  obtain ⟨p1, p2, p3, hr0⟩ := hr0
  rw [hr0]
  refine wpAny_For ?_
  have hb2 : (fq 1 2).2.2 = (fq 1 2).2.2 := rfl
  conv at hb2 => rhs; whnf
  have he : gtEnv L = gtEnv L := rfl
  conv at he => rhs; unfold gtEnv; rw [hb2]
  rw [he]
  walk1
  rw [← he]
  refine ci_self (N (C.I, _) (.head _)).1 ?_
  refine codeAny_forLoop_any (InvO w g L C s ls.length (goO tok (ls.map (·.1)))) ?_ (ls.length + 1) ⟨s.heap, s.toks, ch, tok, tt, ln, t1, e, ls, n, rfl, Nat.le_refl _, hln, F, .inl ⟨rfl, rfl, hz, N⟩⟩
  rintro k s' ⟨h, tk, ch', tok', tt', ln', t1', e', ls', n', rfl, hle, hln', F', hkind⟩
  rcases hkind with ⟨rfl, hgo, hz', N'⟩ | ⟨rfl, rfl, hR2, rfl, N'⟩
  · refine lx_next B hbg hA hh O X F' N' (by omega) hln' ?_ ?_
    · intro hw h2 tk2 F2 N2
      subst hw
      refine wpAny_execs_nil ?_
      have e1 : goO tok' (([] : List (Nat × Tok)).map (·.1)) = (tok', []) := rfl
      rw [e1] at hgo
      rw [← congrArg Prod.fst hgo, ← congrArg Prod.snd hgo] at done
      exact done h2 tk2 _ _ _ _ _ _ rfl F2 N2 (by simpa using hln')
    · intro c tc r hw h2 tk2 ln2 t2 e2 n2 F2 N2 hl2
      subst hw
      simp only [List.map_cons] at hgo
      simp only [List.length_cons] at hz' hle
      refine wpAny_of_eq (a := ()) rfl ?_
      refine wpAny_mono (turnO (Q := fun f s₃ => match f with
            | .next | .cont => ∃ m, m < r.length + 1 + 1 ∧ InvO w g L C s ls.length (goO tok (ls.map (·.1))) m s₃
            | .brk => Q .next s₃
            | .ret v => Q (.ret v) s₃) B hbg hA hh X O hgo.symm F2 N2 (by omega) hl2 ?_ ?_ ?_) (fun _ s₂ h₂ => wpAny_mono h₂ (fun f s₃ h₃ => h₃) fun _ _ x => x.elim) fun _ _ x => x.elim
      · intro hb h3 tk3 ch3 F3 N3
        rw [goO_blank _ _ _ hb] at hgo
        exact ⟨r.length + 1, by omega, h3, tk3, ch3, _, _, _, _, _, r, _, rfl, by omega, hl2, F3, .inl ⟨rfl, hgo, by omega, N3⟩⟩
      · exact fun h3 tk3 ch3 tt3 ln3 t13 e3 ls3 n3 h31 h32 F3 N3 hl3 => ret h3 tk3 ch3 tt3 ln3 t13 e3 ls3 n3 h31 (by omega) F3 N3 hl3
      · exact fun h3 tk3 ch3 tt3 ln3 t13 e3 n3 h31 F3 N3 hl3 => ⟨0, by omega, h3, tk3, ch3, _, _, _, _, _, [], _, rfl, by simp, by simpa using hl3, F3, .inr ⟨rfl, rfl, h31, rfl, N3⟩⟩
  · refine ci_ended hh (N' (C.I, _) (.head _)).1 fun h2 tk2 hk2 => ?_
    refine wpAny_execs_nil ?_
    exact done h2 tk2 _ _ _ _ _ _ hR2 (F'.keeps hk2) (N'.grown hk2) (by simpa using hln')
end
end Mine
end
section
open PySem PySem.W PySem.Calls PyProof.Rows PySem.Spec
set_option maxRecDepth 100000
set_option maxHeartbeats 1000000
namespace Mine
local macro_rules | `(tactic| walk_at "exec For Name Name cons nil") => `(tactic| (k_here; with_reducible refine Mine.hFor ?_))
noncomputable abbrev mGr (I lex : Addr) (ch : Option Value) (tok : Str) (tt : Tok) : Str → Option Value := fun z =>
  if z = Str.ofString "token" then some (.str tok tt) else if z = Str.ofString "ch" then ch else if z = Str.ofString "fiter" then some (.ref I) else if z = Str.ofString "self" then some (.ref lex) else none
theorem mG_eq0 {I lex : Addr} {tok : Str} {tt : Tok} : (fun z => if z = Str.ofString "fiter" then some (Value.ref I) else if z = Str.ofString "token" then some (Value.str tok tt) else List.lookup z [(Str.ofString "self", Value.ref lex)].reverse) = mGr I lex none tok tt := by
  funext z
  by_cases e1 : z = Str.ofString "token"
  · subst e1; rfl
  by_cases e2 : z = Str.ofString "ch"
  · subst e2; rfl
  by_cases e3 : z = Str.ofString "fiter"
  · subst e3; rfl
  by_cases e4 : z = Str.ofString "self"
  · subst e4; rfl
  simp only [mGr, if_neg e1, if_neg e2, if_neg e3, if_neg e4, List.reverse_cons, List.reverse_nil, List.nil_append, List.lookup_cons, List.lookup_nil, beq_eq_false_iff_ne.mpr e4]
theorem lexTail {w : World} {mg mb : Str → Option Value} {hb g : Heap} {A : Around} {s : Shared} {L : Addr} (B : Base w mg mb hb) (hbg : Sub hb g) (hA : A.depth + 1 < recursionLimit) (hh : A.handled = none) (X : (KF w.params).In g) {C : LxC} (O : C.Ok g) {Q : Flow → Shared → Prop}
    {ln : Int} {t1 tt tI : Tok} {e n : Nat} {ls : List (Nat × Tok)} {tok : Str} {q I : Addr}
    (F : Fr g L s.heap (mGr I C.lex none tok tt)) (N : News g L s.heap ((I, ciObj (.ref q) (.str (Str.ofString "") tI) (.bool false)) :: (q, methodObj (.ref 35) (.ref C.lex)) :: (C.pb, listOf ([] : List Value).toArray C.n0) :: C.core w.params ln t1 e ls n)) (hz : tok.length + ls.length ≤ 2000) (hln : 0 ≤ ln ∧ ln + ls.length < 50000)
    (ret : ∀ h tk m tt' ln' t1' e' ls' n', ls'.map (·.1) = (goO tok (ls.map (·.1))).2 → ls'.length ≤ ls.length → Fr g L h m → News g L h ((C.pb, listOf ([] : List Value).toArray C.n0) :: C.core w.params ln' t1' e' ls' n') → (0 ≤ ln' ∧ ln' + ls'.length < 50000) → Q (.ret (.str (goO tok (ls.map (·.1))).1 tt')) { s with heap := h, toks := tk })
    (done : ∀ h tk ch tt' ln' t1' e' n', (goO tok (ls.map (·.1))).2 = [] → Fr g L h (mGr I C.lex ch (goO tok (ls.map (·.1))).1 tt') → News g L h ((C.pb, listOf ([] : List Value).toArray C.n0) :: C.core w.params ln' t1' e' [] n') → (0 ≤ ln' ∧ ln' < 50000) → Q .next { s with heap := h, toks := tk }) :
    wpAny (model pw w) A (exec gtFor (gtEnv L)) Q (fun _ _ => False) s := by
  let C' : LxC := { C with q := q, I := I, tI := tI }
  have O' : C'.Ok g := ⟨O.hc, O.hd, O.hv, O.he, O.dd, O.dp⟩
  refine loopO B hbg hA hh X (C := C') O' (ch := none) F N hz hln ?_ ?_
  · exact fun h tk ch tt' ln' t1' e' ls' n' h1 h2 F5 N5 hl => ret h tk _ tt' ln' t1' e' ls' n' h1 h2 F5 (fun p hp => N5 p (.tail _ (.tail _ hp))) hl
  · exact fun h tk ch tt' ln' t1' e' n' h1 F5 N5 hl => done h tk ch tt' ln' t1' e' n' h1 F5 (fun p hp => N5 p (.tail _ (.tail _ hp))) hl
theorem core_same {C : LxC} {P : Params} {ln ln' : Int} {t1 t1' : Tok} {e e' n n' : Nat} {ls ls' : List (Nat × Tok)} {x : Addr × Obj} {p : Addr × Obj} (hp : p ∈ x :: C.core P ln t1 e ls n) (h1 : p.1 ≠ C.D) (h2 : p.1 ≠ C.dx) : p ∈ x :: C.core P ln' t1' e' ls' n' := by
  simp only [List.mem_cons, List.not_mem_nil, or_false] at hp ⊢
  rcases hp with rfl | rfl | rfl | rfl | rfl | rfl | rfl | rfl
  · exact .inl rfl
  · exact .inr (.inl rfl)
  · exact absurd rfl h2
  · exact .inr (.inr (.inr (.inl rfl)))
  · exact .inr (.inr (.inr (.inr (.inl rfl))))
  · exact .inr (.inr (.inr (.inr (.inr (.inl rfl)))))
  · exact .inr (.inr (.inr (.inr (.inr (.inr (.inl rfl))))))
  · exact absurd rfl h1
theorem ci_makeN {prog : Program} {w : World} {A : Around} {E : Value → Shared → Prop} {s : Shared} {g : Heap} {L q : Addr} {m : Str → Option Value} {news : List (Addr × Obj)} {f self sv : Value} {Q : Value → Shared → Prop} (F : Fr g L s.heap m) (N : News g L s.heap ((q, methodObj f self) :: news))
    (hQ : ∀ I h', Fr g L h' m → News g L h' ((I, ciObj (.ref q) sv (.bool false)) :: (q, methodObj f self) :: news) → Q (.ref I) { s with heap := h' }) : wpAny (model prog w) A (call (.builtin "iter") [.ref q, sv]) Q E s := by
  refine ci_make (N _ (.head _)).1 (hQ _ _ (F.push _) fun p hp => ?_)
  rcases List.mem_cons.mp hp with rfl | hp
  · exact ⟨Heap.get?_push_size _ rfl, (Nat.ne_of_gt F.ns.lt : _), next_is_new F⟩
  · exact ⟨Heap.get?_push_of_some _ (N p hp).1, (N p hp).2⟩
section
variable {w : World} {mg mb : Str → Option Value} {hb : Heap} {A : Around} {s : Shared} {Q E : Value → Shared → Prop}
theorem c_lex (B : Base w mg mb hb) (hs : Sub hb s.heap) (hA : A.depth + 2 < recursionLimit) (hh : A.handled = none) {C : LxC} {ln : Int} {t1 : Tok} {e n : Nat} {ls : List (Nat × Tok)}
    (NN : ∀ p ∈ (C.pb, listOf ([] : List Value).toArray C.n0) :: C.core w.params ln t1 e ls n, s.heap.get? p.1 = some p.2 ∧ hb.get? p.1 = none)
    (O : C.Ok s.heap) (hcl : C.c' ∉ ((C.pb, listOf ([] : List Value).toArray C.n0) :: C.core w.params ln t1 e ls n).map (·.1)) (hz : ls.length ≤ 2000) (hln : 0 ≤ ln ∧ ln + ls.length < 50000)
    (ret : ∀ h' tk' tt ln' t1' e' ls' n', ls'.map (·.1) = (goO (Str.ofString "") (ls.map (·.1))).2 → ls'.length ≤ ls.length → (∀ b o, b ≠ C.D → b ≠ C.dx → s.heap.get? b = some o → h'.get? b = some o) →
      h'.get? C.D = some (listOf (lv ls').toArray n') → h'.get? C.dx = some (dictOf (lexE w.params ln' t1' (.ref C.sx) C.t2 C.pb C.k1 C.k2 C.k3 C.k4) e') → (0 ≤ ln' ∧ ln' + ls'.length < 50000) → Q (.str (goO (Str.ofString "") (ls.map (·.1))).1 tt) { s with heap := h', toks := tk' }) :
    wpAny (model pw w) A (call (.ref 42) [.ref C.lex]) Q E s := by
  refine enterG B hs ((C.pb, listOf ([] : List Value).toArray C.n0) :: C.core w.params ln t1 e ls n) NN (f := 42) (name := "get_token") (qual := "_netrclex.get_token") (binds := [("self", .ref C.lex)]) (by k_is) (by k_is) (by omega) ?_ ?_ ?_ ?_ ?_ ?_ ?_
  · exact BindsTo.of_eq rfl
  · exact locs rfl
  · intro g L h₁ hg hg' hL F0 N0 X T hbg
    have hc' : g.get? C.c' = some C.oc := hg _ _ O.hc hcl
    have hr1 : gtFor = gtFor := rfl
    conv at hr1 => rhs; whnf
    have hb1 : (fq 1 2).2.1 = (fq 1 2).2.1 := rfl
    conv at hb1 => rhs; whnf
    have hb2 : (fq 1 2).2.2 = (fq 1 2).2.2 := rfl
    conv at hb2 => rhs; whnf
    rw [hb1, hb2]
    k_steps
    rename Fr _ _ _ _ => F2
    rename News _ _ _ _ => N2
    refine ci_makeN F2 N2 fun I h3 F3 N3 => ?_
    clear F2 N2
    k_steps
    rename Fr _ _ _ _ => F4
    rename News _ _ _ _ => N4
    rw [mG_eq0] at F4
    rw [← hr1, ← hb2]
    have O' : C.Ok g := ⟨hc', O.hd, O.hv, O.he, O.dd, O.dp⟩
    refine lexTail B hbg ?_ ?_ X O' F4 N4 ?_ hln ?_ ?_
    · exact hA
    · exact hh
    · have : (Str.ofString "").length = 0 := by decide
      omega
    · intro h5 tk5 m5 tt5 ln5 t15 e5 ls5 n5 h51 h52 F5 N5 hl5
      refine ret _ _ tt5 ln5 t15 e5 ls5 n5 h51 h52 (fun b o hb hb' eo => chgG hg F5 N5 b o eo ?_) (N5 (C.D, _) (.tail _ (.tail _ (.tail _ (.tail _ (.tail _ (.tail _ (.tail _ (.head _))))))))).1 (N5 (C.dx, _) (.tail _ (.tail _ (.head _)))).1 hl5
      by_cases hm : b ∈ ((C.pb, listOf ([] : List Value).toArray C.n0) :: C.core w.params ln t1 e ls n).map (·.1)
      · right
        obtain ⟨p, hp, rfl⟩ := List.mem_map.mp hm
        have hpo := (NN p hp).1
        rw [eo] at hpo
        cases hpo
        exact core_same hp hb hb'
      · exact .inl hm
    · intro h5 tk5 ch5 tt5 ln5 t15 e5 n5 h51 F5 N5 hl5
      rw [hb2]
      k_steps
      rename Fr _ _ _ _ => F6
      rename News _ _ _ _ => N6
      refine ret _ _ tt5 ln5 t15 e5 [] n5 h51.symm (by simp) (fun b o hb hb' eo => chgG hg F6 N6 b o eo ?_) (N6 (C.D, _) (.tail _ (.tail _ (.tail _ (.tail _ (.tail _ (.tail _ (.tail _ (.head _))))))))).1 (N6 (C.dx, _) (.tail _ (.tail _ (.head _)))).1 (by simpa using hl5)
      by_cases hm : b ∈ ((C.pb, listOf ([] : List Value).toArray C.n0) :: C.core w.params ln t1 e ls n).map (·.1)
      · right
        obtain ⟨p, hp, rfl⟩ := List.mem_map.mp hm
        have hpo := (NN p hp).1
        rw [eo] at hpo
        cases hpo
        exact core_same hp hb hb'
      · exact .inl hm
  · rfl
  · rfl
  · rfl
  · decide
end
end Mine
end
section
open PySem PySem.W PySem.Calls PyProof.Rows PySem.Spec
set_option maxRecDepth 100000
set_option maxHeartbeats 1000000
namespace Mine
local macro_rules | `(tactic| walk_at "call ref") => `(tactic| (k_here; with_reducible refine Mine.hCall ?_))
noncomputable def ringFor1 : Stmt := nth (fp 68).2.1 6
noncomputable def ringFor2 : Stmt := nth (fp 68).2.1 7
theorem lx_upd {g h h' : Heap} {L : Addr} {m : Str → Option Value} {C : LxC} {pre : List (Addr × Obj)} {P : Params} {ln ln' : Int} {t1 t1' : Tok} {e e2 n n' : Nat} {ls r : List (Nat × Tok)} (he : C.o1.data = .cell (some (.ref C.D))) (dd : @Ne Nat C.dx C.sdx)
    (F : Fr g L h m) (N : News g L h (pre ++ C.core P ln t1 e ls n)) (hpre : ∀ p ∈ pre, p.1 ≠ C.D ∧ p.1 ≠ C.dx) (hk : ∀ b o, b ≠ C.D → b ≠ C.dx → h.get? b = some o → h'.get? b = some o) (hD : h'.get? C.D = some (listOf (lv r).toArray n'))
    (hdx : h'.get? C.dx = some (dictOf (lexE P ln' t1' (.ref C.sx) C.t2 C.pb C.k1 C.k2 C.k3 C.k4) e2)) : Fr g L h' m ∧ News g L h' (pre ++ C.core P ln' t1' e2 r n') := by
  have M : ∀ p ∈ C.core P ln t1 e ls n, h.get? p.1 = some p.2 ∧ p.1 ≠ L ∧ g.get? p.1 = none := fun p hp => N p (List.mem_append_right _ hp)
  have z3 := M (C.lex, _) (.head _)
  have z4 := M (C.dx, _) (.tail _ (.head _))
  have z5 := M (C.sx, _) (.tail _ (.tail _ (.head _)))
  have z6 := M (C.sdx, _) (.tail _ (.tail _ (.tail _ (.head _))))
  have z7 := M (C.f, _) (.tail _ (.tail _ (.tail _ (.tail _ (.head _)))))
  have z8 := M (C.cL, _) (.tail _ (.tail _ (.tail _ (.tail _ (.tail _ (.head _))))))
  have z9 := M (C.D, _) (.tail _ (.tail _ (.tail _ (.tail _ (.tail _ (.tail _ (.head _)))))))
  have nD : ∀ b o, h.get? b = some o → (o.cls == Value.type "list") = false → b ≠ C.D := fun b o e q => ne_of_obj e z9.1 q
  have nx : ∀ b o, h.get? b = some o → (o.cls == Value.type "dict") = false → b ≠ C.dx := fun b o e q => ne_of_obj e z4.1 q
  refine ⟨⟨F.ns.at' fun o e => hk _ o (fun q => z9.2.1 q.symm) (fun q => z4.2.1 q.symm) e, fun b o e => hk b o (fun q => ?_) (fun q => ?_) (F.keep b o e), F.above⟩, ?_⟩
  · rw [q, z9.2.2] at e; cases e
  · rw [q, z4.2.2] at e; cases e
  intro p hp
  rcases List.mem_append.mp hp with hp | hp
  · have z := N p (List.mem_append_left _ hp)
    exact ⟨hk _ _ (hpre p hp).1 (hpre p hp).2 z.1, z.2⟩
  rcases hp with _ | ⟨_, hp⟩
  · exact ⟨hk _ _ (nD _ _ z3.1 (by kernel_rfl)) (nx _ _ z3.1 (by kernel_rfl)) z3.1, z3.2⟩
  rcases hp with _ | ⟨_, hp⟩
  · exact ⟨hdx, z4.2⟩
  rcases hp with _ | ⟨_, hp⟩
  · exact ⟨hk _ _ (nD _ _ z5.1 (by kernel_rfl)) (nx _ _ z5.1 (by kernel_rfl)) z5.1, z5.2⟩
  rcases hp with _ | ⟨_, hp⟩
  · exact ⟨hk _ _ (nD _ _ z6.1 (by kernel_rfl)) (fun q => dd q.symm) z6.1, z6.2⟩
  rcases hp with _ | ⟨_, hp⟩
  · exact ⟨hk _ _ (nD _ _ z7.1 (by kernel_rfl)) (nx _ _ z7.1 (by kernel_rfl)) z7.1, z7.2⟩
  rcases hp with _ | ⟨_, hp⟩
  · refine ⟨hk _ _ (fun q => ?_) (fun q => ?_) z8.1, z8.2⟩
    · have q' : C.cL = C.D := q
      have := z8.1
      rw [q', z9.1] at this
      have := he.symm.trans (congrArg Obj.data (Option.some.inj this)).symm
      cases this
    · have q' : C.cL = C.dx := q
      have := z8.1
      rw [q', z4.1] at this
      have := he.symm.trans (congrArg Obj.data (Option.some.inj this)).symm
      cases this
  rcases hp with _ | ⟨_, hp⟩
  · exact ⟨hD, z9.2⟩
  · cases hp
structure LxC.Rk (C : LxC) (W : Addr) : Prop where
  hd : C.oc.data = .fields C.vs
  hv : C.vs[1]? = some (.str C.qual C.tq)
  he : C.o1.data = .cell (some (.ref C.D))
  dd : @Ne Nat C.dx C.sdx
  dp : @Ne Nat C.pb C.D
  hcl : C.c' ∉ [C.pb, C.lex, C.dx, C.sx, C.sdx, C.f, C.cL, C.D]
  w1 : @Ne Nat W C.c'
  w2 : @Ne Nat W C.pb
  w3 : @Ne Nat W C.D
  w4 : @Ne Nat W C.cL
noncomputable abbrev mR (text : Str) (tt : Tok) (C : LxC) (W : Addr) (to wo : Option Value) : Str → Option Value := fun z =>
  if z = Str.ofString "word" then wo else if z = Str.ofString "turn" then to else if z = Str.ofString "words" then some (.ref W) else if z = Str.ofString "lexer" then some (.ref C.lex) else if z = Str.ofString "stream" then some (.ref C.sx) else if z = Str.ofString "text" then some (.str text tt) else none
theorem mR_eq1 {text : Str} {tt : Tok} {C : LxC} {W : Addr} {to wo : Option Value} {v : Value} : (fun z => if z = Str.ofString "turn" then some v else mR text tt C W to wo z) = mR text tt C W (some v) wo := by
  funext z
  by_cases e1 : z = Str.ofString "word"
  · subst e1; rfl
  by_cases e2 : z = Str.ofString "turn"
  · subst e2; rfl
  simp only [mR, if_neg e1, if_neg e2]
theorem mR_eq2 {text : Str} {tt : Tok} {C : LxC} {W : Addr} {to wo : Option Value} {v : Value} : (fun z => if z = Str.ofString "word" then some v else mR text tt C W to wo z) = mR text tt C W to (some v) := by
  funext z
  by_cases e1 : z = Str.ofString "word"
  · subst e1; rfl
  simp only [mR, if_neg e1]
noncomputable abbrev LxC.ring (C : LxC) (P : Params) (W : Addr) (ws : List Value) (nW : Nat) (ln : Int) (t1 : Tok) (e : Nat) (ls : List (Nat × Tok)) (n : Nat) : List (Addr × Obj) :=
  (W, listOf ws.toArray nW) :: (C.c', C.oc) :: (C.pb, listOf ([] : List Value).toArray C.n0) :: C.core P ln t1 e ls n
noncomputable abbrev rgEnv (L : Addr) : Env := envOfC (Str.ofString "_law_ring") (fp 68).2.2 L 177 (.ref 176)
noncomputable def numOk (x : Str) : Prop := x.cps.size ≤ 1000 ∧ foldOk x ∧ JoinOk (Str.ofString "") (folded x) = true
noncomputable def numOf (x : Str) : Int := numB (Txt.join (Str.ofString "") (folded x))
section
variable {w : World} {mg mb : Str → Option Value} {hb g : Heap} {A : Around} {s : Shared} {L : Addr} {Q : Flow → Shared → Prop}
theorem ring_turn (B : Base w mg mb hb) (hbg : Sub hb g) (hA : A.depth + 6 < recursionLimit) (hh : A.handled = none) (X : (KF w.params).In g) (T : Top vq looseF (ExcName.means hb) mg mb g) {C : LxC} {W : Addr} (O : C.Rk W) {text : Str} {tt : Tok} {to wo : Option Value} {ws : List Value} {nW : Nat} {ln : Int} {t1 : Tok} {e n : Nat} {ls : List (Nat × Tok)} {px : Pos} {v : Value} {I : Addr} {io : Obj} (hio : io.cls = .type "range_iterator")
    (F : Fr g L s.heap (mR text tt C W to wo)) (N : News g L s.heap ((I, io) :: C.ring w.params W ws nW ln t1 e ls n)) (hz : ls.length ≤ 2000) (hln : 0 ≤ ln ∧ ln + ls.length < 50000) (hw : ws.length < 500)
    (hn : numOk (goO (Str.ofString "") (ls.map (·.1))).1)
    (next : ∀ (h : Heap) (tk tx : Tok) (ln' : Int) (t1' : Tok) (e' : Nat) (ls' : List (Nat × Tok)) (n' nW' : Nat), ls'.map (·.1) = (goO (Str.ofString "") (ls.map (·.1))).2 → ls'.length ≤ ls.length → (0 ≤ ln' ∧ ln' + ls'.length < 50000) →
      Fr g L h (mR text tt C W (some v) wo) → News g L h ((I, io) :: C.ring w.params W (ws ++ [.str (goO (Str.ofString "") (ls.map (·.1))).1 tx]) nW' ln' t1' e' ls' n') →
      Q (if numOf (goO (Str.ofString "") (ls.map (·.1))).1 = 0 then .brk else .next) { s with heap := h, toks := tk }) :
    wpAny (model pw w) A (assign (PySem.Expr.Name (Str.ofString "turn") px) (rgEnv L) v) (fun _ s₂ => wpAny (model pw w) A (execs (forBody ringFor1) (rgEnv L)) Q (fun _ _ => False) s₂) (fun _ _ => False) s := by
  have hr1 : forBody ringFor1 = forBody ringFor1 := rfl
  conv at hr1 => rhs; whnf
  have hb2 : (fp 68).2.2 = (fp 68).2.2 := rfl
  conv at hb2 => rhs; whnf
  unfold rgEnv
  rw [hr1, hb2]
  clear hr1 hb2
  k_steps
  rename Fr _ _ _ _ => F2
  rename News _ _ _ _ => N2
  show wpAny _ _ (call (.ref 42) [.ref C.lex]) _ _ _
  have ch : ∀ p ∈ (I, io) :: C.ring w.params W ws nW ln t1 e ls n, hb.get? p.1 = none := fun p hp => by
    cases q : hb.get? p.1 with
    | none => rfl
    | some o => have := hbg _ _ q; rw [(N2 p hp).2.2] at this; cases this
  refine c_lex B ?_ ?_ ?_ (C := C) (fun p hp => ⟨(N2 p (.tail _ (.tail _ (.tail _ hp)))).1, ch p (.tail _ (.tail _ (.tail _ hp)))⟩) ⟨(N2 (C.c', C.oc) (.tail _ (.tail _ (.head _)))).1, O.hd, O.hv, O.he, O.dd, O.dp⟩ O.hcl hz hln ?_
  · exact hbOf hbg F2.keep
  · exact (dlt0 hA rfl : A.depth + 2 < recursionLimit)
  · exact hh
  intro h3 tk3 tx ln3 t13 e3 ls3 n3 h31 h32 hk3 hD3 hx3 hl3
  have nc : ∀ a ∈ [C.pb, C.lex, C.dx, C.sx, C.sdx, C.f, C.cL, C.D], C.c' ≠ a := fun a ha q => O.hcl (q ▸ ha)
  have U := lx_upd (pre := [(I, io), (W, listOf ws.toArray nW), (C.c', C.oc), (C.pb, listOf ([] : List Value).toArray C.n0)]) O.he O.dd F2 N2 (fun p hp => by
    have zx := (N2 (C.dx, _) (by k_memK)).1
    rcases hp with _ | ⟨_, hp⟩
    · exact ⟨ne_of_obj (N2 (I, _) (.head _)).1 (N2 (C.D, _) (by k_memK)).1 (by rw [hio]; kernel_rfl), ne_of_obj (N2 (I, _) (.head _)).1 zx (by rw [hio]; kernel_rfl)⟩
    rcases hp with _ | ⟨_, hp⟩
    · exact ⟨O.w3, ne_of_obj (N2 (W, _) (.tail _ (.head _))).1 zx (by kernel_rfl)⟩
    rcases hp with _ | ⟨_, hp⟩
    · exact ⟨nc _ (by simp), nc _ (by simp)⟩
    rcases hp with _ | ⟨_, hp⟩
    · exact ⟨O.dp, ne_of_obj (N2 (C.pb, _) (.tail _ (.tail _ (.tail _ (.head _))))).1 zx (by kernel_rfl)⟩
    · cases hp) hk3 hD3 hx3
  obtain ⟨F3, N3⟩ := U
  replace N3 : News g L h3 ((I, io) :: C.ring w.params W ws nW ln3 t13 e3 ls3 n3) := N3
  generalize goO (Str.ofString "") (ls.map (·.1)) = R at *
  obtain ⟨x, rr⟩ := R
  dsimp only at *
  have w1 := O.w1
  have w2 := O.w2
  have w3 := O.w3
  have w4 := O.w4
  have zW := (N3 (W, _) (.tail _ (.head _))).1
  have w0 : @Ne Nat W I := Ne.symm (ne_of_obj (N3 (I, _) (.head _)).1 zW (by rw [hio]; kernel_rfl))
  have w5 : @Ne Nat W C.lex := ne_of_obj zW (N3 (C.lex, _) (by k_memK)).1 (by kernel_rfl)
  have w6 : @Ne Nat W C.dx := ne_of_obj zW (N3 (C.dx, _) (by k_memK)).1 (by kernel_rfl)
  have w7 : @Ne Nat W C.sx := ne_of_obj zW (N3 (C.sx, _) (by k_memK)).1 (by kernel_rfl)
  have w8 : @Ne Nat W C.sdx := ne_of_obj zW (N3 (C.sdx, _) (by k_memK)).1 (by kernel_rfl)
  have w9 : @Ne Nat W C.f := ne_of_obj zW (N3 (C.f, _) (by k_memK)).1 (by kernel_rfl)
  clear F2 N2 ch nc
  k_steps
  rename Fr _ _ _ _ => F4
  rename News _ _ _ _ => N4
  refine tail_any ⟨_, (N4 (W, _) (.tail _ (.head _))).1, rfl⟩ slot_list_getitem.lookup (wpAny_getItem_list_neg (x := .str x tx) (isL (n := nW + 1) N4 (by k_memK)) ?_ ?_ ?_ ?_ ?_) (by with_unfolding_all rfl)
  · omega
  · simp only [List.size_toArray, List.length_append, List.length_cons, List.length_nil]
    omega
  · decide
  · have e1 : (-1 + ((ws ++ [Value.str x tx]).toArray.size : Int)).toNat = ws.length := by
      simp only [List.size_toArray, List.length_append, List.length_cons, List.length_nil]
      omega
    rw [e1]
    simp
  k_steps
  show wpAny _ _ (call (.ref 170) [.str x tx]) _ _ _
  refine c_num B ?_ ?_ ?_ x tx hn.1 hn.2.1 hn.2.2 ?_
  · exact hbOf hbg F4.keep
  · exact (dlt0 hA rfl : A.depth + 5 < recursionLimit)
  · exact hh
  intro h5 tk5 t5 sub5
  have F5 := F4.keeps sub5
  have N5 := N4.grown sub5
  clear F4 N4
  rw [show numB (Txt.join (Str.ofString "") (folded x)) = numOf x from rfl]
  k_steps
  show wpAny _ _ (call (.ref 158) [.int _ _]) _ _ _
  refine c_eof B ?_ ?_ ?_ _ _ ?_
  · exact hbOf hbg F5.keep
  · exact (dltz hA : A.depth < recursionLimit)
  · exact hh
  intro h6 tk6 sub6
  have F6 := F5.keeps sub6
  have N6 := N5.grown sub6
  clear F5 N5
  have e0 : (numOf x == 0) = decide (numOf x = 0) := by by_cases q : numOf x = 0 <;> simp [q]
  rw [e0]
  by_cases q : numOf x = 0
  · rw [decide_eq_true q]
    k_steps
    rename Fr _ _ _ _ => F7
    rename News _ _ _ _ => N7
    rw [mR_eq1] at F7
    have := next h6 tk6 tx ln3 t13 e3 ls3 n3 _ h31 h32 hl3 F7 N7
    rw [if_pos q] at this
    exact this
  · rw [decide_eq_false q]
    k_steps
    rename Fr _ _ _ _ => F7
    rename News _ _ _ _ => N7
    rw [mR_eq1] at F7
    have := next h6 tk6 tx ln3 t13 e3 ls3 n3 _ h31 h32 hl3 F7 N7
    rw [if_neg q] at this
    exact this
end
end Mine
end
section
open PySem PySem.W PySem.Calls PyProof.Rows PySem.Spec
set_option maxRecDepth 100000
set_option maxHeartbeats 1000000
namespace Mine
local macro_rules | `(tactic| walk_at "pyIter ref") => `(tactic| (k_here; (with_reducible show wpAny _ _ (pyIter (Value.ref _)) (fun it s₂ => TurnsAt _ _ _ _ _ _ _ _ _ it s₂) _ _); refine Halt.of ?_))
local macro_rules | `(tactic| walk_at "call ref") => `(tactic| (k_here; with_reducible refine Mine.hCall ?_))
noncomputable def Lx : List Nat → List Str → Prop
  | _, [] => False
  | r, [x] => (goO (Str.ofString "") r).1 = x ∧ numOk x ∧ numOf x = 0
  | r, x :: y :: q => (goO (Str.ofString "") r).1 = x ∧ numOk x ∧ numOf x ≠ 0 ∧ Lx (goO (Str.ofString "") r).2 (y :: q)
section
variable {w : World} {mg mb : Str → Option Value} {hb g : Heap} {A : Around} {s : Shared} {L : Addr} {Q : Flow → Shared → Prop}
inductive JR1 (P : Params) (text : Str) (tt : Tok) (C : LxC) (W : Addr) (N0 : Nat) (xs : List Str) (i : Nat) (m : Str → Option Value) (news : List (Addr × Obj)) : Prop
  | mk (to : Option Value) (ws : List Value) (nW : Nat) (ln : Int) (t1 : Tok) (e : Nat) (ls : List (Nat × Tok)) (n : Nat) (h1 : m = mR text tt C W to none) (h2 : news = C.ring P W ws nW ln t1 e ls n) (h3 : SV (xs.take i) ws) (h4 : i < xs.length) (h5 : Lx (ls.map (·.1)) (xs.drop i)) (h6 : ls.length ≤ N0) (h7 : 0 ≤ ln ∧ ln + (ls.length : Int) < 50000) : JR1 P text tt C W N0 xs i m news
theorem ring_for1 (B : Base w mg mb hb) (hbg : Sub hb g) (hA : A.depth + 6 < recursionLimit) (hh : A.handled = none) (X : (KF w.params).In g) (T : Top vq looseF (ExcName.means hb) mg mb g) {C : LxC} {W : Addr} (O : C.Rk W) {text : Str} {tt : Tok} {nW : Nat} {ln : Int} {t1 : Tok} {e n : Nat} {ls : List (Nat × Tok)} {xs : List Str}
    (F : Fr g L s.heap (mR text tt C W none none)) (N : News g L s.heap (C.ring w.params W [] nW ln t1 e ls n)) (hz : ls.length ≤ 2000) (hln : 0 ≤ ln ∧ ln + ls.length < 50000) (hw : xs.length < 500) (hx : Lx (ls.map (·.1)) xs) (hxt : xs.length ≤ text.length + 1) (htl : text.length ≤ 2000)
    (fin : ∀ h tk to ws nW ln t1 e ls n, SV xs ws → Fr g L h (mR text tt C W to none) → News g L h (C.ring w.params W ws nW ln t1 e ls n) → Q .next { s with heap := h, toks := tk }) :
    wpAny (model pw w) A (exec ringFor1 (rgEnv L)) Q (fun _ _ => False) s := by
  have hr1 : ringFor1 = ringFor1 := rfl
  conv at hr1 => rhs; whnf
  have hr2 : forBody ringFor1 = forBody ringFor1 := rfl
  conv at hr2 => rhs; whnf
  have hb2 : (fp 68).2.2 = (fp 68).2.2 := rfl
  conv at hb2 => rhs; whnf
  have he : rgEnv L = rgEnv L := rfl
  conv at he => rhs; unfold rgEnv; rw [hb2]
  rw [hr1, he]
  refine For_turns F ?_
  k_steps
  show wpAny _ _ _ _ _ _
  rename IsRange _ _ _ _ _ _ _ _ => R2
  rename Fr _ _ _ _ => F0
  rename News _ _ _ _ => N0
  refine iter_rangeT (n := text.length + 1) hh F0 N0 R2 (by rw [show (text.length : Int) + 1 = ((text.length + 1 : Nat) : Int) by omega]; exact sm_nat (by omega)) (by rw [show (text.length : Int) + 1 = ((text.length + 1 : Nat) : Int) by omega]; exact rs_nat _) fun I hIlt => ?_
  rw [← he]
  have hpos : 0 < xs.length := by cases xs with
    | nil => exact hx.elim
    | cons x r => simp
  refine restF (rangeI 0 (text.length + 1)) (JR1 w.params text tt C W ls.length xs) ⟨none, [], nW, ln, t1, e, ls, n, rfl, rfl, ⟨[], rfl, rfl⟩, hpos, hx, Nat.le_refl _, hln⟩ trivial ?_ ?_
  · rintro k a m₁ news₁ ha ⟨to, ws, nW', ln', t1', e', ls', n', rfl, rfl, sv, hk, hlx, hle, hl'⟩ - v h tk hv F1
    refine AllObj.cons fun o ho => AllObj.nil fun N1 => ?_
    simp only [List.cons_append, List.nil_append] at N1
    have svl := sv.length
    have hdk : xs.drop k = xs[k] :: xs.drop (k + 1) := List.drop_eq_getElem_cons hk
    have hno : (goO (Str.ofString "") (ls'.map (·.1))).1 = xs[k] ∧ numOk xs[k] ∧ (numOf xs[k] = 0 ↔ k + 1 = xs.length) ∧ (numOf xs[k] ≠ 0 → Lx (goO (Str.ofString "") (ls'.map (·.1))).2 (xs.drop (k + 1))) := by
      rw [hdk] at hlx
      cases hd : xs.drop (k + 1) with
      | nil =>
        rw [hd] at hlx
        obtain ⟨a1, a2, a3⟩ := hlx
        refine ⟨a1, a2, ⟨fun _ => ?_, fun _ => a3⟩, fun q => absurd a3 q⟩
        have := List.drop_eq_nil_iff.mp hd
        omega
      | cons y q =>
        rw [hd] at hlx
        obtain ⟨a1, a2, a3, a4⟩ := hlx
        refine ⟨a1, a2, ⟨fun z => absurd z a3, fun z => ?_⟩, fun _ => a4⟩
        have : (xs.drop (k + 1)).length = 0 := by rw [List.length_drop]; omega
        rw [hd] at this; cases this
    obtain ⟨e1, e2, e3, e4⟩ := hno
    rw [← hr2]
    refine ring_turn B hbg hA hh X T O ho F1 N1 (by omega) hl' (by rw [List.length_take] at svl; omega) (e1 ▸ e2) ?_
    intro h3 tk3 tx ln3 t13 e3' ls3 n3 nW3 h31 h32 hl3 F3 N3
    rw [e1] at N3 ⊢
    have sv' : SV (xs.take (k + 1)) (ws ++ [.str xs[k] tx]) := by
      rw [List.take_succ_eq_append_getElem hk]
      exact sv.snoc
    by_cases q : numOf xs[k] = 0
    · rw [if_pos q]
      have hfull := e3.mp q
      rw [List.take_of_length_le (by omega)] at sv'
      exact fin h3 tk3 _ _ _ _ _ _ _ _ sv' F3 (fun p hp => N3 p (.tail _ hp))
    · rw [if_neg q]
      refine ⟨h3, tk3, _, _, rfl, F3, N3, fun p hp qq hq => ?_, trivial, some v, _, nW3, ln3, t13, e3', ls3, n3, rfl, rfl, sv', ?_, h31 ▸ e4 q, by omega, hl3⟩
      · rw [List.mem_singleton.mp hq]
        have : p.1 ∈ (C.ring w.params W [] nW ln t1 e ls n).map (·.1) := (List.mem_map_of_mem (f := fun x => x.1) hp : p.1 ∈ (C.ring w.params W (ws ++ [.str xs[k] tx]) nW3 ln3 t13 e3' ls3 n3).map (·.1))
        obtain ⟨p', hp', ep⟩ := List.mem_map.mp this
        have := hIlt p' hp'
        rw [ep] at this
        exact Nat.ne_of_lt this
      · have : ¬ k + 1 = xs.length := fun z => q (e3.mpr z)
        omega
  · rintro m₁ news₁ ⟨to, ws, nW', ln', t1', e', ls', n', rfl, rfl, sv, hk, hlx, hle, hl'⟩ h tk F1 N1
    have e : (rangeI 0 (text.length + 1)).length = text.length + 1 := by simp [rangeI]
    omega
end
end Mine
end
section
open PySem PySem.W PySem.Calls PyProof.Rows PySem.Spec
set_option maxRecDepth 100000
set_option maxHeartbeats 1000000
namespace Mine
local macro_rules | `(tactic| walk_at "pyIter ref") => `(tactic| (k_here; (with_reducible show wpAny _ _ (pyIter (Value.ref _)) (fun it s₂ => TurnsAt _ _ _ _ _ _ _ _ _ it s₂) _ _); refine Halt.of ?_))
local macro_rules | `(tactic| walk_at "call ref") => `(tactic| (k_here; with_reducible refine Mine.hCall ?_))
section
variable {w : World} {mg mb : Str → Option Value} {hb g : Heap} {A : Around} {s : Shared} {L : Addr} {Q : Flow → Shared → Prop}
noncomputable abbrev LxC.rn2 (C : LxC) (P : Params) (W : Addr) (vs ws : List Value) (nW : Nat) (ln : Int) (t1 : Tok) (e n : Nat) : List (Addr × Obj) :=
  ringL P C.lex C.dx C.pb ln t1 (.ref C.sx) C.t2 C.k1 C.k2 C.k3 C.k4 e vs n [(W, listOf ws.toArray nW)]
inductive JR2 (P : Params) (text : Str) (tt : Tok) (C : LxC) (W : Addr) (to : Option Value) (ws : List Value) (nW : Nat) (ln : Int) (t1 : Tok) (e : Nat) (i : Nat) (m : Str → Option Value) (news : List (Addr × Obj)) : Prop
  | mk (wo : Option Value) (n : Nat) (h1 : m = mR text tt C W to wo) (h2 : news = C.rn2 P W (ws.take i) ws nW ln t1 e n) : JR2 P text tt C W to ws nW ln t1 e i m news
theorem ring_for2 (B : Base w mg mb hb) (hbg : Sub hb g) (hA : A.depth + 6 < recursionLimit) (hh : A.handled = none) (X : (KF w.params).In g) (T : Top vq looseF (ExcName.means hb) mg mb g) {C : LxC} {W : Addr} (O : C.Rk W) {text : Str} {tt : Tok} {nW : Nat} {ln : Int} {t1 : Tok} {e n : Nat} {xs : List Str} {ws : List Value} {to : Option Value}
    (F : Fr g L s.heap (mR text tt C W to none)) (N : News g L s.heap (C.rn2 w.params W [] ws nW ln t1 e n)) (sv : SV xs ws) (hw : xs.length < 500)
    (fin : ∀ h tk wo n, Fr g L h (mR text tt C W to wo) → News g L h (C.rn2 w.params W ws ws nW ln t1 e n) → Q .next { s with heap := h, toks := tk }) :
    wpAny (model pw w) A (exec ringFor2 (rgEnv L)) Q (fun _ _ => False) s := by
  have svl := sv.length
  have hr1 : ringFor2 = ringFor2 := rfl
  conv at hr1 => rhs; whnf
  have hb2 : (fp 68).2.2 = (fp 68).2.2 := rfl
  conv at hb2 => rhs; whnf
  have he : rgEnv L = rgEnv L := rfl
  conv at he => rhs; unfold rgEnv; rw [hb2]
  rw [hr1, he]
  refine For_turns F ?_
  k_steps
  show wpAny _ _ _ _ _ _
  rename Fr _ _ _ _ => F0
  rename News _ _ _ _ => N0
  refine iter_listTurns (vs := ws) (n := nW) (lo := listOf ws.toArray nW) hh F0 N0 (.tail _ (.tail _ (.tail _ (.head _)))) rfl rfl fun I hIlt => ?_
  refine restF (ws.map .val) (JR2 w.params text tt C W to ws nW ln t1 e) ⟨none, n, rfl, rfl⟩ ?_ ?_ ?_
  · exact ⟨.tail _ (.tail _ (.tail _ (.head _))), trivial⟩
  · rintro k a m₁ news₁ ha ⟨wo, n', rfl, rfl⟩ hsub v h tk hv F1
    have hk : k < ws.length := by
      have := (List.getElem?_eq_some_iff.mp ha).1
      simpa using this
    have hva : v = ws[k] := by
      rw [List.getElem?_map, List.getElem?_eq_getElem hk] at ha
      cases ha
      exact hv
    obtain ⟨l, hl, hlx⟩ := sv
    have hkl : k < l.length := by rw [hl] at hk; simpa [strValues] using hk
    have hvs : v = .str l[k].1 l[k].2 := by
      rw [hva]; simp only [hl, strValues, List.getElem_map]
    clear hva
    subst hvs
    refine AllObj.cons fun o ho => AllObj.nil fun N1 => ?_
    simp only [List.cons_append, List.nil_append] at N1
    have htk : ws.take k ++ [Value.str l[k].1 l[k].2] = ws.take (k + 1) := by
      rw [List.take_succ_eq_append_getElem hk]
      congr 2
      simp only [hl, strValues, List.getElem_map]
    generalize hlk : l[k].1 = x at *
    generalize hlt : l[k].2 = tx at *
    k_steps
    rename Fr _ _ _ _ => F2
    rename News _ _ _ _ => N2
    show wpAny _ _ (call (.ref 49) [.ref C.lex, .str x tx]) _ _ _
    have ch : ∀ p ∈ C.rn2 w.params W (ws.take k) ws nW ln t1 e n', hb.get? p.1 = none := fun p hp => by
      cases q : hb.get? p.1 with
      | none => rfl
      | some o' => have := hbg _ _ q; rw [(N2 p (.tail _ hp)).2.2] at this; cases this
    have z1 := N2 (C.lex, _) (.tail _ (.head _))
    have z2 := N2 (C.dx, _) (.tail _ (.tail _ (.head _)))
    have z3 := N2 (C.pb, _) (.tail _ (.tail _ (.tail _ (.head _))))
    have zI := N2 (I, _) (.head _)
    refine c_push B ?_ ?_ ?_ C.lex C.dx C.pb (ws.take k).toArray n' ln t1 C.t2 C.k1 C.k2 C.k3 C.k4 (.ref C.sx) e x tx z1.1 z2.1 z3.1 (ch _ (.head _)) (ch _ (.tail _ (.head _))) (ch _ (.tail _ (.tail _ (.head _)))) (by simp; omega) ?_
    · exact hbOf hbg F2.keep
    · exact (dltz hA : A.depth < recursionLimit)
    · exact hh
    intro h3 tk3 hk3 hp3
    rw [List.push_toArray, htk] at hp3
    have F3 := fr_upd F2 hk3 (fun q => z3.2.1 q.symm) z3.2.2
    have N3 := news_upd N2 (.tail (ne_of_obj zI.1 z3.1 (by rw [ho]; kernel_rfl)) (.tail (ne_of_obj z1.1 z3.1 (by kernel_rfl)) (.tail (ne_of_obj z2.1 z3.1 (by kernel_rfl)) (.head fun p hp => by
      rw [List.mem_singleton.mp hp]
      exact O.w2)))) hk3 hp3
    rw [mR_eq2] at F3
    clear F2 N2
    k_steps
    refine ⟨h3, _, _, C.rn2 w.params W (ws.take (k + 1)) ws nW ln t1 e (n' + 1), rfl, F3, N3, fun p hp qq hq => ?_, ⟨.tail _ (.tail _ (.tail _ (.head _))), trivial⟩, _, _, rfl, rfl⟩
    rw [List.mem_singleton.mp hq]
    have : p.1 ∈ (C.rn2 w.params W [] ws nW ln t1 e n).map (·.1) := (List.mem_map_of_mem (f := fun x => x.1) hp : p.1 ∈ (C.rn2 w.params W (ws.take (k + 1)) ws nW ln t1 e (n' + 1)).map (·.1))
    obtain ⟨p', hp', ep⟩ := List.mem_map.mp this
    have := hIlt p' hp'
    rw [ep] at this
    exact Nat.ne_of_lt this
  · rintro m₁ news₁ ⟨wo, n', rfl, rfl⟩ h tk F1 N1
    have e : (ws.map Itm.val).length = ws.length := by simp
    rw [e, List.take_of_length_le (Nat.le_refl _)] at N1
    exact fin h tk wo n' F1 N1
end
end Mine
end
section
open PySem PySem.W PySem.Calls PyProof.Rows PySem.Spec
set_option maxRecDepth 100000
set_option maxHeartbeats 1000000
namespace Mine
local macro_rules | `(tactic| walk_at "exec For Name Call cons nil") => `(tactic| (k_here; with_reducible refine Mine.hFor ?_))
local macro_rules | `(tactic| walk_at "exec For Name Name cons nil") => `(tactic| (k_here; with_reducible refine Mine.hFor ?_))
local macro_rules | `(tactic| walk_at "call ref") => `(tactic| (k_here; with_reducible refine Mine.hCall ?_))
noncomputable abbrev mS (x : Str) (t : Tok) (x1 : Addr) : Str → Option Value := fun z => if z = Str.ofString "stream" then some (.ref x1) else if z = Str.ofString "text" then some (.str x t) else none
theorem mR_eq0 {x : Str} {t : Tok} {x1 x2 W : Addr} {C : LxC} (h1 : C.lex = x2) (h2 : C.sx = x1) : (fun z => if z = Str.ofString "words" then some (Value.ref W) else if z = Str.ofString "lexer" then some (Value.ref x2) else mS x t x1 z) = mR x t C W none none := by
  subst h1 h2
  funext z
  by_cases e1 : z = Str.ofString "word"
  · subst e1; rfl
  by_cases e2 : z = Str.ofString "turn"
  · subst e2; rfl
  simp only [mR, mS, if_neg e1, if_neg e2]
section
variable {w : World} {mg mb : Str → Option Value} {hb g : Heap} {A : Around} {s : Shared} {L : Addr} {Q : Flow → Shared → Prop}
theorem to_ring {C : LxC} {P : Params} {g h : Heap} {L W pb1 : Addr} {ln : Int} {t1 : Tok} {e n : Nat} {ls : List (Nat × Tok)} (h0 : C.n0 = 0)
    (N : News g L h [(W, listOf #[] 0), (C.pb, listOf #[] 0), (C.lex, instObj 52 C.dx), (C.dx, dictOf (lexE P ln t1 (.ref C.sx) C.t2 C.pb C.k1 C.k2 C.k3 C.k4) e), (C.f, lamO C.qual C.cL C.pm C.c' C.ctv), (C.c', C.oc), (pb1, listOf #[] 0), (C.sx, instObj 52 C.sdx), (C.sdx, dictOf (strE P C.a1 C.a2 C.pb1 C.b1 C.b2 C.b3 C.b4 C.b5 C.f) C.e'), (C.D, listOf (lv ls).toArray n), (C.cL, C.o1)]) :
    News g L h (C.ring P W [] 0 ln t1 e ls n) := by
  intro p hp
  refine N p ?_
  simp only [LxC.ring, LxC.core, h0, List.mem_cons, List.not_mem_nil, or_false] at hp ⊢
  rcases hp with h | h | h | h | h | h | h | h | h | h
  · exact .inl h
  · exact .inr (.inr (.inr (.inr (.inr (.inl h)))))
  · exact .inr (.inl h)
  · exact .inr (.inr (.inl h))
  · exact .inr (.inr (.inr (.inl h)))
  · exact .inr (.inr (.inr (.inr (.inr (.inr (.inr (.inl h)))))))
  · exact .inr (.inr (.inr (.inr (.inr (.inr (.inr (.inr (.inl h))))))))
  · exact .inr (.inr (.inr (.inr (.inl h))))
  · exact .inr (.inr (.inr (.inr (.inr (.inr (.inr (.inr (.inr (.inr h)))))))))
  · exact .inr (.inr (.inr (.inr (.inr (.inr (.inr (.inr (.inr (.inl h)))))))))
theorem Rk_mk {C : LxC} {W a b : Addr} {c d : Prop} (l4 : @LT.lt Nat _ C.pb W ∧ @LT.lt Nat _ C.lex W ∧ @LT.lt Nat _ C.dx W ∧ @LT.lt Nat _ C.f W ∧ @LT.lt Nat _ C.c' W ∧ a < b ∧ c ∧ d ∧ @LT.lt Nat _ C.D W ∧ @LT.lt Nat _ C.cL W)
    (hd : C.oc.data = .fields C.vs) (hv : C.vs[1]? = some (.str C.qual C.tq)) (he : C.o1.data = .cell (some (.ref C.D))) (dd : @Ne Nat C.dx C.sdx) (dp : @Ne Nat C.pb C.D) (hcl : C.c' ∉ [C.pb, C.lex, C.dx, C.sx, C.sdx, C.f, C.cL, C.D]) : C.Rk W :=
  ⟨hd, hv, he, dd, dp, hcl, Nat.ne_of_gt l4.2.2.2.2.1, Nat.ne_of_gt l4.1, Nat.ne_of_gt l4.2.2.2.2.2.2.2.2.1, Nat.ne_of_gt l4.2.2.2.2.2.2.2.2.2⟩
theorem to_rn2 {C : LxC} {P : Params} {g h : Heap} {L W : Addr} {ws : List Value} {nW : Nat} {ln : Int} {t1 : Tok} {e n : Nat} {ls : List (Nat × Tok)} (N : News g L h (C.ring P W ws nW ln t1 e ls n)) : News g L h (C.rn2 P W [] ws nW ln t1 e C.n0) := by
  intro p hp
  refine N p ?_
  rcases hp with _ | ⟨_, hp⟩
  · exact .tail _ (.tail _ (.tail _ (.head _)))
  rcases hp with _ | ⟨_, hp⟩
  · exact .tail _ (.tail _ (.tail _ (.tail _ (.head _))))
  rcases hp with _ | ⟨_, hp⟩
  · exact .tail _ (.tail _ (.head _))
  rcases hp with _ | ⟨_, hp⟩
  · exact .head _
  · cases hp
theorem ring_mid (B : Base w mg mb hb) (hbg : Sub hb g) (hA : A.depth + 6 < recursionLimit) (hh : A.handled = none) (X : (KF w.params).In g) (T : Top vq looseF (ExcName.means hb) mg mb g) {x : Str} {t : Tok} {f c' pb1 x1 dx1 D cL : Addr} {oc o1 : Obj} {qual : Str} {pm ctv : Value} {vs : Array Value} {tq a1 a2 b1 b2 b3 b4 b5 : Tok} {n5 e1 : Nat} {ls : List (Nat × Tok)} {xs : List Str}
    (F : Fr g L s.heap (mS x t x1))
    (N : News g L s.heap [(f, lamO qual cL pm c' ctv), (c', oc), (pb1, listOf #[] 0), (x1, instObj 52 dx1), (dx1, dictOf (strE w.params a1 a2 pb1 b1 b2 b3 b4 b5 f) e1), (D, listOf (lv ls).toArray n5), (cL, o1)])
    (l1 : @LT.lt Nat _ pb1 c' ∧ @LT.lt Nat _ x1 c' ∧ @LT.lt Nat _ dx1 c' ∧ @LT.lt Nat _ D c' ∧ @LT.lt Nat _ cL c') (l2 : @LT.lt Nat _ c' f)
    (hd : oc.data = .fields vs) (hv : vs[1]? = some (.str qual tq)) (he : o1.data = .cell (some (.ref D))) (hz : ls.length ≤ 1900) (hx : Lx (ls.map (·.1)) xs) (hw : xs.length < 500) (hxt : xs.length ≤ x.length + 1) (hlx : x.length ≤ 1900)
    (fin : ∀ h tk lex dx pb ln t1 u1 u2 u3 u4 u5 e n ws, SV xs ws → News g L h [(lex, instObj 52 dx), (dx, dictOf (lexE w.params ln t1 (.ref x1) u1 pb u2 u3 u4 u5) e), (pb, listOf ws.toArray n)] → (∀ b o, g.get? b = some o → h.get? b = some o) → Q (.ret (.ref lex)) { s with heap := h, toks := tk }) :
    wpAny (model pw w) A (execs ((fp 68).2.1.drop 4) (rgEnv L)) Q (fun _ _ => False) s := by
  have hr1 : ringFor1 = ringFor1 := rfl
  conv at hr1 => rhs; whnf
  have hr2 : ringFor2 = ringFor2 := rfl
  conv at hr2 => rhs; whnf
  have hb1 : (fp 68).2.1.drop 4 = (fp 68).2.1.drop 4 := rfl
  conv at hb1 => rhs; whnf
  have hb2 : (fp 68).2.2 = (fp 68).2.2 := rfl
  conv at hb2 => rhs; whnf
  have he' : rgEnv L = rgEnv L := rfl
  conv at he' => rhs; unfold rgEnv; rw [hb2]
  rw [hb1, he']
  clear hb1
  k_steps
  rename Fr _ _ _ _ => F11
  rename News _ _ _ _ => N11
  show wpAny _ _ (call (.ref 52) [.ref x1]) _ _ _
  refine call_cls (fI := 28) F11 X N11 (by k_is) (by k_is) (by k_is) ?_
  intro x2 dx2 h12 F12 N12 l12 l12'
  k_lt l12
  k_lt2 l12'
  clear F11 N11
  refine c_init B ?_ ?_ x2 dx2 (.ref x1) (N12 _ (.head _)).1 (N12 _ (.tail _ (.head _))).1 ?_ ?_ (by omega) ?_
  · exact hbOf hbg F12.keep
  · exact (by simp only [depth_under_make]; omega)
  · exact news_none hbg N12 (.head _)
  · exact news_none hbg N12 (.tail _ (.head _))
  intro h13 tk13 pb2 u1 u2 u3 u4 u5 u6 e13 hk13 hd13 hp13 hn13
  refine ⟨rfl, ?_⟩
  have z2 := N12 (dx2, dictOf [] 0) (.tail _ (.head _))
  have F13 := fr_upd F12 hk13 (Ne.symm z2.2.1) z2.2.2
  have hpne : ∀ p ∈ (x2, instObj 52 dx2) :: (dx2, dictOf [] 0) :: [(f, lamO qual cL pm c' ctv), (c', oc), (pb1, listOf #[] 0), (x1, instObj 52 dx1), (dx1, dictOf (strE w.params a1 a2 pb1 b1 b2 b3 b4 b5 f) e1), (D, listOf (lv ls).toArray n5), (cL, o1)], @Ne Nat pb2 p.1 := fun p hp q => by
    have q' : pb2 = p.1 := q
    have := (N12 p hp).1
    rw [← q'] at this
    rw [hn13] at this
    cases this
  have U13 := news_upd N12 (.tail (show x2 ≠ dx2 from (Nat.ne_of_gt l12')) (.head fun p hp => by
    rcases hp with _ | ⟨_, hp⟩
    · show @Ne Nat f dx2; omega
    rcases hp with _ | ⟨_, hp⟩
    · show @Ne Nat c' dx2; omega
    rcases hp with _ | ⟨_, hp⟩
    · show @Ne Nat pb1 dx2; omega
    rcases hp with _ | ⟨_, hp⟩
    · show @Ne Nat x1 dx2; omega
    rcases hp with _ | ⟨_, hp⟩
    · show @Ne Nat dx1 dx2; omega
    rcases hp with _ | ⟨_, hp⟩
    · show @Ne Nat D dx2; omega
    rcases hp with _ | ⟨_, hp⟩
    · show @Ne Nat cL dx2; omega
    · cases hp)) hk13 hd13
  have hpL : pb2 ≠ L := fun q => by
    obtain ⟨_, _, _, ho, _⟩ := F12.ns
    rw [q] at hn13
    rw [hn13] at ho
    cases ho
  have N13 : News g L h13 ((pb2, listOf #[] 0) :: _) := fun p hp => by
    rcases List.mem_cons.mp hp with rfl | hp
    · refine ⟨hp13, hpL, ?_⟩
      cases q : g.get? pb2 with
      | none => rfl
      | some o => have := F12.keep _ _ q; rw [hn13] at this; cases this
    · exact U13 p hp
  have q1 := hpne (x2, _) (by k_memK)
  have q2 := hpne (dx2, _) (by k_memK)
  have q3 := hpne (f, _) (by k_memK)
  have q4 := hpne (c', _) (by k_memK)
  have q5 := hpne (pb1, _) (by k_memK)
  have q6 := hpne (x1, _) (by k_memK)
  have q7 := hpne (dx1, _) (by k_memK)
  have q8 := hpne (D, _) (by k_memK)
  have q9 := hpne (cL, _) (by k_memK)
  clear F12 N12 U13 hpne z2
  dsimp only at q1 q2 q3 q4 q5 q6 q7 q8 q9 ⊢
  k_steps
  rename Fr _ _ _ _ => F3
  rename News _ _ _ _ => N3
  rename _ < _ ∧ _ => l4
  let C : LxC := { lex := x2, dx := dx2, pb := pb2, sx := x1, sdx := dx1, pb1 := pb1, f := f, c' := c', cL := cL, D := D, q := 0, I := 0, qual := qual, pm := pm, ctv := ctv, o1 := o1, oc := oc, vs := vs, tq := tq, t2 := u2, k1 := u3, k2 := u4, k3 := u5, k4 := u6, a1 := a1, a2 := a2, b1 := b1, b2 := b2, b3 := b3, b4 := b4, b5 := b5, tI := 0, e' := e1, n0 := 0 }
  rw [mR_eq0 (C := C) rfl rfl] at F3
  have N4 := to_ring (C := C) rfl N3
  clear N3
  have hcl : c' ∉ [pb2, x2, dx2, x1, dx1, f, cL, D] := by
    intro hm
    simp only [List.mem_cons, List.not_mem_nil, or_false] at hm
    rcases hm with h | h | h | h | h | h | h | h
    · exact q4 h.symm
    · have h' : @Eq Nat c' x2 := h
      omega
    · have h' : @Eq Nat c' dx2 := h
      omega
    · have h' : @Eq Nat c' x1 := h
      omega
    · have h' : @Eq Nat c' dx1 := h
      omega
    · have h' : @Eq Nat c' f := h
      omega
    · have h' : @Eq Nat c' cL := h
      omega
    · have h' : @Eq Nat c' D := h
      omega
  have RK := Rk_mk (C := C) l4 hd hv he (show @Ne Nat dx2 dx1 by omega) q8 hcl
  rw [← hr1, ← he']
  refine ring_for1 B hbg ?_ ?_ X T (C := C) RK F3 N4 (by omega) (by omega) hw hx hxt (by omega) ?_
  · exact hA
  · exact hh
  intro h5 tk5 to ws nW ln5 t15 e5 ls5 n5 sv F5 N5
  have N6 := to_rn2 N5
  clear F3 N4 N5
  rw [he']
  k_steps
  rw [← hr2, ← he']
  refine ring_for2 B hbg ?_ ?_ X T (C := C) RK F5 N6 sv hw ?_
  · exact hA
  · exact hh
  intro h7 tk7 wo n7 F7 N7
  rw [he']
  k_steps
  rename Fr _ _ _ _ => F8
  rename News _ _ _ _ => N8
  refine fin _ _ x2 dx2 pb2 ln5 t15 u2 u3 u4 u5 u6 e5 n7 ws sv (fun p hp => N8 p ?_) F8.keep
  rcases hp with _ | ⟨_, hp⟩
  · exact .head _
  rcases hp with _ | ⟨_, hp⟩
  · exact .tail _ (.head _)
  rcases hp with _ | ⟨_, hp⟩
  · exact .tail _ (.tail _ (.head _))
  · cases hp
end
end Mine
end
section
open PySem PySem.W PySem.Calls PyProof.Rows PySem.Spec
set_option maxRecDepth 100000
set_option maxHeartbeats 4000000
namespace Mine
local macro_rules | `(tactic| walk_at "exec For Name Call cons nil") => `(tactic| (k_here; with_reducible refine Mine.hFor ?_))
local macro_rules | `(tactic| walk_at "call ref") => `(tactic| (k_here; with_reducible refine Mine.hCall ?_))
noncomputable def chs (x : Str) : List Str := x.cps.toList.map fun c => ⟨#[c]⟩
theorem sv_list : ∀ (vs : List Value) (cs : List Nat), vs.length = cs.length → (∀ (j : Nat) (v : Value), vs[j]? = some v → ∃ c u, cs[j]? = some c ∧ v = .str ⟨#[c]⟩ u) → SV (cs.map fun c => ⟨#[c]⟩) vs
  | [], [], _, _ => ⟨[], rfl, rfl⟩
  | v :: r, c :: q, e, h => by
    obtain ⟨c', u, h1, rfl⟩ := h 0 v rfl
    cases h1
    obtain ⟨l, rfl, hl⟩ := sv_list r q (by simpa using e) fun j v hj => h (j + 1) v hj
    exact ⟨(⟨#[c]⟩, u) :: l, rfl, by simp [hl]⟩
  | [], c :: q, e, _ => by cases e
  | v :: r, [], e, _ => by cases e
theorem sv_signs {x : Str} {acc : Array Value} (h : ItemsOf (SignAt x) acc x.cps.size) : SV (chs x) acc.toList := by
  refine sv_list _ _ (by simp [h.1]) fun j v hj => ?_
  obtain ⟨c, u, hc, rfl⟩ := h.2 j v (by simpa using hj)
  exact ⟨c, u, by simpa using hc, rfl⟩
theorem sv_lv {x : Str} {ys : List Value} (h : SV (chs x) ys) : ∃ ls : List (Nat × Tok), ys.reverse = lv ls ∧ ls.map (·.1) = x.cps.toList := by
  obtain ⟨l, rfl, hl⟩ := h
  have key : ∀ (cs : List Nat) (l : List (Str × Tok)), l.map (·.1) = cs.map (fun c => (⟨#[c]⟩ : Str)) → ∃ ls : List (Nat × Tok), strValues l = ls.map (fun p => Value.str ⟨#[p.1]⟩ p.2) ∧ ls.map (·.1) = cs := by
    intro cs
    induction cs with
    | nil => intro l hl; cases l with
      | nil => exact ⟨[], rfl, rfl⟩
      | cons p r => cases hl
    | cons c r ih =>
      intro l hl
      cases l with
      | nil => cases hl
      | cons p q =>
        simp only [List.map_cons, List.cons.injEq] at hl
        obtain ⟨ls, e1, e2⟩ := ih q hl.2
        refine ⟨(c, p.2) :: ls, ?_, by simp [e2]⟩
        simp only [strValues, List.map_cons] at e1 ⊢
        rw [e1, hl.1]
  obtain ⟨ls, e1, e2⟩ := key x.cps.toList l hl
  exact ⟨ls, by rw [e1], e2⟩
theorem news_172 {g g2 h : Heap} {L : Addr} {ps : Array Value} {p1 p2 p3 p4 p5 p6 p7 p8 : Addr × Obj} (N : News g L h [p1, p2, p3, p4, p5, p6, p7, p8]) (gn : ∀ b, g.get? b = none → @Ne Nat b 172 → g2.get? b = none) (hps : h.get? 172 = some (tabObj ps))
    (n1 : @Ne Nat p1.1 172) (n2 : @Ne Nat p2.1 172) (n3 : p3.2.cls ≠ .none) (n4 : p4.2.cls ≠ .none) (n5 : p5.2.cls ≠ .none) (n6 : p6.2.cls ≠ .none) (n7 : @Ne Nat p7.1 172) : News g2 L h [p1, p2, p3, p4, p5, p6, p7] := by
  have ne : ∀ p : Addr × Obj, h.get? p.1 = some p.2 → p.2.cls ≠ .none → @Ne Nat p.1 172 := fun p e hc q => by
    have q' : p.1 = 172 := q
    rw [q', hps] at e
    have e' := Option.some.inj e
    rw [← e'] at hc
    exact hc rfl
  intro p hp
  have z := N p (by simp only [List.mem_cons, List.not_mem_nil, or_false] at hp ⊢; rcases hp with h | h | h | h | h | h | h <;> simp [h])
  refine ⟨z.1, z.2.1, gn _ z.2.2 ?_⟩
  have e := z.1
  simp only [List.mem_cons, List.not_mem_nil, or_false] at hp
  rcases hp with rfl | rfl | rfl | rfl | rfl | rfl | rfl
  · exact n1
  · exact n2
  · exact ne _ e n3
  · exact ne _ e n4
  · exact ne _ e n5
  · exact ne _ e n6
  · exact n7
section
variable {w : World} {mg mb : Str → Option Value} {hb : Heap} {A : Around} {s : Shared} {Q E : Value → Shared → Prop}
theorem c_ring (B : Base w mg mb hb) (hs : Sub hb s.heap) (hA : A.depth + 9 < recursionLimit) (hh : A.handled = none) (x : Str) (t : Tok) (hz : x.cps.size < 1000) (h172 : s.heap.get? 172 = some (tabObj #[])) (n172 : hb.get? 172 = none)
    {xs : List Str} (hx : Lx x.cps.toList xs) (hw : xs.length < 500) (hxt : xs.length ≤ x.length + 1)
    (ret : ∀ h' tk' lex dx pb sx ln t1 u1 u2 u3 u4 u5 e n ws, SV xs ws → s.heap.get? lex = none → s.heap.get? dx = none → s.heap.get? pb = none → h'.get? lex = some (instObj 52 dx) → h'.get? dx = some (dictOf (lexE w.params ln t1 (.ref sx) u1 pb u2 u3 u4 u5) e) → h'.get? pb = some (listOf ws.toArray n) →
      (∀ b o, b ≠ 172 → s.heap.get? b = some o → h'.get? b = some o) → (∃ ps, h'.get? 172 = some (tabObj ps)) → Q (.ref lex) { s with heap := h', toks := tk' }) :
    wpAny (model pw w) A (call (.ref 177) [.str x t]) Q E s := by
  refine enterGC B hs [(172, tabObj #[])] (fun p hp => by rw [List.mem_singleton.mp hp]; exact ⟨h172, n172⟩) (f := 177) (name := "_law_ring") (qual := "_law_ring") (binds := [("text", .str x t)]) (by k_is) (by k_is) (by omega) ?_ ?_ ?_ ?_ ?_ ?_ ?_
  · exact BindsTo.of_eq rfl
  · exact rfl
  · decide +kernel
  · intro g L h₁ tk cells hg hg' hL F0 N0 Y X T hbg hlt
    have hb1 : (fp 68).2.1 = (fp 68).2.1 := rfl
    conv at hb1 => rhs; whnf
    have hb2 : (fp 68).2.2 = (fp 68).2.2 := rfl
    conv at hb2 => rhs; whnf
    simp only [hb2] at F0 Y
    rw [hb1, hb2]
    clear hb1 hb2
    obtain ⟨o1, hE, e1⟩ := CellsAre.one Y
    subst hE
    clear Y
    simp only [List.cons_append, List.nil_append] at N0
    k_steps
    refine call_list_str ?_ x t (fun h3 tk3 acc c3 hk3 hD3 hacc => ?_) (by rw [sizeLine_eq]; omega)
    · exact hh
    have sv3 := sv_signs hacc
    have N3 := news_pushed F0 N0 hk3 (o := listOf acc.toList.toArray c3) (by rw [Array.toArray_toList]; exact hD3) rfl
    have F3 := F0.keeps hk3
    have lt3 : @LT.lt Nat _ (L + 1) h₁.objs.size := Heap.lt_size (N0 _ (.head _)).1
    have lt172 : @LT.lt Nat _ 172 L := hlt (172, _) (.head _)
    have ltL : @LT.lt Nat _ L h₁.objs.size := F0.ns.lt
    dsimp only at F3 N3
    generalize hDq : h₁.objs.size = D at N3 lt3 ltL
    generalize acc.toList = ys at sv3 N3
    clear F0 N0
    k_steps
    rename Fr _ _ _ _ => F4
    rename News _ _ _ _ => N4
    have zD := N4 _ (.head _)
    have svl := sv3.length
    have chl : (chs x).length = x.cps.size := by simp [chs]
    refine call_meets PySem.F.slot_list_reverse ⟨_, zD.1, rfl⟩ PySem.F.entry_list_reverse (PySem.F.args_list_reverse_1 _) (AutoListH.list_reverse_list_0 D ys.toArray c3 (by rw [sizeLine_eq]; simp; omega)) ⟨zD.1, ?_⟩
    have hp5 := IsL.update (f := fun x => x.reverse) (show IsL _ D ys.toArray c3 from zD.1)
    have hk5 : ∀ (f : Obj → Obj) (h : Heap) (b : Addr) (o : Obj), b ≠ D → h.get? b = some o → (h.update D f).get? b = some o := fun f h b o hb e => (Heap.get?_update_other h f (Ne.symm hb)).trans e
    have F5 := fr_upd F4 (hk5 (Obj.mapSeq fun x => x.reverse) _) (Ne.symm zD.2.1) zD.2.2
    have N5 := news_upd N4 (.head fun p hp => by
      rcases List.mem_cons.mp hp with rfl | hp
      · show @Ne Nat (L + 1) D; omega
      · rw [List.mem_singleton.mp hp]; show @Ne Nat 172 D; omega) (hk5 (Obj.mapSeq fun x => x.reverse) _) hp5
    rw [List.reverse_toArray] at N5
    replace N5 : News g L _ [(D, listOf ys.reverse.toArray _), (L + 1, _), (172, _)] := N5
    generalize (if (ys.reverse.toArray.size == ys.toArray.size) = true then c3 else c3 + 1) = n5 at N5
    clear F4 N4 zD
    k_steps
    rename Fr _ _ _ _ => F6
    rename News _ _ _ _ => N6
    show wpAny _ _ (call (.ref 52) [.none]) _ _ _
    refine call_cls (fI := 28) F6 X N6 (by k_is) (by k_is) (by k_is) ?_
    intro x1 dx1 h7 F7 N7 l7 l7'
    k_lt l7
    k_lt2 l7'
    clear F6 N6
    refine c_init B ?_ ?_ x1 dx1 .none (N7 _ (.head _)).1 (N7 _ (.tail _ (.head _))).1 ?_ ?_ (by omega) ?_
    · exact hbOf hbg F7.keep
    · simp only [depth_under_make, depth_deeper]
      omega
    · have := (N7 _ (.head _)).2.2
      cases q : hb.get? x1 with
      | none => rfl
      | some o => rw [hbg _ _ q] at this; cases this
    · have := (N7 _ (.tail _ (.head _))).2.2
      cases q : hb.get? dx1 with
      | none => rfl
      | some o => rw [hbg _ _ q] at this; cases this
    intro h8 tk8 pb1 a1 a2 a3 a4 a5 a6 e8 hk8 hd8 hp8 hn8
    refine ⟨rfl, ?_⟩
    have z1 := N7 (x1, instObj 52 dx1) (.head _)
    have z2 := N7 (dx1, dictOf [] 0) (.tail _ (.head _))
    have z3 := N7 (D, listOf ys.reverse.toArray n5) (.tail _ (.tail _ (.head _)))
    have F8 := fr_upd F7 hk8 (Ne.symm z2.2.1) z2.2.2
    have U8 := news_upd N7 (.tail (show x1 ≠ dx1 from (Nat.ne_of_gt l7')) (.head fun p hp => by
      rcases List.mem_cons.mp hp with rfl | hp
      · show @Ne Nat D dx1; omega
      · rcases List.mem_cons.mp hp with rfl | hp
        · show @Ne Nat (L + 1) dx1; omega
        · rw [List.mem_singleton.mp hp]; show @Ne Nat 172 dx1; omega)) hk8 hd8
    have hpL : pb1 ≠ L := fun q => by
      obtain ⟨_, _, _, ho, _⟩ := F7.ns
      rw [q, ho] at hn8; cases hn8
    have N8 : News g L h8 ((pb1, listOf #[] 0) :: _) := fun p hp => by
      rcases List.mem_cons.mp hp with rfl | hp
      · refine ⟨hp8, hpL, ?_⟩
        cases q : g.get? pb1 with
        | none => rfl
        | some o => have := F7.keep _ _ q; rw [hn8] at this; cases this
      · exact U8 p hp
    have q1 : @Ne Nat pb1 x1 := fun q => by rw [q] at hn8; rw [hn8] at z1; cases z1.1
    have q2 : @Ne Nat pb1 dx1 := fun q => by rw [q] at hn8; rw [hn8] at z2; cases z2.1
    have q3 : @Ne Nat pb1 D := fun q => by rw [q] at hn8; rw [hn8] at z3; cases z3.1
    have z4 := N7 (172, tabObj #[]) (.tail _ (.tail _ (.tail _ (.tail _ (.head _)))))
    have q4 : @Ne Nat pb1 172 := fun q => by rw [q] at hn8; rw [hn8] at z4; cases z4.1
    have z5 := N7 (L + 1, _) (.tail _ (.tail _ (.tail _ (.head _))))
    have q5 : @Ne Nat pb1 (L + 1) := fun q => by rw [q] at hn8; rw [hn8] at z5; cases z5.1
    clear F7 N7 U8 z1 z2 z3 z4 z5
    dsimp only
    have C0 : CodeHd g 176 172 := ⟨_, _, _, _, _, _, _, _, _, X _ _ (by k_is), rfl, rfl, rfl, rfl, rfl, rfl, rfl, rfl, by decide⟩
    k_steps
    rename Fr _ _ _ _ => F9
    rename News _ _ _ _ => N9
    refine set_dict (K := KF w.params) F9 X N9 (by k_inst) rfl (by k_is) (by k_is) (by k_is) (by k_is) rfl rfl (by k_upd) (Nat.le_of_ble_eq_true rfl) ?_
    intro h10 F10 N10
    rename _ < _ ∧ _ => l1
    rename _ = some (Value.str _ _) => hv
    rename Obj.data _ = Data.fields _ => hd
    rename @LT.lt Addr _ _ _ => l2
    obtain ⟨ls, els, hls⟩ := sv_lv sv3
    rw [els] at N10
    have hlsl : ls.length = x.cps.size := by
      have := congrArg List.length hls
      simpa using this
    replace F10 : Fr g L h10 (mS x t x1) := F10
    obtain ⟨ps, hps⟩ : ∃ ps, h10.get? 172 = some (tabObj ps) := ⟨_, (N10 (172, _) (by k_memK)).1⟩
    have up : ∀ b, b ≠ 172 → (s.heap.update 172 fun _ => tabObj ps).get? b = s.heap.get? b := fun b hb => Heap.get?_update_other _ _ (Ne.symm hb)
    have us : (s.heap.update 172 fun _ => tabObj ps).get? 172 = some (tabObj ps) := Heap.get?_update_self _ h172 rfl
    have usz : (s.heap.update 172 fun _ => tabObj ps).objs.size = L := by rw [hL]; exact Heap.size_update _ _ _
    generalize (s.heap.update 172 fun _ => tabObj ps) = g2 at up us usz
    have st : ∀ b o, hb.get? b = some o → g2.get? b = some o := fun b o e => (up b (fun q => by rw [q, n172] at e; cases e)).trans (hs b o e)
    have kp : ∀ b o, g2.get? b = some o → h10.get? b = some o := fun b o e => by
      by_cases hb172 : b = 172
      · rw [hb172, us] at e; cases e; rw [hb172]; exact hps
      · exact F10.keep b o (hg b o ((up b hb172).symm.trans e) (by simpa using hb172))
    have F2 : Fr g2 L h10 (mS x t x1) := ⟨F10.ns, kp, Nat.le_of_eq usz⟩
    have gn : ∀ b, g.get? b = none → @Ne Nat b 172 → g2.get? b = none := fun b hb hne => by
      rw [up b hne]
      cases q : s.heap.get? b with
      | none => rfl
      | some o => have := hg b o q (by simpa using hne); rw [hb] at this; cases this
    have l1' : @LT.lt Nat _ 172 _ := l1.2.2.2.2.2
    have l2' : @LT.lt Nat _ _ _ := l2
    have N2 := news_172 N10 gn hps (Nat.ne_of_gt (Nat.lt_trans l1' l2')) (Nat.ne_of_gt l1') (by simp) (by simp) (by simp) (by simp) (show @Ne Nat (L + 1) 172 by omega)
    show wpAny _ _ (execs _ _) _ _ _
    refine ring_mid (w := w) (g := g2) B st ?_ ?_ (B.K.keeps st) (B.T.keeps st) (x := x) (t := t) (xs := xs) F2 N2 ⟨l1.1, l1.2.1, l1.2.2.1, l1.2.2.2.1, l1.2.2.2.2.1⟩ l2 hd hv (by assumption) ?_ ?_ hw hxt ?_ ?_
    · exact (dlt1 hA rfl : A.depth + 1 + 6 < recursionLimit)
    · exact hh
    · omega
    · rw [hls]; exact hx
    · show x.cps.size ≤ _
      omega
    · intro h9 tk9 lex dx pb ln t1 u1 u2 u3 u4 u5 e n ws sv N9 keep
      have fresh : ∀ b, g2.get? b = none → s.heap.get? b = none := fun b hb => by
        by_cases hb172 : b = 172
        · rw [hb172, us] at hb; cases hb
        · rw [← up b hb172]; exact hb
      have z1 := N9 _ (.head _)
      have z2 := N9 _ (.tail _ (.head _))
      have z3 := N9 _ (.tail _ (.tail _ (.head _)))
      exact ret h9 tk9 lex dx pb x1 ln t1 u1 u2 u3 u4 u5 e n ws sv (fresh _ z1.2.2) (fresh _ z2.2.2) (fresh _ z3.2.2) z1.1 z2.1 z3.1 (fun b o hb hbo => keep b o ((up b hb).trans hbo)) ⟨ps, keep 172 _ us⟩
  · rfl
  · rfl
  · rfl
end
end Mine
end
section
open PySem PySem.W PySem.Calls PyProof.Rows PySem.Spec
set_option maxRecDepth 100000
set_option maxHeartbeats 1000000
namespace Mine
section
variable {prog : Program} {w : World} {A : Around} {R : GenEnd} {Y : Protocol} {n : Nat} {s₀ : Shared} {c : Code} {fs : List Frame} {s : Shared} {env : Env}
  {K : Flow → Sem Fin} {H : Value → Sem Fin} {gd : Bool → Bool} {lv : List Value → List Value}
theorem seg_piece {α : Type} {m : Sem α} {K : α → Sem Fin} (h : wpAny (model prog w) (A.over c fs) m (fun a s' => Seg (model prog w) A R Y n s₀ c (K a) fs s') (fun _ _ => False) s) :
    Seg (model prog w) A R Y n s₀ c (m.wrap K H gd lv) fs s := seg_wrap (wpAny_mono h (fun _ _ x => x) fun _ _ x => x.elim)
theorem seg_pieceB {α β : Type} {m : Sem α} {f : α → Sem β} {K : β → Sem Fin} (h : wpAny (model prog w) (A.over c fs) m (fun a s' => Seg (model prog w) A R Y n s₀ c ((f a).wrap K H gd lv) fs s') (fun _ _ => False) s) :
    Seg (model prog w) A R Y n s₀ c ((m >>= f).wrap K H gd lv) fs s := seg_bind_wrap (wpAny_mono h (fun _ _ x => x) fun _ _ x => x.elim)
theorem seg_If {test : PySem.Expr} {body orelse : List Stmt} {pos : Pos}
    (h : wpAny (model prog w) (A.over c fs) (isTrue test env (eval test env)) (fun b s' => Seg (model prog w) A R Y n s₀ c ((if b = true then execs body env else execs orelse env).wrap K H gd lv) fs s') (fun _ _ => False) s) :
    Seg (model prog w) A R Y n s₀ c ((exec (.If test body orelse pos) env).wrap K H gd lv) fs s := by
  rw [exec_If]
  exact seg_pieceB (wpAny_standAt (seg_pieceB h))
theorem seg_For {target iter : PySem.Expr} {body : List Stmt} {pos : Pos}
    (h : wpAny (model prog w) (A.over c fs) (eval iter env) (fun x s₁ => wpAny (model prog w) (A.over c fs) (pyIter x) (fun it s₂ =>
      ∀ p, Seg (model prog w) A R Y n s₀ (.forLoop target it body [] env) ((model prog w).den (.forLoop target it body [] env))
        (.ret (fun r => ((match r with | .ok f => (.pure f : Sem Flow) | .error e => .raise e).onRaise fun (x : Value) => do
          if (← field x 1) == Value.none then unsupported "frame.own-activation:exception-without-traceback"
          setFlight x env.frame).wrap K H gd lv) none (gd false) (lv []) c p [] :: fs) s₂) (fun _ _ => False) s₁) (fun _ _ => False) s)
    (hs : ∀ x, foldedSetIterable iter env x = pure x := by intro _; rfl) :
    Seg (model prog w) A R Y n s₀ c ((exec (.For target iter body [] pos) env).wrap K H gd lv) fs s := by
  rw [exec_For]
  refine seg_pieceB (wpAny_standAt (seg_pieceB (wpAny_mono h (fun x s₁ h₁ => ?_) fun _ _ x => x)))
  refine seg_pieceB (wpAny_of_eq (hs x) (seg_pieceB (wpAny_standAt (seg_pieceB (wpAny_holding (wpAny_mono h₁ (fun it s₂ h₂ => ?_) fun _ _ x => x))))))
  exact seg_call h₂
theorem seg_forLoop {target : PySem.Expr} {it : Value} {body : List Stmt}
    (h : wpAny (model prog w) (A.over (.forLoop target it body [] env) fs) (pyNext it) (fun r s₁ => match r with
      | none => Seg (model prog w) A R Y n s₀ (.block [] env) ((model prog w).den (.block [] env)) fs s₁
      | some v => wpAny (model prog w) (A.over (.forLoop target it body [] env) fs) (letOwnedTupleGo target it v) (fun _ s₂ => wpAny (model prog w) (A.over (.forLoop target it body [] env) fs) (assign target env v) (fun _ s₃ =>
          Seg (model prog w) A R Y n s₀ (.forLoop target it body [] env) ((execs body env).wrap (fun f => match f with
            | .next | .cont => .pure (.again (.forLoop target it body [] env))
            | .brk => .pure (.done .next)
            | .ret v => .pure (.done (.ret v))) (fun e => (do noteFrame e env; theTreesLotGoes e : Sem Unit).wrap (fun _ => .raise e) .raise id id) id id) fs s₃) (fun _ _ => False) s₂) (fun _ _ => False) s₁) (fun _ _ => False) s) :
    Seg (model prog w) A R Y n s₀ (.forLoop target it body [] env) ((model prog w).den (.forLoop target it body [] env)) fs s := by
  show Seg _ A R Y n s₀ _ ((forTurn target it body [] env).onRaise (fun x => do noteFrame x env; theTreesLotGoes x)) fs s
  unfold forTurn
  rw [Sem.onRaise_eq_wrap]
  refine seg_pieceB (wpAny_standAt (seg_pieceB (wpAny_onRaise (wpAny_mono h (fun r s₁ h₁ => ?_) fun _ _ x => x.elim))))
  cases r with
  | none => exact seg_again rfl h₁
  | some v =>
    refine seg_pieceB (wpAny_mono h₁ (fun _ s₂ h₂ => seg_pieceB (wpAny_mono h₂ (fun _ s₃ h₃ => ?_) fun _ _ x => x)) fun _ _ x => x)
    rw [Sem.bind_eq_wrap', Sem.wrap_wrap]
    rw [Sem.wrap_congr (execs body env) _ _ (K' := fun f => match f with
            | .next | .cont => .pure (.again (.forLoop target it body [] env))
            | .brk => .pure (.done .next)
            | .ret v => .pure (.done (.ret v))) (H' := (fun e => (do noteFrame e env; theTreesLotGoes e : Sem Unit).wrap (fun _ => .raise e) .raise id id))
        (fun f => by cases f <;> rfl)
        (fun e => by first | exact Sem.bind_eq_wrap _ _ | (show (do noteFrame e env; theTreesLotGoes e : Sem Unit).bind (fun _ => .raise e) = _; rw [Sem.bind_eq_wrap]))]
    exact h₃
theorem seg_block0 (h : Seg (model prog w) A R Y n s₀ (.block [] env) (.pure (.done .next)) fs s) : Seg (model prog w) A R Y n s₀ (.block [] env) ((model prog w).den (.block [] env)) fs s := h
end
end Mine
end
section
open PySem PySem.W PySem.Calls PyProof.Rows PySem.Spec
set_option maxRecDepth 100000
set_option maxHeartbeats 1000000
namespace Mine
noncomputable def forT : Stmt → PySem.Expr
  | .For t _ _ _ _ => t
  | _ => .Name ⟨#[]⟩ ⟨0, 0, 0, 0⟩
noncomputable def escFor : Stmt := nth (fp 4).2.1 2
noncomputable def escIf : Stmt := nth (forBody escFor) 0
noncomputable abbrev escE (L : Addr) : Env := envOf (Str.ofString "_iter_escaped_chars") (fp 4).2.2 L 63 (.ref 62)
noncomputable def others (hb : Heap) (l : List Addr) (h : Heap) : List (Addr × Obj) :=
  (List.range h.objs.size).filterMap fun b => if b ∈ l ∨ (hb.get? b).isSome = true then none else (h.get? b).map fun o => (b, o)
theorem mem_others {hb h : Heap} {l : List Addr} {b : Addr} {o : Obj} : (b, o) ∈ others hb l h ↔ h.get? b = some o ∧ b ∉ l ∧ hb.get? b = none := by
  unfold others
  rw [List.mem_filterMap]
  constructor
  · rintro ⟨c, hc, e⟩
    split at e
    · cases e
    · rename_i hn
      cases q : h.get? c with
      | none => rw [q] at e; cases e
      | some oc =>
        rw [q] at e
        cases e
        refine ⟨q, fun hm => hn (.inl hm), ?_⟩
        cases r : hb.get? b with
        | none => rfl
        | some _ => exact absurd (.inr (by rw [r]; rfl)) hn
  · rintro ⟨h1, h2, h3⟩
    refine ⟨b, List.mem_range.mpr (Heap.lt_size h1), ?_⟩
    rw [if_neg (by rintro (q | q); exact h2 q; rw [h3] at q; cases q), h1]
    rfl
noncomputable def keepO (l : List Addr) (a b : Heap) : Prop := ∀ x o, x ∉ l → a.get? x = some o → b.get? x = some o
noncomputable def SinceO (l : List Addr) (s₀ s : Shared) : Prop := ∃ h' tk, s = { s₀ with heap := h', toks := tk } ∧ keepO l s₀.heap h'
theorem SinceO.refl (l : List Addr) (s : Shared) : SinceO l s s := ⟨s.heap, s.toks, rfl, fun _ _ _ e => e⟩
theorem SinceO.step {l : List Addr} {s₀ s : Shared} (x : SinceO l s₀ s) {h' : Heap} {tk : Nat} (hk : keepO l s.heap h') : SinceO l s₀ { s with heap := h', toks := tk } := by
  obtain ⟨h₁, tk₁, rfl, hk₁⟩ := x
  exact ⟨h', tk, rfl, fun b o hb e => hk b o hb (hk₁ b o hb e)⟩
section
variable {w : World} {mg mb : Str → Option Value} {hb g : Heap} {A : Around} {s : Shared} {L e it : Addr}
noncomputable def escY (hb : Heap) (L e it : Addr) (x : Str) : Protocol := fun m s₀ v s kap =>
  ∃ (T : Addr) (t u : Tok) (i c : Nat), i + 1 + m = x.cps.size ∧ x.cps[i]? = some c ∧ v = .ref T ∧ s.heap.IsTuple T #[.int (i : Int) t, .str ⟨#[c]⟩ u] ∧ T ∉ [L, e, it] ∧ s₀.heap.get? T = none ∧ SinceO [L, e, it] s₀ s ∧
    (∃ oL oe oi, s.heap.get? L = some oL ∧ s.heap.get? e = some oe ∧ s.heap.get? it = some oi ∧
      ∀ s'' : Shared, Sub hb s''.heap → s''.heap.get? L = some oL → s''.heap.get? e = some oe → s''.heap.get? it = some oi → kap (.send .none) s'')
noncomputable abbrev escR (L e it : Addr) : GenEnd := fun n s₀ r s₁ => r = .ok (.ret .none) ∧ (n = 0 ∧ SinceO [L, e, it] s₀ s₁)
noncomputable abbrev mI (x : Str) (tx : Tok) (po : Value) (co : Option Value) : Str → Option Value := fun z =>
  if z = Str.ofString "ch" then co else if z = Str.ofString "pos" then some po else if z = Str.ofString "escape" then some (.bool false) else if z = Str.ofString "addr" then some (.str x tx) else none
theorem mI_eq {x : Str} {tx : Tok} {po po' : Value} {co co' : Option Value} : (fun z => if z = Str.ofString "ch" then co' else if z = Str.ofString "pos" then some po' else mI x tx po co z) = mI x tx po' co' := by
  funext z
  by_cases e1 : z = Str.ofString "ch"
  · subst e1; rfl
  by_cases e2 : z = Str.ofString "pos"
  · subst e2; rfl
  simp only [mI, if_neg e1, if_neg e2]
noncomputable abbrev escF (L : Addr) (p : Pos) : Frame :=
  .ret (fun r => ((match r with | .ok f => (.pure f : Sem Flow) | .error e => .raise e).onRaise fun (x : Value) => do
          if (← field x 1) == Value.none then unsupported "frame.own-activation:exception-without-traceback"
          setFlight x (escE L).frame).wrap (fun (f : Flow) => (match f with
            | Flow.next => (execs ((fp 4).2.1.drop 3) (escE L)).wrap (fun (f : Flow) => (.pure (.done (.ret (match f with | Flow.ret v => v | _ => Value.none))) : Sem Fin)) (fun e => (leaving (escE L) e).wrap (fun _ => .raise e) .raise id id) id id
            | f => .pure (.done (.ret (match f with | Flow.ret v => v | _ => Value.none))) : Sem Fin)) (fun e => (leaving (escE L) e).wrap (fun _ => .raise e) .raise id id) id id)
    none false [] (.func (fp 4).2.1 (escE L)) p []
inductive EscMid (g : Heap) (L : Addr) (s : Shared) (x : Str) (tx : Tok) (i : Nat) (t1 : Tok) (c : Nat) (u : Tok) (news : List (Addr × Obj)) (v : Value) (s' : Shared) : Prop
  | mk (h5 : Heap) (tk5 : Tok) (T5 : Addr) (o5 : Obj) (n5 : Nat) (q1 : v = .ref T5) (q2 : s' = { s with heap := h5, toks := tk5 }) (q3 : Fr g L h5 (mI x tx (.int (i : Int) t1) (some (.str ⟨#[c]⟩ u)))) (q4 : News g L h5 ((T5, o5) :: news)) (q5 : o5.cls = .type "tuple") (q6 : o5.data = .seq #[.int (i : Int) t1, .str ⟨#[c]⟩ u] n5) (q7 : ∀ p ∈ news, p.1 < T5) : EscMid g L s x tx i t1 c u news v s'
theorem esc_loop (B : Base w mg mb hb) (hh : A.handled = none) (hgb : ∀ b, g.get? b = hb.get? b) (hgL : g.objs.size ≤ L) {x : Str} {tx tt : Tok} (hx : x.cps.all (· < 128) = true) (hq : ∀ c ∈ x.cps.toList, c ≠ 92) (hLe : L ≠ e) (hLi : L ≠ it) (hei : e ≠ it) {po : Value} {co : Option Value} {p : Pos} :
    ∀ (k i : Nat) (s₀ s : Shared) (co : Option Value) (po : Value), x.cps.size - i = k → i ≤ x.cps.size → Fr g L s.heap (mI x tx po co) → News g L s.heap (others hb [L, e, it] s.heap) → (∃ old, IsEnum s.heap e it i old) → s.heap.IsStrIter it "str_ascii_iterator" x tt i → g.get? e = none → g.get? it = none → SinceO [L, e, it] s₀ s →
      Seg (model pw w) A (escR L e it) (escY hb L e it x) (x.cps.size - i) s₀ (.forLoop (forT escFor) (.ref e) (forBody escFor) [] (escE L)) ((model pw w).den (.forLoop (forT escFor) (.ref e) (forBody escFor) [] (escE L))) [escF L p] s := by
  intro k
  induction k with
  | zero =>
    intro i s₀ s co po hk hi F N he hit hge hgi hs
    have hin : i = x.cps.size := by omega
    subst hin
    have hh' : (A.over (.forLoop (forT escFor) (.ref e) (forBody escFor) [] (escE L)) [escF L p]).handled = none := hh
    have W := WalksT.enumerateD (A := A.over (.forLoop (forT escFor) (.ref e) (forBody escFor) [] (escE L)) [escF L p]) (Draws.strAscii (prog := pw) (w := w) (A := (A.over (.forLoop (forT escFor) (.ref e) (forBody escFor) [] (escE L)) [escF L p]).in1) hh' it x tt) e hei (fun h => hei (List.mem_singleton.mp h)) (List.mem_singleton.mpr rfl)
    refine seg_forLoop (W.done _ _ _ ⟨he, hit⟩ fun h' tk hkeep => ?_)
    have hLn : L ∉ [e, it] := by simp [hLe, hLi]
    have F2 : Fr g L h' (mI x tx po co) := ⟨F.ns.at' fun o eo => hkeep _ o hLn eo, fun b o eb => hkeep b o (fun hm => by
      rcases List.mem_cons.mp hm with q | q
      · rw [q, hge] at eb; cases eb
      · rw [List.mem_singleton.mp q, hgi] at eb; cases eb) (F.keep b o eb), F.above⟩
    have hk2 : keepO [L, e, it] s.heap h' := fun b o hb hbo => hkeep b o (fun hm => hb (List.mem_cons_of_mem _ hm)) hbo
    refine seg_block0 (seg_leaf (.ok .next) ?_)
    have hb1 : (fp 4).2.1.drop 3 = (fp 4).2.1.drop 3 := rfl
    conv at hb1 => rhs; whnf
    have hb2 : (fp 4).2.2 = (fp 4).2.2 := rfl
    conv at hb2 => rhs; whnf
    have he' : escE L = escE L := rfl
    conv at he' => rhs; unfold escE; rw [hb2]
    show Seg (model pw w) A _ _ _ s₀ _ ((execs ((fp 4).2.1.drop 3) (escE L)).wrap _ _ _ _) [] _
    rw [hb1, he']
    refine seg_execs_cons (seg_If ?_)
    show wpAny (model pw w) _ _ _ _ _
    have N2 : News g L h' [] := fun _ h => nomatch h
    clear F N
    k_steps
    rw [if_neg Bool.false_ne_true]
    refine seg_end (.ok (.ret .none)) ⟨rfl, by omega, ?_⟩
    exact hs.step hk2
  | succ k ih =>
    intro i s₀ s co po hk hi F N he hit hge hgi hs
    have hlt : i < x.cps.size := by omega
    have hh' : (A.over (.forLoop (forT escFor) (.ref e) (forBody escFor) [] (escE L)) [escF L p]).handled = none := hh
    have hf : x.cps.size - i = (x.cps.size - (i + 1)) + 1 := by omega
    rw [hf]
    have W := WalksT.enumerateD (A := A.over (.forLoop (forT escFor) (.ref e) (forBody escFor) [] (escE L)) [escF L p]) (Draws.strAscii (prog := pw) (w := w) (A := (A.over (.forLoop (forT escFor) (.ref e) (forBody escFor) [] (escE L)) [escF L p]).in1) hh' it x tt) e hei (fun h => hei (List.mem_singleton.mp h)) (List.mem_singleton.mpr rfl)
    refine seg_forLoop (W.item i _ _ _ hlt ⟨he, hit⟩ fun T vals h' tk hP hT hTt hM hkeep => ?_)
    obtain ⟨t1, v, ⟨c, u, hc, rfl⟩, rfl⟩ := hP
    have hTo : ∃ o, h'.get? T = some o ∧ o.cls = .type "tuple" ∧ ∃ n, o.data = .seq #[.int (i : Int) t1, .str ⟨#[c]⟩ u] n := hTt
    obtain ⟨oT, hoT, hcT, nT, hdT⟩ := hTo
    have hTf : ∀ b o, s.heap.get? b = some o → b ≠ T := fun b o eb q => by
      have := Heap.lt_size eb
      rw [q] at this
      exact absurd this (Nat.not_lt_of_le hT)
    refine W.go _ _ _ i T _ _ _ hM fun h2 hst2 hkeep2 => ?_
    have hTw : T ∉ [e, it] := W.apart i T _ hM
    have hLn : L ∉ [e, it] := by simp [hLe, hLi]
    have up : ∀ b o, b ∉ [e, it] → s.heap.get? b = some o → h2.get? b = some o := fun b o hb eb => hkeep2 b o hb (hkeep b o hb eb)
    have F2 : Fr g L h2 (mI x tx po co) := ⟨F.ns.at' fun o eo => up _ o hLn eo, fun b o eb => up b o (fun hm => by
      rcases List.mem_cons.mp hm with q | q
      · rw [q, hge] at eb; cases eb
      · rw [List.mem_singleton.mp q, hgi] at eb; cases eb) (F.keep b o eb), F.above⟩
    obtain ⟨⟨old2, he2⟩, hit2⟩ := hst2
    obtain ⟨oe2, hoe2, hE2⟩ : ∃ o, h2.get? e = some o ∧ ∀ h : Heap, h.get? e = some o → ∃ old, IsEnum h e it ((i + 1 : Nat) : Int) old := ⟨_, he2, fun h q => ⟨old2, q⟩⟩
    obtain ⟨oi2, hoi2, hI2⟩ : ∃ o, h2.get? it = some o ∧ ∀ h : Heap, h.get? it = some o → h.IsStrIter it "str_ascii_iterator" x tt (i + 1) := by
      obtain ⟨o, a1, a2, a3⟩ := hit2
      exact ⟨o, a1, fun h q => ⟨o, q, a2, a3⟩⟩
    have N2 : News g L h2 ((T, oT) :: (e, oe2) :: (it, oi2) :: others hb [L, e, it] s.heap) := by
      intro q hq
      rcases List.mem_cons.mp hq with rfl | hq
      · refine ⟨hkeep2 _ _ hTw hoT, ?_, ?_⟩
        · intro q
          obtain ⟨_, _, _, ho, _⟩ := F.ns
          exact hTf _ _ ho q.symm
        · cases r : g.get? T with
          | none => rfl
          | some o => exact absurd rfl (hTf _ _ (F.keep _ _ r))
      rcases List.mem_cons.mp hq with rfl | hq
      · exact ⟨hoe2, fun q => hLe q.symm, hge⟩
      rcases List.mem_cons.mp hq with rfl | hq
      · exact ⟨hoi2, fun q => hLi q.symm, hgi⟩
      · obtain ⟨b, o⟩ := q
        obtain ⟨a1, a2, a3⟩ := mem_others.mp hq
        refine ⟨up b o (fun hm => a2 (List.mem_cons_of_mem _ hm)) a1, fun q => a2 (by have q' : b = L := q; rw [q']; exact List.mem_cons_self), ?_⟩
        show g.get? b = none
        rw [hgb]; exact a3
    have hTup : IsTup h2 T #[.int (i : Int) t1, .str ⟨#[c]⟩ u] := ⟨oT, hkeep2 _ _ hTw hoT, hcT, nT, hdT⟩
    have hb2 : (fp 4).2.2 = (fp 4).2.2 := rfl
    conv at hb2 => rhs; whnf
    have ht : forT escFor = forT escFor := rfl
    conv at ht => rhs; whnf
    have he' : escE L = escE L := rfl
    conv at he' => rhs; unfold escE; rw [hb2]
    rw [he', ht] at hh' ⊢
    show wpAny (model pw w) _ (assign _ _ _) _ _ _
    refine unpackN_ F2 N2 hTup hh' rfl rfl fun h3 F3 N3 => ?_
    clear F2 N2
    k_steps
    rename Fr _ _ _ _ => F4
    rename News _ _ _ _ => N4
    rw [mI_eq] at F4
    have hr : forBody escFor = forBody escFor := rfl
    conv at hr => rhs; whnf
    conv in (occs := *) execs (forBody escFor) _ => all_goals rw [hr]
    refine seg_execs_cons (seg_If ?_)
    show wpAny (model pw w) _ _ _ _ _
    k_steps
    rw [if_neg Bool.false_ne_true]
    refine seg_execs_cons (seg_If ?_)
    show wpAny (model pw w) _ _ _ _ _
    k_steps
    have hne : ((⟨#[c]⟩ : Str) == Str.ofString "\\") = false := by
      rw [eq_cp c 92 _ (by decide)]
      exact decide_eq_false (hq c (List.mem_iff_getElem?.mpr ⟨i, by simpa using hc⟩))
    rw [hne]
    rw [if_neg Bool.false_ne_true]
    refine seg_execs_cons (seg_Expr_Yield rfl rfl rfl (wpAny_mono (E := fun _ _ => False) (Q := EscMid g L s x tx i t1 c u ((T, oT) :: (e, oe2) :: (it, oi2) :: others hb [L, e, it] s.heap)) ?_ (fun v s' h => ?_) fun _ _ x => x.elim))
    · show wpAny (model pw w) _ _ _ _ _
      k_steps
      rename Fr _ _ _ _ => F5
      rename News _ _ _ _ => N5
      exact ⟨_, _, _, _, _, rfl, rfl, F5, N5, rfl, rfl, fun p hp => Heap.lt_size (N4 p hp).1⟩
    · obtain ⟨h5, tk5, T5, o5, n5, rfl, rfl, F5, N5, hc5, hd5, hlt5⟩ := h
      intro kap hkap
      have z0 := N5 (T5, o5) (.head _)
      have z2 := N5 (e, oe2) (.tail _ (.tail _ (.head _)))
      have z3 := N5 (it, oi2) (.tail _ (.tail _ (.tail _ (.head _))))
      have hk5 : keepO [L, e, it] s.heap h5 := by
        intro b o hbn hbo
        cases r : hb.get? b with
        | some o' =>
          have hg : g.get? b = some o' := (hgb b).trans r
          have := F.keep _ _ hg
          rw [hbo] at this
          cases this
          exact F5.keep _ _ hg
        | none => exact (N5 (b, o) (.tail _ (.tail _ (.tail _ (.tail _ (mem_others.mpr ⟨hbo, hbn, r⟩)))))).1
      obtain ⟨oL, esL, epL, hoL, hrL⟩ := id F5.ns
      have hTn : T5 ∉ [L, e, it] := by
        intro hm
        simp only [List.mem_cons, List.not_mem_nil, or_false] at hm
        rcases hm with q | q | q
        · exact z0.2.1 q
        · exact absurd (hlt5 (e, oe2) (.tail _ (.head _))) (by rw [q]; exact Nat.lt_irrefl _)
        · exact absurd (hlt5 (it, oi2) (.tail _ (.tail _ (.head _)))) (by rw [q]; exact Nat.lt_irrefl _)
      have hfresh : s₀.heap.get? T5 = none := by
        cases r : s₀.heap.get? T5 with
        | none => rfl
        | some o =>
          obtain ⟨h9, tk9, rfl, hk9⟩ := hs
          have h1 := hk9 _ _ hTn r
          have h2 : hb.get? T5 = none := by rw [← hgb]; exact z0.2.2
          exact absurd (hlt5 (T5, o) (.tail _ (.tail _ (.tail _ (mem_others.mpr ⟨h1, hTn, h2⟩))))) (Nat.lt_irrefl _)
      refine ⟨T5, t1, u, i, c, by omega, by simpa using hc, rfl, ⟨o5, z0.1, hc5, n5, hd5⟩, hTn, hfresh, hs.step hk5, oL, oe2, oi2, hoL, z2.1, z3.1, fun s'' hsub hL' he'' hi'' => hkap .none s'' ?_⟩
      refine seg_again rfl ?_
      have F6 : Fr g L s''.heap (mI x tx (.int (i : Int) t1) (some (.str ⟨#[c]⟩ u))) := ⟨F5.ns.at' fun o eo => by rw [hoL] at eo; cases eo; exact hL', fun b o eb => hsub _ _ ((hgb b).symm.trans eb), F5.above⟩
      have N6 : News g L s''.heap (others hb [L, e, it] s''.heap) := by
        rintro ⟨b, o⟩ hm
        obtain ⟨a1, a2, a3⟩ := mem_others.mp hm
        exact ⟨a1, fun q => a2 (by have q' : b = L := q; rw [q']; exact List.mem_cons_self), (hgb b).trans a3⟩
      have := ih (i + 1) s'' s'' _ _ (by omega) (by omega) F6 N6 (hE2 _ he'') (hI2 _ hi'') hge hgi (SinceO.refl _ _)
      rw [he', ht] at this
      exact this
end
end Mine
end
section
open PySem PySem.W PySem.Calls PyProof.Rows PySem.Spec
set_option maxRecDepth 100000
set_option maxHeartbeats 1000000
namespace Mine
local macro_rules | `(tactic| walk_at "call type:enumerate") => `(tactic| (k_here; (with_reducible show wpAny _ _ (call (Value.type "enumerate") _) _ _ _); refine Halt.of ?_))
section
variable {w : World} {mg mb : Str → Option Value} {hb g : Heap} {A : Around} {s : Shared} {L e it : Addr}
theorem asg_local {M : Model} {A : Around} {env : Env} {x : Str} {px pos : Pos} {value : PySem.Expr} {E : Value → Shared → Prop} {Q : Flow → Shared → Prop} (hl : env.kindOf x = some .local) (hp : (env.scope.kind == .class || (env.scope.kind == .module && env.locals != env.globals)) = false)
    (h : wpAny M A (eval value env) (fun v s₁ => ∃ m, s₁.heap.Ns env.locals m ∧ ∀ h' tk, h'.Ns env.locals (fun z => if z = x then some v else m z) → Heap.SameBut env.locals s₁.heap h' → Q .next { s₁ with heap := h', toks := tk }) E s)
    (hs : swapsWith value (some (.Name x px)) pos.line env = pure false := by rfl) : wpAny M A (exec (.Assign [.Name x px] value pos) env) Q E s := by
  rw [exec_Assign_Name env x px value pos hs]
  refine wpAny_bind (wpAny_standAt (wpAny_bind (wpAny_mono h (fun v s₁ ⟨m, hn, h₁⟩ => ?_) fun _ _ x => x)))
  exact wpAny_bind (wpAny_standAt (wpAny_bind (wpAny_bindName (wpAny_storeName_local hl hn (fun h' hn' hs' => wpAny_pure (h₁ h' _ hn' hs')) hp))))
theorem esc_start (B : Base w mg mb hb) (hh : A.handled = none) (hgb : ∀ b, g.get? b = hb.get? b) (hgL : g.objs.size ≤ L) {x : Str} {tx : Tok} (hx : x.cps.all (· < 128) = true) (hq : ∀ c ∈ x.cps.toList, c ≠ 92)
    (X : (KF w.params).In g) (T : Top vq looseF (ExcName.means hb) mg mb g) (F : Fr g L s.heap (fun y => [(Str.ofString "addr", Value.str x tx)].reverse.lookup y)) (hit : it = s.heap.objs.size) (he : e = s.heap.objs.size + 1) :
    Seg (model pw w) A (escR L e it) (escY hb L e it x) x.cps.size s (.func (fp 4).2.1 (escE L)) ((model pw w).den (.func (fp 4).2.1 (escE L))) [] s := by
  have hLt : L < s.heap.objs.size := F.ns.lt
  have hLt' : @LT.lt Nat _ L s.heap.objs.size := hLt
  refine seg_func ?_
  have hb2 : (fp 4).2.2 = (fp 4).2.2 := rfl
  conv at hb2 => rhs; whnf
  have he' : escE L = escE L := rfl
  conv at he' => rhs; unfold escE; rw [hb2]
  have hbody : ∃ a1 p1 p2 p3 a2 p4 p5 p6 p7 p8 p9 pa pb pc, (fp 4).2.1 = Stmt.Assign [.Name (Str.ofString "pos") p1] (.Constant (.int 0) a1 p2) p3 :: Stmt.Assign [.Name (Str.ofString "escape") p4] (.Constant (.bool false) a2 p5) p6 :: Stmt.For (forT escFor) (.Call (.Name (Str.ofString "enumerate") p7) [.Name (Str.ofString "addr") p8] [] p9) (forBody escFor) [] pa :: (fp 4).2.1.drop 3 ∧ pb = (0 : Nat) ∧ pc = (0 : Nat) := ⟨_, _, _, _, _, _, _, _, _, _, _, _, _, _, rfl, rfl, rfl⟩
  obtain ⟨a1, p1, p2, p3, a2, p4, p5, p6, p7, p8, p9, pa, _, _, hbody, -, -⟩ := hbody
  have hex : execs (fp 4).2.1 (escE L) = execs (Stmt.Assign [.Name (Str.ofString "pos") p1] (.Constant (.int 0) a1 p2) p3 :: Stmt.Assign [.Name (Str.ofString "escape") p4] (.Constant (.bool false) a2 p5) p6 :: Stmt.For (forT escFor) (.Call (.Name (Str.ofString "enumerate") p7) [.Name (Str.ofString "addr") p8] [] p9) (forBody escFor) [] pa :: (fp 4).2.1.drop 3) (escE L) := congrArg (fun b => execs b (escE L)) hbody
  rw [hex]
  clear hex hbody
  have hk1 : (escE L).kindOf (Str.ofString "pos") = some .local := by rw [he']; rfl
  have hk2 : (escE L).kindOf (Str.ofString "escape") = some .local := by rw [he']; rfl
  have hk3 : ((escE L).scope.kind == .class || ((escE L).scope.kind == .module && (escE L).locals != (escE L).globals)) = false := by rw [he']; rfl
  have hpush : ∀ {h h' : Heap} {m m' : Str → Option Value}, Fr g L h m → h'.Ns L m' → Heap.SameBut L h h' → Fr g L h' m' := fun F hn hs => F.set hn hs
  refine seg_execs_cons (seg_piece (asg_local hk1 hk3 (wpAny_Constant_int ⟨_, F.ns, fun h1 tk1 hn1 hs1 => ?_⟩)))
  have F1 := F.set hn1 hs1
  refine seg_execs_cons (seg_piece (asg_local hk2 hk3 (wpAny_Constant_bool ⟨_, hn1, fun h2 tk2 hn2 hs2 => ?_⟩)))
  have F2 := F1.set hn2 hs2
  have hsz : h2.objs.size = s.heap.objs.size := hs2.1.trans hs1.1
  have hk0 : keepO [L, e, it] s.heap h2 := fun b o hb hbo => (hs2.2 b (fun q => hb (q ▸ List.mem_cons_self))).trans ((hs1.2 b (fun q => hb (q ▸ List.mem_cons_self))).trans hbo)
  have N2 : News g L h2 [] := fun _ h => nomatch h
  refine seg_execs_cons (seg_For ?_)
  rw [he']
  show wpAny (model pw w) _ _ _ _ _
  clear F F1
  k_steps
  show wpAny _ _ (call (Value.type "enumerate") _) _ _ _
  refine call_enumerate_str fun h3 hE hI hsz3 hk3 => ?_
  have eit : h2.objs.size = it := hsz.trans hit.symm
  have ee : h2.objs.size + 1 = e := by rw [hsz]; exact he.symm
  have hst : strIterType x = "str_ascii_iterator" := by unfold strIterType; rw [if_pos hx]
  replace hE : IsEnum h3 e it 0 .none := by rw [← eit, ← ee]; exact hE
  replace hI : h3.IsStrIter it "str_ascii_iterator" x tx 0 := by rw [← eit, ← hst]; exact hI
  show wpAny (model pw w) _ (pyIter (.ref (h2.objs.size + 1))) _ _ _
  rw [ee]
  refine wpAny_pyIter_enum hE ?_
  intro p
  rw [← he']
  have hLn : L < h2.objs.size := by rw [hsz]; exact hLt
  have F3 := F2.keeps hk3
  have hme : (fun z => if z = Str.ofString "escape" then some (Value.bool false) else if z = Str.ofString "pos" then some (Value.int 0 s.toks) else List.lookup z [(Str.ofString "addr", Value.str x tx)].reverse) = mI x tx (.int 0 s.toks) none := by
    funext z
    by_cases e1 : z = Str.ofString "ch"
    · subst e1; rfl
    by_cases e2 : z = Str.ofString "pos"
    · subst e2; rfl
    by_cases e3 : z = Str.ofString "escape"
    · subst e3; rfl
    by_cases e4 : z = Str.ofString "addr"
    · subst e4; rfl
    simp only [mI, if_neg e1, if_neg e2, if_neg e3, if_neg e4, List.reverse_cons, List.reverse_nil, List.nil_append, List.lookup_cons, List.lookup_nil, beq_eq_false_iff_ne.mpr e4]
  rw [hme] at F3
  have gnone : ∀ b, h2.objs.size ≤ b → g.get? b = none := fun b hb => Heap.get?_none_of_le (Nat.le_trans hgL (Nat.le_trans (Nat.le_of_lt hLn) hb))
  have N3 : News g L h3 (others hb [L, e, it] h3) := by
    rintro ⟨b, o⟩ hm
    obtain ⟨a1, a2, a3⟩ := mem_others.mp hm
    exact ⟨a1, fun q => a2 (by have q' : b = L := q; rw [q']; exact List.mem_cons_self), (hgb b).trans a3⟩
  have lo := esc_loop (mg := mg) (mb := mb) (w := w) (A := A) B hh hgb hgL (x := x) (tx := tx) (tt := tx) hx hq (L := L) (e := e) (it := it) (fun q => by
    have q' : @Eq Nat L e := q
    have : @Eq Nat (h2.objs.size + 1) e := ee
    have : @LT.lt Nat _ L h2.objs.size := hLn
    omega) (fun q => by
    have q' : @Eq Nat L it := q
    have : @Eq Nat h2.objs.size it := eit
    have : @LT.lt Nat _ L h2.objs.size := hLn
    omega) (fun q => by
    have q' : @Eq Nat e it := q
    have : @Eq Nat h2.objs.size it := eit
    have : @Eq Nat (h2.objs.size + 1) e := ee
    omega) (p := p) (po := .none) (co := none) (x.cps.size - 0) 0 s
  rw [Nat.sub_zero] at lo
  refine lo _ none (.int 0 s.toks) rfl (Nat.zero_le _) F3 N3 ⟨_, hE⟩ hI (gnone _ (by rw [← ee]; exact Nat.le_succ _)) (gnone _ (by rw [← eit]; exact Nat.le_refl _)) ?_
  exact ⟨h3, _, rfl, fun b o hb hbo => hk3 b o (hk0 b o hb hbo)⟩
end
end Mine
end
section
open PySem PySem.W PySem.Calls PyProof.Rows PySem.Spec
set_option maxRecDepth 100000
set_option maxHeartbeats 1000000
namespace Mine
section
variable {w : World} {mg mb : Str → Option Value} {hb : Heap} {A : Around} {s : Shared} {Q E : Value → Shared → Prop}
theorem c_strip (B : Base w mg mb hb) (hs : Sub hb s.heap) (hA : A.depth < recursionLimit) (hh : A.handled = none) (x : Str) (t : Tok) (hq : 34 ∉ x.cps.toList) (hz : x.length < 1000)
    (ret : ∀ h' tk', Sub s.heap h' → Q (.str x t) { s with heap := h', toks := tk' }) :
    wpAny (model pw w) A (call (.ref 70) [.str x t]) Q E s := by
  refine enterG B hs [] (fun p hp => nomatch hp) (f := 70) (name := "_strip_quoted_realnames") (qual := "_strip_quoted_realnames") (binds := [("addr", .str x t)]) (by k_is) (by k_is) hA ?_ ?_ ?_ ?_ ?_ ?_ ?_
  · exact BindsTo.of_eq rfl
  · exact locs rfl
  · intro g L h₁ hg hg' hL F0 N0 X T hbg
    have hb1 : (fp 5).2.1 = (fp 5).2.1 := rfl
    conv at hb1 => rhs; whnf
    have hb2 : (fp 5).2.2 = (fp 5).2.2 := rfl
    conv at hb2 => rhs; whnf
    rw [hb1, hb2]
    clear hb1 hb2
    have hno : (Builtin.Str.occurrences x (Str.ofString "\"") 0 x.length 1).isEmpty = true := by
      have h := StrLaws.found_one x 34
      rw [decide_eq_false hq] at h
      have e : Str.ofString "\"" = ⟨#[34]⟩ := by decide
      rw [e]
      simpa using h
    k_steps
    exact ret _ _ fun b o e => chgG hg F0 N0 b o e (.inl (by simp))
  · rfl
  · rfl
  · rfl
  · decide
theorem enterGen {name qual : Str} {params : Arguments} {body : List Stmt} {scope : Scope} {dV kV doc pm cdv ct oc : Value} {an od : Option Addr} {osl : Array (Option Value)} {f : Addr} {args : List Value} {binds : List (Str × Value)}
    (B : Base w mg mb hb) (hs : Sub hb s.heap)
    (ho : (KF w.params).lookup f = some ⟨oc, od, .func (fnOf name qual params body scope dV kV doc pm an cdv ct), osl⟩) (hcd : codeIn (KF w.params) cdv qual = true) (hroom : A.depth < recursionLimit)
    (hbind : BindsTo s (fnOf name qual params body scope dV kV doc pm an cdv ct) ⟨args, []⟩ binds) (hloc : ∀ y ∈ binds, scope.names.lookup y.1 = some .local)
    (hco : scope.isCoroutine = false) (hgen : scope.isGenerator = true) (hk : scope.kind = .function) (hcell : ∀ x ∈ scope.names, x.2 ≠ .cell)
    (ret : ∀ h' tk' a L, L = s.heap.objs.size → s.heap.get? a = none → L < a → h'.objs.size = a + 1 → h'.Ns L (fun y => binds.reverse.lookup y) → h'.IsGen a s.gens.size → (∀ b o, s.heap.get? b = some o → h'.get? b = some o) →
      Q (.ref a) { s with heap := h', toks := tk', gens := s.gens.push (.fresh (.func body (envOf qual scope L f cdv))) }) :
    wpAny (model pw w) A (call (.ref f) args) Q E s := by
  have X : (KF w.params).In s.heap := B.K.keeps hs
  refine wpAny_call (codeAny_call_generator (fd := fnOf name qual params body scope dV kV doc pm an cdv ct) (body := body) hroom (X _ _ ho) rfl hco hgen rfl (codeRec_of X hcd) (hbind _ _ _ _ ?_))
  refine wpAny_newFunctionEnv hcell hloc (fun h₁ hns hs₁ => ?_) hk
  have hk₁ : ∀ b o, s.heap.get? b = some o → h₁.get? b = some o := fun b o e => (hs₁.2 b (Nat.ne_of_lt (Heap.lt_size e))).trans (Heap.get?_push_of_some _ e)
  refine ⟨(B.T.nolimit.keeps hs).keeps hk₁, ?_⟩
  have hsz : h₁.objs.size = s.heap.objs.size + 1 := by rw [hs₁.1, Heap.size_push]
  refine ret _ _ _ s.heap.objs.size rfl ?_ ?_ (Heap.size_push ..) (hns.push _) ⟨_, _, _, Heap.get?_push_size _ rfl, rfl, rfl, rfl⟩ (fun b o e => Heap.get?_push_of_some _ (hk₁ b o e))
  · exact Heap.get?_none_of_le (by rw [hsz]; exact Nat.le_succ _)
  · show s.heap.objs.size < h₁.objs.size
    rw [hsz]; exact Nat.lt_succ_self _
theorem c_gen (B : Base w mg mb hb) (hs : Sub hb s.heap) (hA : A.depth < recursionLimit) (x : Str) (t : Tok)
    (ret : ∀ h' tk' a L, L = s.heap.objs.size → s.heap.get? a = none → L < a → h'.objs.size = a + 1 → h'.Ns L (fun y => [(Str.ofString "addr", Value.str x t)].reverse.lookup y) → h'.IsGen a s.gens.size → (∀ b o, s.heap.get? b = some o → h'.get? b = some o) →
      Q (.ref a) { s with heap := h', toks := tk', gens := s.gens.push (.fresh (.func (fp 4).2.1 (escE L))) }) :
    wpAny (model pw w) A (call (.ref 63) [.str x t]) Q E s := by
  refine enterGen B hs (f := 63) (name := "_iter_escaped_chars") (qual := "_iter_escaped_chars") (binds := [("addr", .str x t)]) (by k_is) (by k_is) hA ?_ ?_ ?_ ?_ ?_ ?_ ret
  · exact BindsTo.of_eq rfl
  · exact locs rfl
  · rfl
  · rfl
  · rfl
  · decide
end
end Mine
end
section
open PySem PySem.W PySem.Calls PyProof.Rows PySem.Spec
set_option maxRecDepth 100000
set_option maxHeartbeats 1000000
namespace Mine
local macro_rules | `(tactic| walk_at "call ref") => `(tactic| (k_here; with_reducible refine Mine.hCall ?_))
noncomputable def cut (hb h : Heap) : Heap := hideAll h ((List.range h.objs.size).filter fun b => (hb.get? b).isNone)
theorem cut_get {hb h : Heap} (s : Sub hb h) (b : Addr) : (cut hb h).get? b = hb.get? b := by
  unfold cut
  cases r : hb.get? b with
  | some o =>
    refine hideAll_get _ (s b o r) fun hm => ?_
    have := (List.mem_filter.mp hm).2
    rw [r] at this
    cases this
  | none =>
    cases q : (hideAll h ((List.range h.objs.size).filter fun b => (hb.get? b).isNone)).get? b with
    | none => rfl
    | some o =>
      have h1 := of_hideAll _ q
      have hm : b ∈ (List.range h.objs.size).filter fun b => (hb.get? b).isNone := List.mem_filter.mpr ⟨List.mem_range.mpr (Heap.lt_size h1), by rw [r]; rfl⟩
      rw [hideAll_none _ hm] at q
      cases q
theorem cut_size (hb h : Heap) : (cut hb h).objs.size = h.objs.size := hideAll_size _ _
noncomputable def parF : Int → List Nat → Option Int
  | o, [] => some o
  | o, c :: r => if c = 40 then parF (o + 1) r else if c = 41 then (if o - 1 < 0 then none else parF (o - 1) r) else parF o r
noncomputable def parB (x : Str) : Bool := match parF 0 x.cps.toList with
  | none => false
  | some o => o == 0
noncomputable def parFor : Stmt := nth (fp 6).2.1 2
noncomputable abbrev parE (L : Addr) : Env := envOf (Str.ofString "_check_parenthesis") (fp 6).2.2 L 77 (.ref 76)
noncomputable abbrev mP (x : Str) (tx : Tok) (o : Int) (to : Tok) (po co : Option Value) : Str → Option Value := fun z =>
  if z = Str.ofString "opens" then some (.int o to) else if z = Str.ofString "ch" then co else if z = Str.ofString "pos" then po else if z = Str.ofString "addr" then some (.str x tx) else none
theorem mP_eq1 {x : Str} {tx : Tok} {o : Int} {to : Tok} {po co po' co' : Option Value} : (fun z => if z = Str.ofString "ch" then co' else if z = Str.ofString "pos" then po' else mP x tx o to po co z) = mP x tx o to po' co' := by
  funext z
  by_cases e0 : z = Str.ofString "opens"
  · subst e0; rfl
  by_cases e1 : z = Str.ofString "ch"
  · subst e1; rfl
  by_cases e2 : z = Str.ofString "pos"
  · subst e2; rfl
  simp only [mP, if_neg e0, if_neg e1, if_neg e2]
theorem mP_eq3 {x : Str} {tx : Tok} {o o' : Int} {to to' : Tok} {po co po' co' : Option Value} : (fun z => if z = Str.ofString "opens" then some (Value.int o' to') else if z = Str.ofString "ch" then co' else if z = Str.ofString "pos" then po' else mP x tx o to po co z) = mP x tx o' to' po' co' := by
  funext z
  by_cases e0 : z = Str.ofString "opens"
  · subst e0; rfl
  by_cases e1 : z = Str.ofString "ch"
  · subst e1; rfl
  by_cases e2 : z = Str.ofString "pos"
  · subst e2; rfl
  simp only [mP, if_neg e0, if_neg e1, if_neg e2]
theorem mP_eq2 {x : Str} {tx : Tok} {o o' : Int} {to to' : Tok} {po co : Option Value} : (fun z => if z = Str.ofString "opens" then some (Value.int o' to') else mP x tx o to po co z) = mP x tx o' to' po co := by
  funext z
  by_cases e0 : z = Str.ofString "opens"
  · subst e0; rfl
  simp only [mP, if_neg e0]
section
variable {w : World} {mg mb : Str → Option Value} {hb g : Heap} {A : Around} {s : Shared} {L : Addr} {Q : Flow → Shared → Prop}
theorem owned_gen {target : PySem.Expr} {a T : Addr} {gi : Nat} {Q : Unit → Shared → Prop} {E : Value → Shared → Prop} (hg : s.heap.IsGen a gi) (h : Q () s) : wpAny (model pw w) A (letOwnedTupleGo target (.ref a) (.ref T)) Q E s := by
  obtain ⟨o, nm, qn, ho, hc, hd, hsl⟩ := hg
  have key : wpAny (model pw w) A (load a >>= fun o => match o.cls, o.data with
    | .type n, .fields vs =>
      if ["enumerate", "zip", "dict_itemiterator", "dict_reverseitemiterator", "odict_iterator", "itertools.zip_longest", "itertools.pairwise"].contains n && vs[0]? == some (rawInt T) then (do
        rule "for.unpacks-the-owned-tuple"
        updateField a 0 .none)
      else pure ()
    | _, _ => pure ()) Q E s := by
    refine wpAny_bind (wpAny_load ho ?_)
    rw [hc, hd]
    show wpAny _ _ (if _ then _ else _) _ _ _
    rw [if_neg (by rw [show (["enumerate", "zip", "dict_itemiterator", "dict_reverseitemiterator", "odict_iterator", "itertools.zip_longest", "itertools.pairwise"].contains "generator") = false by decide]; simp)]
    exact wpAny_pure h
  cases target
  case Tuple => exact key
  case List => exact key
  all_goals exact wpAny_pure h
theorem par_turn (hh : A.handled = none) {x : Str} {tx to : Tok} {o : Int} {po co : Option Value} {news : List (Addr × Obj)} {px : Pos} {px2 : Nat} {T : Addr} {i : Nat} {c : Nat} {t1 u : Tok} {p1 p2 : Pos} (hT : IsTup s.heap T #[.int (i : Int) t1, .str ⟨#[c]⟩ u])
    (F : Fr g L s.heap (mP x tx o to po co)) (N : News g L s.heap news) (ho : -2000 ≤ o ∧ o ≤ 2000)
    (ret : ∀ h tk, c = 41 → o - 1 < 0 → (∀ b o, g.get? b = some o → h.get? b = some o) → Q (.ret (.bool false)) { s with heap := h, toks := tk })
    (next : ∀ h tk o' to' po' co', (c = 40 ∧ o' = o + 1 ∨ c = 41 ∧ ¬ o - 1 < 0 ∧ o' = o - 1 ∨ c ≠ 40 ∧ c ≠ 41 ∧ o' = o) → Fr g L h (mP x tx o' to' po' co') → News g L h news → Q .next { s with heap := h, toks := tk }) :
    wpAny (model pw w) A (assign (.Tuple [.Name (Str.ofString "pos") p1, .Name (Str.ofString "ch") p2] px2 px) (parE L) (.ref T)) (fun _ s₂ => wpAny (model pw w) A (execs (forBody parFor) (parE L)) Q (fun _ _ => False) s₂) (fun _ _ => False) s := by
  have hr1 : forBody parFor = forBody parFor := rfl
  conv at hr1 => rhs; whnf
  have hb2 : (fp 6).2.2 = (fp 6).2.2 := rfl
  conv at hb2 => rhs; whnf
  unfold parE
  rw [hr1, hb2]
  clear hr1 hb2
  refine unpackN_ F N hT hh rfl rfl fun h3 F3 N3 => ?_
  clear F N
  k_steps
  · rename Fr _ _ _ _ => F4
    rename News _ _ _ _ => N4
    rename (_ == Str.ofString "(") = true => h1
    rw [eq_cp c 40 _ (by decide)] at h1
    have h1' : c = 40 := by simpa using h1
    rw [mP_eq3] at F4
    exact next _ _ _ _ _ _ (.inl ⟨h1', rfl⟩) F4 N4
  · rename Fr _ _ _ _ => F4
    rename (_ == Str.ofString ")") = true => h2
    rename o - 1 < 0 => h3
    rw [eq_cp c 41 _ (by decide)] at h2
    exact ret _ _ (by simpa using h2) h3 F4.keep
  · rename Fr _ _ _ _ => F4
    rename News _ _ _ _ => N4
    rename (_ == Str.ofString ")") = true => h2
    rename ¬ (o - 1 < 0) => h3
    rw [eq_cp c 41 _ (by decide)] at h2
    rw [mP_eq3] at F4
    exact next _ _ _ _ _ _ (.inr (.inl ⟨by simpa using h2, h3, rfl⟩)) F4 N4
  · rename Fr _ _ _ _ => F4
    rename News _ _ _ _ => N4
    rename (_ == Str.ofString "(") = false => h1
    rename (_ == Str.ofString ")") = false => h2
    rw [eq_cp c 40 _ (by decide)] at h1
    rw [eq_cp c 41 _ (by decide)] at h2
    rw [mP_eq1] at F4
    exact next _ _ _ _ _ _ (.inr (.inr ⟨by simpa using h1, by simpa using h2, rfl⟩)) F4 N4
theorem parF_cons {o : Int} {c : Nat} {r : List Nat} : parF o (c :: r) = if c = 40 then parF (o + 1) r else if c = 41 then (if o - 1 < 0 then none else parF (o - 1) r) else parF o r := rfl
end
end Mine
end
section
open PySem PySem.W PySem.Calls PyProof.Rows PySem.Spec
set_option maxRecDepth 100000
set_option maxHeartbeats 1000000
namespace Mine
theorem bare_set {G : Array GenState} {g : Nat} {gs : GenState} (h : AllBare G) (hb : gs.bare = true) : AllBare (G.setIfInBounds g gs) := by
  intro y hy
  rcases Array.mem_or_eq_of_mem_setIfInBounds hy with q | rfl
  · exact h _ q
  · exact hb
section
variable {w : World} {A : Around} {E : Value → Shared → Prop} {s : Shared} {a : Addr} {g n : Nat} {gs : GenState} {P : Nat → Shared → Shared → Prop} {Y : Protocol}
theorem gen_turn {Q : GenResult → Shared → Prop} (hgs : s.gens[g]? = some gs) (hgo : gs.Goes (model pw w) A (fun n s₀ r s₁ => r = .ok (.ret .none) ∧ P n s₀ s₁) Y n (.send .none) (s.setGen g .running))
    (hY : ∀ v s₁ gs', gs'.bare = true → Y (n - 1) (s.setGen g .running) v s₁ (fun r' s'' => match n with
        | 0 => False
        | m + 1 => gs'.Goes (model pw w) A (fun n s₀ r s₁ => r = .ok (.ret .none) ∧ P n s₀ s₁) Y m r' s'') → Q (.yielded v) (s₁.setGen g gs'))
    (hP : ∀ s₁, P n (s.setGen g .running) s₁ → Q (.returned .none) (s₁.setGen g .finished)) {α : Type} {k : GenResult → Sem α} {Q' : α → Shared → Prop} (hk : ∀ r s, Q r s → wpAny (model pw w) A (k r) Q' E s) :
    wpAny (model pw w) A (.resume g (.send .none) [] k) Q' E s :=
  wpAny_resumeQ hgs hgo (fun x s₁ ⟨e, p⟩ => hk _ _ (by subst e; exact hP s₁ p)) fun v s₁ gs' hb hv => hk _ _ (hY v s₁ gs' hb hv)
theorem next_bare {Q : Option Value → Shared → Prop} (hh : A.handled = none) (hl : s.heap.NoLimit) (hroom : A.depth < recursionLimit) (hg : s.heap.IsGen a g) (hgs : s.gens[g]? = some gs)
    (hgo : gs.Goes (model pw w) A.in1 (fun n s₀ r s₁ => r = .ok (.ret .none) ∧ P n s₀ s₁) Y n (.send .none) (s.setGen g .running))
    (hY : ∀ v s₁ gs', gs'.bare = true → Y (n - 1) (s.setGen g .running) v s₁ (fun r' s'' => match n with
        | 0 => False
        | m + 1 => gs'.Goes (model pw w) A.in1 (fun n s₀ r s₁ => r = .ok (.ret .none) ∧ P n s₀ s₁) Y m r' s'') → Q (some v) (s₁.setGen g gs'))
    (hP : ∀ s₁, P n (s.setGen g .running) s₁ → ∀ h', (∀ b o, s₁.heap.get? b = some o → h'.get? b = some o) → Q none { s₁.setGen g .finished with heap := h' }) :
    wpAny (model pw w) A (pyNext (.ref a)) Q E s := by
  have hns : (match gs with | .running => False | .finished => False | _ => True) := by
    cases gs <;> first | trivial | exact hgo
  unfold pyNext
  refine wpAny_bind (wpAny_attempt (wpAny_callSpecial?_slot (name := Str.ofString "__next__") hg.typeIs slot_gen_next (wpAny_call_entry slot_gen_next hg.typeIs entry_gen_next ?_ (args_gen_next _))))
  show wpAny _ A.in1 (Builtin.Generator.genWake (.ref a) (.send .none)) _ _ s
  unfold Builtin.Generator.genWake
  refine wpAny_bind (wpAny_holding (wpAny_genNumber hg (wpAny_bind (wpAny_genState hgs ?_))))
  cases gs with
  | running => exact hgo.elim
  | finished => exact hgo.elim
  | _ =>
    refine wpAny_bind (wpAny_roomToWake hl hroom ?_)
    refine gen_turn (Q := fun r s₂ => match r with
      | .yielded v => Q (some v) s₂
      | .returned v => v = .none ∧ ∀ h', (∀ b o, s₂.heap.get? b = some o → h'.get? b = some o) → Q none { s₂ with heap := h' }
      | _ => False) hgs hgo (fun v s₁ gs' hb hv => hY v s₁ gs' hb hv) (fun s₁ hp => ⟨rfl, hP s₁ hp⟩) (fun r s₂ h => ?_)
    cases r with
    | yielded v => exact wpAny_pure ⟨v, rfl, wpAny_pure h⟩
    | returned v =>
      obtain ⟨rfl, h⟩ := h
      have hh1 : A.in1.handled = none := hh
      show wpAny _ A.in1 (newExc (.type "StopIteration") [] >>= _) _ _ _
      unfold newExc newTuple
      wp_walk
      unfold raiseNew
      refine wpAny_bind (wpAny_handled ?_)
      rw [hh1]
      refine wpAny_bind (wpAny_pure (wpAny_throw ?_))
      refine wpAny_bind (wpAny_isInstance (T := "StopIteration") (b := true) ⟨_, Heap.get?_push_size _ rfl, rfl⟩ isSubtype_stop ?_)
      exact wpAny_pure (h _ fun b o hb => Heap.get?_push_of_some _ (Heap.get?_push_of_some _ hb))
    | _ => exact h.elim
end
end Mine
end
section
open PySem PySem.W PySem.Calls PyProof.Rows PySem.Spec
set_option maxRecDepth 100000
set_option maxHeartbeats 1000000
namespace Mine
local macro_rules | `(tactic| walk_at "call ref") => `(tactic| (k_here; with_reducible refine Mine.hCall ?_))
section
variable {w : World} {mg mb : Str → Option Value} {hb g : Heap} {A : Around} {s : Shared} {L : Addr}
theorem esc_next {E : Value → Shared → Prop} {Q : Option Value → Shared → Prop} (hh : A.handled = none) (hl : s.heap.NoLimit) (hroom : A.depth < recursionLimit) (hS : Sub hb s.heap) {x : Str} {a L2 e it : Addr} {gi i : Nat} {gs : GenState} (hi : i ≤ x.cps.size) (hn : ∀ p ∈ [L2, e, it], hb.get? p = none)
    (hg : s.heap.IsGen a gi) (hgs : s.gens[gi]? = some gs) (hgo : gs.Goes (model pw w) A.in1 (escR L2 e it) (escY hb L2 e it x) (x.cps.size - i) (.send .none) (s.setGen gi .running))
    (some_ : i < x.cps.size → ∀ h' tk' T t u c G' gs' oL oe oi, x.cps[i]? = some c → keepO [L2, e, it] s.heap h' → h'.IsTuple T #[.int (i : Int) t, .str ⟨#[c]⟩ u] → T ∉ [L2, e, it] → s.heap.get? T = none → h'.get? L2 = some oL → h'.get? e = some oe → h'.get? it = some oi → G'[gi]? = some gs' → (AllBare s.gens → AllBare G') →
      (∀ s'' : Shared, Sub hb s''.heap → s''.heap.get? L2 = some oL → s''.heap.get? e = some oe → s''.heap.get? it = some oi → gs'.Goes (model pw w) A.in1 (escR L2 e it) (escY hb L2 e it x) (x.cps.size - (i + 1)) (.send .none) s'') → Q (some (.ref T)) { s with heap := h', toks := tk', gens := G' })
    (none_ : i = x.cps.size → ∀ h' tk' G', keepO [L2, e, it] s.heap h' → (AllBare s.gens → AllBare G') → Q none { s with heap := h', toks := tk', gens := G' }) :
    wpAny (model pw w) A (pyNext (.ref a)) Q E s := by
  refine next_bare (P := fun n s₀ s₁ => n = 0 ∧ SinceO [L2, e, it] s₀ s₁) hh hl hroom hg hgs hgo (fun v s₁ gs' hbare hY => ?_) (fun s₁ hP h' hk => ?_)
  · obtain ⟨T, t, u, i', c, hi', hc, rfl, hT, hTn, hTf, ⟨h1, tk1, rfl, hk1⟩, oL, oe, oi, hL1, he1, hi1, hkap⟩ := hY
    by_cases hlt : i < x.cps.size
    · have hm : x.cps.size - i = (x.cps.size - (i + 1)) + 1 := by omega
      rw [hm] at hi' hkap
      have hii : i' = i := by omega
      subst hii
      exact some_ hlt h1 tk1 T t u c _ gs' oL oe oi hc hk1 hT hTn hTf hL1 he1 hi1 (setGen_self (gs := .running) (setGen_self hgs)) (fun ab => bare_set (bare_set ab rfl) hbare) hkap
    · have hm : x.cps.size - i = 0 := by omega
      rw [hm] at hkap
      have := hkap { s with heap := h1 } (fun b o eb => hk1 b o (fun hm => by rw [hn b hm] at eb; cases eb) (hS b o eb)) hL1 he1 hi1
      exact False.elim this
  · obtain ⟨hz, h1, tk1, rfl, hk1⟩ := hP
    exact none_ (by omega) h' _ _ (fun b o hb hbo => hk b o (hk1 b o hb hbo)) fun ab => bare_set (bare_set ab rfl) rfl
inductive InvP (w : World) (A : Around) (hb g : Heap) (L a L2 : Addr) (gi : Nat) (x : Str) (tx : Tok) (s : Shared) (k : Nat) (s' : Shared) : Prop
  | mk (h : Heap) (tk : Tok) (G : Array GenState) (i : Nat) (o : Int) (to : Tok) (po co : Option Value) (gs : GenState) (h1 : s' = { s with heap := h, toks := tk, gens := G }) (h2 : i ≤ x.cps.size) (h3 : k = x.cps.size - i) (h4 : parF 0 x.cps.toList = parF o (x.cps.toList.drop i)) (h5 : -(i : Int) ≤ o ∧ o ≤ (i : Int)) (h6 : Fr g L h (mP x tx o to po co)) (h7 : G[gi]? = some gs) (h8 : h.IsGen a gi) (h9 : AllBare s.gens → AllBare G)
    (h10 : (i = 0 ∧ gs = .fresh (.func (fp 4).2.1 (escE L2)) ∧ h.objs.size = a + 1 ∧ h.Ns L2 (fun y => [(Str.ofString "addr", Value.str x tx)].reverse.lookup y)) ∨
      (∃ oL oe oi oa, News g L h [(a, oa), (L2, oL), (a + 2, oe), (a + 1, oi)] ∧ ∀ s'' : Shared, Sub hb s''.heap → s''.heap.get? L2 = some oL → s''.heap.get? (a + 2) = some oe → s''.heap.get? (a + 1) = some oi → gs.Goes (model pw w) A.in1 (escR L2 (a + 2) (a + 1)) (escY hb L2 (a + 2) (a + 1) x) (x.cps.size - i) (.send .none) s'')) : InvP w A hb g L a L2 gi x tx s k s'
theorem par_loop (B : Base w mg mb hb) (hbg : Sub hb g) (hA : A.depth + 2 < recursionLimit) (hh : A.handled = none) (T : Top vq looseF (ExcName.means hb) mg mb g) {Q : Flow → Shared → Prop} {x : Str} {tx : Tok} (hx : x.cps.all (· < 128) = true) (hq : ∀ c ∈ x.cps.toList, c ≠ 92) (hzx : x.cps.size ≤ 1000) {a L2 : Addr} {gi : Nat}
    (hL2 : L < L2) (hLa : L2 < a) (gg : Heap) (hgb : ∀ b, gg.get? b = hb.get? b) (hgL : gg.objs.size ≤ L2)
    (I0 : InvP w A hb g L a L2 gi x tx s x.cps.size s)
    (ret : parF 0 x.cps.toList = none → ∀ h tk G, (∀ b o, g.get? b = some o → h.get? b = some o) → (AllBare s.gens → AllBare G) → Q (.ret (.bool false)) { s with heap := h, toks := tk, gens := G })
    (done : ∀ o to po co, parF 0 x.cps.toList = some o → -1000 ≤ o ∧ o ≤ 1000 → ∀ h tk G, Fr g L h (mP x tx o to po co) → (AllBare s.gens → AllBare G) → Q .next { s with heap := h, toks := tk, gens := G }) :
    ∀ {p1 p2 : Pos} {px2 : Nat} {px : Pos}, codeAny (model pw w) A (.forLoop (.Tuple [.Name (Str.ofString "pos") p1, .Name (Str.ofString "ch") p2] px2 px) (.ref a) (forBody parFor) [] (parE L)) (fun r s' => match r with | .ok f => Q f s' | .error _ => False) s := by
  intro p1 p2 px2 px
  refine codeAny_forLoop_any (InvP w A hb g L a L2 gi x tx s) ?_ x.cps.size I0
  rintro k s' ⟨h, tk, G, i, o, to, po, co, gs, rfl, hi, rfl, hpar, hob, F, hgs, hg, hab, hkind⟩
  have hS : Sub hb h := hbOf hbg F.keep
  have gz : ∀ b : Addr, L ≤ b → g.get? b = none := fun b hL => Heap.get?_none_of_le (Nat.le_trans F.above hL)
  have hbz : ∀ b : Addr, L ≤ b → hb.get? b = none := fun b hL => by
    cases q : hb.get? b with
    | none => rfl
    | some o' => have := hbg _ _ q; rw [gz b hL] at this; cases this
  have l1 : L ≤ L2 := Nat.le_of_lt hL2
  have l2 : L ≤ a := Nat.le_trans l1 (Nat.le_of_lt hLa)
  have l3 : L ≤ a + 1 := Nat.le_trans l2 (Nat.le_succ _)
  have l4 : L ≤ a + 2 := Nat.le_trans l3 (Nat.le_succ _)
  have n1 : @LT.lt Nat _ L L2 := hL2
  have n2 : @LT.lt Nat _ L2 a := hLa
  have hLn : L ∉ [L2, a + 2, a + 1] := by
    intro hm
    simp only [List.mem_cons, List.not_mem_nil, or_false] at hm
    rcases hm with q | q | q
    · have q' : @Eq Nat L L2 := q
      omega
    · have q' : @Eq Nat L (a + 2) := q
      omega
    · have q' : @Eq Nat L (a + 1) := q
      omega
  have han : a ∉ [L2, a + 2, a + 1] := by
    intro hm
    simp only [List.mem_cons, List.not_mem_nil, or_false] at hm
    rcases hm with q | q | q
    · have q' : @Eq Nat a L2 := q
      omega
    · have q' : @Eq Nat a (a + 2) := q
      omega
    · have q' : @Eq Nat a (a + 1) := q
      omega
  have hgo : gs.Goes (model pw w) A.in1 (escR L2 (a + 2) (a + 1)) (escY hb L2 (a + 2) (a + 1) x) (x.cps.size - i) (.send .none) (Shared.setGen { s with heap := h, toks := tk, gens := G } gi .running) := by
    rcases hkind with ⟨rfl, rfl, hsz, hns⟩ | ⟨oL, oe, oi, oa, N, hall⟩
    · have hsub : ∀ b o, hb.get? b = some o → gg.get? b = some o := fun b o e => (hgb b).trans e
      refine ⟨rfl, esc_start (mg := mg) (mb := mb) (w := w) (A := A.in1) B hh hgb hgL hx hq (B.K.keeps hsub) (B.T.keeps hsub) ⟨hns, fun b o e => hS b o ((hgb b).symm.trans e), hgL⟩ ?_ ?_⟩
      · exact hsz.symm
      · show a + 2 = h.objs.size + 1
        rw [hsz]
    · exact hall _ hS (N _ (.tail _ (.head _))).1 (N _ (.tail _ (.tail _ (.head _)))).1 (N _ (.tail _ (.tail _ (.tail _ (.head _))))).1
  have hkF : ∀ {h'' : Heap}, keepO [L2, a + 2, a + 1] h h'' → Fr g L h'' (mP x tx o to po co) := fun hk => ⟨F.ns.at' fun o' eo => hk _ o' hLn eo, fun b o' eb => hk b o' (fun hm => by
    simp only [List.mem_cons, List.not_mem_nil, or_false] at hm
    rcases hm with q | q | q
    · rw [q, gz _ l1] at eb; cases eb
    · rw [q, gz _ l4] at eb; cases eb
    · rw [q, gz _ l3] at eb; cases eb) (F.keep b o' eb), F.above⟩
  refine esc_next hh (T.nolimit.keeps F.keep) (by omega) hS (x := x) (a := a) (L2 := L2) (e := a + 2) (it := a + 1) hi ?_ hg hgs hgo ?_ ?_
  · intro p hp
    simp only [List.mem_cons, List.not_mem_nil, or_false] at hp
    rcases hp with rfl | rfl | rfl
    · exact hbz _ l1
    · exact hbz _ l4
    · exact hbz _ l3
  · intro hlt h' tk' T' t u c G' gs' oL oe oi hc hk hT hTn hTf e1 e2 e3 hG hgb' hall
    obtain ⟨oa, nm, qn, hoa, hca, hda, hsa⟩ := id hg
    have hoa' : h'.get? a = some oa := hk a oa han hoa
    have hg' : h'.IsGen a gi := ⟨oa, nm, qn, hoa', hca, hda, hsa⟩
    refine owned_gen hg' ?_
    have F' := hkF hk
    have N' : News g L h' [(a, oa), (L2, oL), (a + 2, oe), (a + 1, oi)] := by
      intro p hp
      simp only [List.mem_cons, List.not_mem_nil, or_false] at hp
      rcases hp with rfl | rfl | rfl | rfl
      · refine ⟨hoa', fun q => ?_, gz _ l2⟩
        have q' : @Eq Nat a L := q
        omega
      · refine ⟨e1, fun q => ?_, gz _ l1⟩
        have q' : @Eq Nat L2 L := q
        omega
      · refine ⟨e2, fun q => ?_, gz _ l4⟩
        have q' : @Eq Nat (a + 2) L := q
        omega
      · refine ⟨e3, fun q => ?_, gz _ l3⟩
        have q' : @Eq Nat (a + 1) L := q
        omega
    have hdrop : x.cps.toList.drop i = c :: x.cps.toList.drop (i + 1) := by
      have hl : i < x.cps.toList.length := by simpa using hlt
      rw [List.drop_eq_getElem_cons hl]
      congr 1
      have := Array.getElem?_toList (xs := x.cps) (i := i)
      rw [List.getElem?_eq_getElem hl, hc] at this
      exact Option.some.inj this
    rw [hdrop, parF_cons] at hpar
    refine wpAny_mono (par_turn (Q := fun f s₃ => match f with
            | .next | .cont => ∃ m, m < x.cps.size - i ∧ InvP w A hb g L a L2 gi x tx s m s₃
            | .brk => Q .next s₃
            | .ret v => Q (.ret v) s₃) hh hT F' N' (by omega) ?_ ?_) (fun _ s₂ h₂ => wpAny_mono h₂ (fun f s₃ h₃ => h₃) fun _ _ x => x.elim) fun _ _ x => x.elim
    · intro h5 tk5 hc41 hneg hkp
      rw [if_neg (by omega), if_pos hc41, if_pos hneg] at hpar
      exact ret hpar h5 tk5 G' hkp fun ab => hgb' (hab ab)
    · intro h5 tk5 o' to' po' co' hcase F5 N5
      refine ⟨x.cps.size - (i + 1), by omega, h5, tk5, G', i + 1, o', to', po', co', gs', rfl, by omega, rfl, ?_, ?_, F5, hG, ⟨oa, nm, qn, (N5 (a, oa) (.head _)).1, hca, hda, hsa⟩, fun ab => hgb' (hab ab), .inr ⟨oL, oe, oi, oa, N5, hall⟩⟩
      · rcases hcase with ⟨h1, rfl⟩ | ⟨h1, h2, rfl⟩ | ⟨h1, h2, rfl⟩
        · rw [hpar, if_pos h1]
        · rw [hpar, if_neg (by omega), if_pos h1, if_neg h2]
        · rw [hpar, if_neg h1, if_neg h2]
      · rcases hcase with ⟨h1, rfl⟩ | ⟨h1, h2, rfl⟩ | ⟨h1, h2, rfl⟩ <;> omega
  · intro hin h' tk' G' hk hgb'
    refine wpAny_execs_nil ?_
    rw [List.drop_of_length_le (by simp [hin])] at hpar
    exact done o to po co hpar (by omega) h' tk' G' (hkF hk) fun ab => hgb' (hab ab)
end
end Mine
end
section
open PySem PySem.W PySem.Calls PyProof.Rows PySem.Spec
set_option maxRecDepth 100000
set_option maxHeartbeats 1000000
namespace Mine
local macro_rules | `(tactic| walk_at "call ref") => `(tactic| (k_here; with_reducible refine Mine.hCall ?_))
local macro_rules | `(tactic| walk_at "exec For Tuple Call cons nil") => `(tactic| (k_here; with_reducible refine Mine.hFor ?_))
inductive ParE1 (g : Heap) (x : Str) (s : Shared) (f : Flow) (s' : Shared) : Prop
  | mk (h1 : f = .ret (.bool false)) (h2 : parF 0 x.cps.toList = none) (h : Heap) (tk : Tok) (G : Array GenState) (h3 : s' = { s with heap := h, toks := tk, gens := G }) (h4 : ∀ b o, g.get? b = some o → h.get? b = some o) (h5 : AllBare s.gens → AllBare G) : ParE1 g x s f s'
inductive ParE2 (g : Heap) (L : Addr) (x : Str) (tx : Tok) (s : Shared) (f : Flow) (s' : Shared) : Prop
  | mk (h1 : f = .next) (o : Int) (to : Tok) (po co : Option Value) (h : Heap) (tk : Tok) (G : Array GenState) (h2 : s' = { s with heap := h, toks := tk, gens := G }) (h3 : parF 0 x.cps.toList = some o) (h4 : -1000 ≤ o ∧ o ≤ 1000) (h5 : Fr g L h (mP x tx o to po co)) (h6 : AllBare s.gens → AllBare G) : ParE2 g L x tx s f s'
noncomputable def ParEnd (g : Heap) (L : Addr) (x : Str) (tx : Tok) (s : Shared) (f : Flow) (s' : Shared) : Prop := ParE1 g x s f s' ∨ ParE2 g L x tx s f s'
section
variable {w : World} {mg mb : Str → Option Value} {hb : Heap} {A : Around} {s : Shared} {Q E : Value → Shared → Prop}
theorem c_paren (B : Base w mg mb hb) (hs : Sub hb s.heap) (hA : A.depth + 4 < recursionLimit) (hh : A.handled = none) (x : Str) (t : Tok) (hx : x.cps.all (· < 128) = true) (hq : ∀ c ∈ x.cps.toList, c ≠ 92) (hq2 : 34 ∉ x.cps.toList) (hzx : x.cps.size < 1000)
    (ret : ∀ h' tk' G, Sub s.heap h' → (AllBare s.gens → AllBare G) → Q (.bool (parB x)) { s with heap := h', toks := tk', gens := G }) :
    wpAny (model pw w) A (call (.ref 77) [.str x t]) Q E s := by
  refine enterG B hs [] (fun p hp => nomatch hp) (f := 77) (name := "_check_parenthesis") (qual := "_check_parenthesis") (binds := [("addr", .str x t)]) (by k_is) (by k_is) (by omega) ?_ ?_ ?_ ?_ ?_ ?_ ?_
  · exact BindsTo.of_eq rfl
  · exact locs rfl
  · intro g L h₁ hg hg' hL F0 N0 X T hbg
    have hb1 : (fp 6).2.1 = (fp 6).2.1 := rfl
    conv at hb1 => rhs; whnf
    have hb2 : (fp 6).2.2 = (fp 6).2.2 := rfl
    conv at hb2 => rhs; whnf
    have he : parE L = parE L := rfl
    conv at he => rhs; unfold parE; rw [hb2]
    rw [hb1, hb2]
    clear hb1
    k_steps
    show wpAny _ _ (call (.ref 70) [.str x t]) _ _ _
    refine c_strip B ?_ ?_ ?_ x t hq2 hzx ?_
    · exact hbOf hbg F0.keep
    · exact (dlt0 hA rfl : A.depth + 1 < recursionLimit)
    · exact hh
    intro h2 tk2 sub2
    have F2 := F0.keeps sub2
    have N2 := N0.grown sub2
    clear F0 N0
    k_steps
    show wpAny _ _ _ _ _ _
    rename Fr _ _ _ _ => F3
    rename News _ _ _ _ => N3
    have hm : ∀ to : Tok, (fun y => if y = Str.ofString "opens" then some (Value.int 0 to) else if y = Str.ofString "addr" then some (Value.str x t) else List.lookup y [(Str.ofString "addr", Value.str x t)].reverse) = mP x t 0 to none none := fun to => by
      funext z
      by_cases e0 : z = Str.ofString "opens"
      · subst e0; rfl
      by_cases e1 : z = Str.ofString "ch"
      · subst e1; rfl
      by_cases e2 : z = Str.ofString "pos"
      · subst e2; rfl
      by_cases e3 : z = Str.ofString "addr"
      · subst e3; rfl
      simp only [mP, if_neg e0, if_neg e1, if_neg e2, if_neg e3, List.reverse_cons, List.reverse_nil, List.nil_append, List.lookup_cons, List.lookup_nil, beq_eq_false_iff_ne.mpr e3]
    rw [hm] at F3
    refine wpAny_For ?_
    k_steps
    rename Fr _ _ _ _ => F4
    rename News _ _ _ _ => N4
    show wpAny _ _ (call (.ref 63) [.str x _]) _ _ _
    refine c_gen B ?_ ?_ x _ ?_
    · exact hbOf hbg F4.keep
    · exact (dlt0 hA rfl : A.depth + 1 < recursionLimit)
    intro h4 tk4 a L2 hL2 ha0 hLa hsz hns hgen hk4
    refine wpAny_pyIter_gen hgen ?_
    have F5 := F4.keeps hk4
    have hLL : L < L2 := by rw [hL2]; exact F4.ns.lt
    refine codeAny_mono (par_loop (g := g) B hbg ?_ ?_ T (x := x) (tx := t) (a := a) (L2 := L2) (gi := s.gens.size) (Q := ParEnd g L x t s) hx hq (by omega) hLL hLa (cut hb _) (fun b => cut_get (hbOf hbg F4.keep) b) ?_ ?_ ?_ ?_) (fun r s' h => ?_)
    · exact (dlt1 hA rfl : A.depth + 1 + 2 < recursionLimit)
    · exact hh
    · rw [cut_size, hL2]; exact Nat.le_refl _
    · exact ⟨h4, _, _, 0, 0, _, none, none, _, rfl, Nat.zero_le _, rfl, rfl, by decide, F5, Array.getElem?_push_size .., hgen, fun ab => ab, .inl ⟨rfl, rfl, hsz, hns⟩⟩
    · exact fun hn h tk G hk hab => .inl ⟨rfl, hn, h, tk, G, rfl, hk, fun ab => hab (AllBare.push ab rfl)⟩
    · exact fun o to po co ho hbd h tk G hF hab => .inr ⟨rfl, o, to, po, co, h, tk, G, rfl, ho, hbd, hF, fun ab => hab (AllBare.push ab rfl)⟩
    cases r with
    | error e => exact h.elim
    | ok f =>
      rcases h with ⟨rfl, hn, h5, tk5, G, rfl, hk5, hab⟩ | ⟨rfl, o, to, po, co, h5, tk5, G, rfl, ho, hbd, F6, hab⟩
      · have hb : parB x = false := by unfold parB; rw [hn]
        rw [hb] at ret
        show Q (.bool false) _
        exact ret _ _ _ (fun b o e => hk5 b o (hg b o e (by simp))) hab
      · have N6 : News g L h5 [] := fun _ h => nomatch h
        have hb : parB x = (o == 0) := by unfold parB; rw [ho]
        rw [hb] at ret
        clear F5 F4 N4
        show wpAny _ _ _ _ _ _
        k_steps
        exact ret _ _ _ (fun b o e => F6.keep b o (hg b o e (by simp))) hab
  · rfl
  · rfl
  · rfl
  · decide
end
end Mine
end
section
open PySem PySem.W PySem.Calls PyProof.Rows PySem.Spec
set_option maxRecDepth 100000
set_option maxHeartbeats 1000000
namespace Mine
local macro_rules | `(tactic| walk_at "call builtin:len") => `(tactic| (k_here; (with_reducible show wpAny _ _ (call (Value.builtin "len") _) _ _ _); refine Halt.of ?_))
noncomputable abbrev tick : Str := Str.ofString "'"
section
variable {w : World} {mg mb : Str → Option Value} {hb : Heap} {A : Around} {s : Shared} {Q E : Value → Shared → Prop}
theorem c_dec (B : Base w mg mb hb) (hs : Sub hb s.heap) (hA : A.depth + 4 < recursionLimit) (hh : A.handled = none) (x : Str) (t : Tok) (hzx : x.cps.size < 1000) (hps : (Txt.splitMax x tick 2).length ≤ 1000)
    (few : (Txt.splitMax x tick 2).length ≤ 2 → ∀ h' tk' T, Sub s.heap h' → s.heap.get? T = none → h'.get? T = some { cls := .type "tuple", data := .seq #[.none, .none, .str x t] } → Q (.ref T) { s with heap := h', toks := tk' })
    (many : ¬ (Txt.splitMax x tick 2).length ≤ 2 → ∀ h' tk' D l, Sub s.heap h' → s.heap.get? D = none → l.map (·.1) = Txt.splitMax x tick 2 → h'.get? D = some (listOf (strValues l).toArray 0) → Q (.ref D) { s with heap := h', toks := tk' }) :
    wpAny (model pw w) A (call (.ref 84) [.str x t]) Q E s := by
  refine enterG B hs [] (fun p hp => nomatch hp) (f := 84) (name := "decode_rfc2231") (qual := "decode_rfc2231") (binds := [("s", .str x t)]) (by k_is) (by k_is) (by omega) ?_ ?_ ?_ ?_ ?_ ?_ ?_
  · exact BindsTo.of_eq rfl
  · exact locs rfl
  · intro g L h₁ hg hg' hL F0 N0 X T hbg
    have hb1 : (fp 7).2.1 = (fp 7).2.1 := rfl
    conv at hb1 => rhs; whnf
    have hb2 : (fp 7).2.2 = (fp 7).2.2 := rfl
    conv at hb2 => rhs; whnf
    rw [hb1, hb2]
    clear hb1
    k_steps
    rename Fr _ _ _ _ => F2
    rename News _ _ _ _ => N2
    rename List.map _ _ = Txt.splitMax _ _ _ => hl
    have zD := N2 _ (.head _)
    have hsl : ∀ l : List (Str × Tok), (strValues l).toArray.size = (l.map (·.1)).length := fun l => by simp [strValues]
    show wpAny _ _ (call (.builtin "len") _) _ _ _
    refine call_len_list ⟨_, zD.1, rfl, _, rfl⟩ ?_ ?_
    · rw [hsl, hl]
      have hps' : (Txt.splitMax x (Str.ofString "'") 2).length ≤ 1000 := hps
      omega
    generalize hln : (strValues _).toArray.size = nn
    have hnn : (Txt.splitMax x tick 2).length = nn := by
      rw [← hl, ← hln, hsl]
    have hnb : nn < 2000 := by omega
    rw [hnn] at few many
    have fresh : ∀ b, g.get? b = none → s.heap.get? b = none := fun b hb => by
      cases q : s.heap.get? b with
      | none => rfl
      | some o => have := hg b o q (by simp); rw [hb] at this; cases this
    k_steps
    · rename Fr _ _ _ _ => F3
      rename News _ _ _ _ => N3
      rename (nn : Int) ≤ 2 => hle
      have z3 := N3 _ (.head _)
      exact few (by omega) _ _ _ (fun b o e => chgG hg F3 N3 b o e (.inl (by simp))) (fresh _ z3.2.2) z3.1
    · rename ¬ (nn : Int) ≤ 2 => hle
      exact many (by omega) _ _ _ _ (fun b o e => chgG hg F2 N2 b o e (.inl (by simp))) (fresh _ zD.2.2) hl zD.1
  · rfl
  · rfl
  · rfl
  · decide
end
end Mine
end
section
open PySem PySem.W PySem.Calls PyProof.Rows PySem.Spec
set_option maxRecDepth 100000
set_option maxHeartbeats 1000000
namespace Mine
noncomputable def tabGood (t : SetTable) (n : Nat) (h : Int) : Bool :=
  match t.freeSlot h with
  | some (slot, wd) => (t.put slot).1.fits (n + 1) && !(!wd && (t.put slot).1.tooFull) && (t.put slot).1.plain
  | none => false
noncomputable def tabNext (t : SetTable) (h : Int) : SetTable :=
  match t.freeSlot h with
  | some (slot, _) => (t.put slot).1
  | none => t
noncomputable def LSet (w : World) (h : Heap) (a : Addr) (S : Int → Bool) (n : Nat) (t : SetTable) : Prop :=
  ∃ o es ep, h.get? a = some o ∧ o.ExactSet ∧ o.data = .set es ep t ∧ ElemsOf (intKind pw w) es.toList ∧ (∀ k, S k = true ↔ ∃ e ∈ es.toList, (intKind pw w).is k e.2 = true) ∧ es.size < scanBound ∧ t.fits es.size = true ∧ es.size = n
theorem LSet.setOf {w : World} {h : Heap} {a : Addr} {S : Int → Bool} {n : Nat} {t : SetTable} : LSet w h a S n t → h.SetOf (intKind pw w) a S n := fun ⟨o, es, ep, a1, a2, a3, a4, a5, a6, a7, a8⟩ => ⟨o, es, ep, t, a1, a2, a3, a4, a5, a6, a7, a8⟩
theorem LSet.congr {w : World} {h : Heap} {a : Addr} {S S' : Int → Bool} {n n' : Nat} {t t' : SetTable} (x : LSet w h a S n t) (e : ∀ k, S k = S' k) (en : n = n') (et : t = t') : LSet w h a S' n' t' := by
  have : S = S' := funext e
  subst this; subst en; subst et; exact x
theorem LSet.keeps {w : World} {h h' : Heap} {a : Addr} {S : Int → Bool} {n : Nat} {t : SetTable} (x : LSet w h a S n t) (hk : ∀ o, h.get? a = some o → h'.get? a = some o) : LSet w h' a S n t :=
  let ⟨o, es, ep, a1, r⟩ := x; ⟨o, es, ep, hk o a1, r⟩
section
variable {w : World} {A : Around} {E : Value → Shared → Prop} {s : Shared}
theorem lset_store {h : Heap} {a : Addr} {o : Obj} {es es' : Array (Int × Value)} {ep : Nat} {t t' : SetTable} {S' : Int → Bool} (ho : h.get? a = some o) (hex : o.ExactSet) (hd : o.data = .set es ep t)
    (hel : ElemsOf (intKind pw w) es'.toList) (hmem : ∀ k, S' k = true ↔ ∃ e ∈ es'.toList, (intKind pw w).is k e.2 = true) (hb : es'.size < scanBound) (hf : t'.fits es'.size = true) :
    LSet w (h.update a (Obj.putSet es' t')) a S' es'.size t' := by
  have hg := (SetOf_store (knd := intKind pw w) ho hex hd hel hmem hb hf).1
  exact ⟨_, es', ep + 1, hg, hex, rfl, hel, hmem, hb, hf, rfl⟩
theorem lset_add {a : Addr} {S : Int → Bool} {n : Nat} {k : Int} {tk : Tok} {t : SetTable} {Q : Bool → Shared → Prop} (hS : LSet w s.heap a S n t) (hroom : n + 1 < scanBound) (hgood : S k = false → tabGood t n ((intKind pw w).hash k) = true)
    (h : ∀ b h', Heap.SameBut a s.heap h' → LSet w h' a (fun k' => S k' || decide (k' = k)) (if S k then n else n + 1) (if S k then t else tabNext t ((intKind pw w).hash k)) → Q b { s with heap := h' }) :
    wpAny (model pw w) A (setAddHashed a (.int k tk) ((intKind pw w).hash k)) Q E s := by
  have hkey : (intKind pw w).is k (.int k tk) = true := intKind_is _ _ _ _
  have hsc : (Value.int k tk).scannable = true := rfl
  obtain ⟨o, es, ep, ho, hex, hd, hel, hmem, hb, hf, hn⟩ := hS
  unfold setAddHashed setAddHashedIn
  refine wpAny_holding (wpAny_bind (wpAny_setState_of ho hd hf ?_))
  dsimp only
  rw [byScan_of hsc hb hel]
  simp only [↓reduceIte]
  unfold setAddByScan
  refine wpAny_bind (wpAny_bind (wpAny_rule (wpAny_bind (wpAny_setScan_of hkey ho hd hf hel ?_))))
  cases hr : List.findIdx? (fun e => (intKind pw w).is k e.2) es.toList with
  | some j =>
    dsimp only
    obtain ⟨hj, hpj, _⟩ := List.findIdx?_eq_some_iff_getElem.mp hr
    have hSk : S k = true := (hmem k).mpr ⟨es.toList[j], List.getElem_mem hj, hpj⟩
    refine wpAny_pure (wpAny_pure ?_)
    refine h _ s.heap (Heap.SameBut.refl a s.heap) ?_
    rw [hSk]
    refine ⟨o, es, ep, ho, hex, hd, hel, fun k' => ?_, hb, hf, hn⟩
    rw [Bool.or_eq_true, decide_eq_true_eq, ← hmem k']
    exact ⟨fun hk => hk.elim id (fun e => e ▸ hSk), .inl⟩
  | none =>
    dsimp only
    have hSk : S k = false := by
      cases hk : S k with
      | false => rfl
      | true => obtain ⟨e, he, hp⟩ := (hmem k).mp hk; have := List.findIdx?_eq_none_iff.mp hr e he; rw [hp] at this; exact Bool.noConfusion this
    have hg := hgood hSk
    rw [hSk] at h
    have hperm := layNew_perm t es ((intKind pw w).hash k) (.int k tk)
    have hfits := layNew_fits t es ((intKind pw w).hash k) (.int k tk)
    have hshape : ∃ wd, (layNew t es ((intKind pw w).hash k) (.int k tk)).2 = (tabNext t ((intKind pw w).hash k), wd, false) ∧ (!wd && (tabNext t ((intKind pw w).hash k)).tooFull) = false ∧ (tabNext t ((intKind pw w).hash k)).plain = true := by
      unfold tabGood at hg
      unfold layNew tabNext
      cases hfs : t.freeSlot ((intKind pw w).hash k) with
      | none => rw [hfs] at hg; cases hg
      | some q =>
        obtain ⟨slot, wd⟩ := q
        rw [hfs] at hg
        simp only [Bool.and_eq_true, Bool.not_eq_true'] at hg
        obtain ⟨⟨g1, g2⟩, g3⟩ := hg
        have hsz : (SetTable.insertAt es (t.put slot).2 ((intKind pw w).hash k, Value.int k tk)).size = n + 1 := by
          have := (SetTable.insertAt_perm es (t.put slot).2 ((intKind pw w).hash k, Value.int k tk)).length_eq
          rw [Array.length_toList] at this
          rw [this, ← hn]
          simp
        have g1' : (t.put slot).1.fits (SetTable.insertAt es (t.put slot).2 ((intKind pw w).hash k, Value.int k tk)).size = true := by rw [hsz]; exact g1
        refine ⟨wd, ?_, g2, g3⟩
        show (((t.put slot).1.orStandIn _, wd, !((t.put slot).1.fits _)) : SetTable × Bool × Bool) = _
        rw [g1']
        unfold SetTable.orStandIn
        rw [if_pos g1']
        rfl
    generalize layNew t es ((intKind pw w).hash k) (.int k tk) = L at hperm hfits hshape ⊢
    obtain ⟨es1, t1, wasDummy, gave⟩ := L
    obtain ⟨wd, hw, hnf, hpl⟩ := hshape
    cases hw
    dsimp only at hperm hfits ⊢
    rw [Array.toList_push] at hperm
    have hel1 : ElemsOf (intKind pw w) es1.toList := (hel.push hkey hsc).perm hperm
    have hmem1 := mem_push_iff (knd := intKind pw w) hkey hmem hperm
    have hsz1 : es1.size = n + 1 := by rw [← Array.length_toList, hperm.length_eq, List.length_append, Array.length_toList, hn]; rfl
    have hb1 : es1.size < scanBound := by rw [hsz1]; exact hroom
    have hS1 := lset_store (w := w) ho hex hd hel1 hmem1 hb1 hfits
    have hsb1 := Heap.SameBut.update s.heap a (Obj.putSet es1 (tabNext t ((intKind pw w).hash k)))
    rw [hsz1] at hS1
    refine wpAny_bind (wpAny_pure ?_)
    rw [hpl]
    simp only [if_true]
    refine wpAny_bind ?_
    rw [hashByValue_scannable 8 hsc]
    refine wpAny_pure ?_
    rw [show plainKind (Value.int k tk) = true from rfl]
    simp only [if_true]
    refine wpAny_bind (wpAny_storeSet_of ho hd ?_ (fits_of_scanBound hb1))
    rw [hnf]
    simp only [Bool.false_eq_true, if_false]
    exact wpAny_pure (wpAny_pure (h true _ hsb1 hS1))
end
end Mine
end
section
open PySem PySem.W PySem.Calls PyProof.Rows PySem.Spec
set_option maxRecDepth 100000
set_option maxHeartbeats 3200000
namespace Mine
section
variable {w : World} {A : Around} {E : Value → Shared → Prop} {s : Shared}
noncomputable abbrev set0 (w : World) : Obj := { cls := .type "set", dict := none, data := .set #[] 0 (.fresh 0 0 (!w.params.followText "set-order")) }
theorem lset_new (a : Value) {Q₁ : Value → Shared → Prop} (h : Q₁ (.ref s.heap.objs.size) { s with heap := s.heap.push (set0 w) }) :
    codeAny (model pw w) A (.call (.builtin "set.__new__") ⟨[.type "set", a], []⟩) (wants Q₁ E) s := by
  refine codeAny_of_tree ?_
  show wpAny _ A.in1 (do checkBuiltinCall "set.__new__" ⟨[.type "set", a], []⟩; again (.builtin "set.__new__" ⟨[.type "set", a], []⟩)) _ _ s
  refine wpAny_bind (wpAny_of_eq (F.newCall_set_1 a) (wpAny_pure ⟨plainId_quiet F.plain_set_new _, codeAny_builtin F.entry_set_new ?_⟩))
  rw [Around.under_plainId F.plain_set_new _]
  unfold Builtin.«set.__new__» Builtin.Frozenset.newClass
  have hsub := sub_set_self
  obtain ⟨hp, g, d, tk, os⟩ := s
  dsimp only
  wp_walk
  refine wpAny_askSetting (wpAny_pure ?_)
  dsimp only
  simp only [newObj]
  refine wpAny_bind (wpAny_alloc (wpAny_pure ?_))
  exact wpAny_pure h
noncomputable def tabL (b : Bool) (σ : List Int) : SetTable := σ.foldl (fun t k => tabNext t (hashInt k)) (.fresh 0 0 b)
noncomputable abbrev ledP (w : World) : Bool := !w.params.followText "set-order"
theorem tabL_step (b : Bool) (σ : List Int) (k : Int) : tabL b (step_dedup σ k) = if σ.any (· == k) then tabL b σ else tabNext (tabL b σ) (hashInt k) := by
  unfold step_dedup
  split
  · rfl
  · unfold tabL; rw [List.foldl_append]; rfl
theorem lset0 (h : Heap) (a : Addr) (hg : h.get? a = some (set0 w)) : LSet w h a (fun _ => false) 0 (tabL (ledP w) []) :=
  ⟨_, #[], 0, hg, ⟨rfl, rfl, rfl⟩, rfl, fun e he => by simp at he, fun k => by simp, by decide, by rfl, rfl⟩
noncomputable abbrev fmet (ns : List Int) (i : Nat) : List Int := firstMet (fun i => ns.getD i 0) i
noncomputable def setGood (b : Bool) (ns : List Int) : Prop := ∀ i, i < ns.length → (fmet ns i).any (· == ns.getD i 0) = false → tabGood (tabL b (fmet ns i)) (fmet ns i).length (hashInt (ns.getD i 0)) = true
theorem lset_loop {I l S : Addr} {items : Array Value} {ns : List Int} (hh : A.handled = none) (hlI : l ≠ I) (hSI : S ≠ I) (hSl : S ≠ l) (hi : IntsAre items.toList ns) (hb : items.size + 1 < scanBound) (hgd : setGood (ledP w) ns) {R : Result → Shared → Prop} :
    ∀ (k i : Nat) (s : Shared), items.size - i = k → i ≤ items.size → s.heap.IsListIter I l i → s.heap.IsList l items →
      LSet w s.heap S (fun k' => (fmet ns i).any (· == k')) (fmet ns i).length (tabL (ledP w) (fmet ns i)) →
      (∀ h' tk, (∀ b o, b ≠ S → b ≠ I → s.heap.get? b = some o → h'.get? b = some o) → LSet w h' S (fun k' => (fmet ns items.size).any (· == k')) (fmet ns items.size).length (tabL (ledP w) (fmet ns items.size)) → R (.ok (.ret .none)) { s with heap := h', toks := tk }) →
      codeAny (model pw w) A (.builtin "set.update.loop" ⟨[.ref S, .ref I], []⟩) R s := by
  intro k
  have W := Walks.list (prog := pw) (w := w) (A := A.in1) hh I l hlI items
  induction k with
  | zero =>
    intro i s hk hi' hit hl hS hR
    have hin : i = items.size := by omega
    subst hin
    refine codeAny_builtin F.entry_set_update_loop ?_
    rw [Around.under_plainId F.plain_set_update_loop _]
    show wpAny _ A.in1 (pyNext (.ref I) >>= _) _ _ s
    refine wpAny_bind (W.done s _ _ ⟨hit, hl⟩ fun h' tk hk' => ?_)
    show wpAny _ A.in1 (PySem.ret Value.none) _ _ _
    exact wpAny_pure (hR h' tk (fun b o _ hb e => hk' b o (by simpa using hb) e) (hS.keeps fun o e => hk' S o (by simpa using hSI) e))
  | succ k ih =>
    intro i s hk hi' hit hl hS hR
    have hlt : i < items.size := by omega
    refine codeAny_builtin F.entry_set_update_loop ?_
    rw [Around.under_plainId F.plain_set_update_loop _]
    show wpAny _ A.in1 (pyNext (.ref I) >>= _) _ _ s
    refine wpAny_bind (W.item i s _ _ hlt ⟨hit, hl⟩ fun v h' tk hP hst' hk' => ?_)
    obtain ⟨t, rfl⟩ := IntsAre.int_at hi i v (by rw [Array.getElem?_toList]; exact hP)
    have hS' := hS.keeps (h' := h') fun o e => hk' S o (by simpa using hSI) e
    show wpAny _ A.in1 (holding [Value.int (ns.getD i 0) t] (setAdd S (.int (ns.getD i 0) t)) >>= _) _ _ _
    refine wpAny_bind (wpAny_holding ?_)
    unfold setAdd
    refine wpAny_holding ?_
    refine wpAny_bind ((intKind pw w).pyHash (k := ns.getD i 0) (intKind_is _ _ _ _) ?_)
    have hroom : (firstMet (fun i => ns.getD i 0) i).length + 1 < scanBound := by have := firstMet_length_le (fun i => ns.getD i 0) i; omega
    have hlen : items.size = ns.length := by rw [← Array.length_toList]; exact IntsAre.length hi
    refine lset_add (w := w) (k := ns.getD i 0) (s := { s with heap := h', toks := tk + 1 }) hS' hroom (fun hk => hgd i (by omega) hk) fun b h2 hsb hS2 => ?_
    have hSi := hS2.congr (S' := fun k' => (firstMet (fun i => ns.getD i 0) (i + 1)).any (· == k')) (n' := (firstMet (fun i => ns.getD i 0) (i + 1)).length) (t' := tabL (ledP w) (fmet ns (i + 1))) (fun k' => by rw [firstMet_succ, step_any]) (by rw [firstMet_succ, step_length]) (by rw [show fmet ns (i + 1) = step_dedup (fmet ns i) (ns.getD i 0) from firstMet_succ _ _, tabL_step]; rfl)
    refine wpAny_pure ⟨plainId_quiet F.plain_set_update_loop _, ih (i + 1) { s with heap := h2, toks := tk + 1 } (by omega) hlt ?_ ?_ hSi fun h3 tk3 hk3 hS3 => ?_⟩
    · exact hst'.1.at fun o e => (hsb.2 I (fun q => hSI q.symm)).trans e
    · exact hst'.2.at fun o e => (hsb.2 l (fun q => hSl q.symm)).trans e
    · exact hR h3 tk3 (fun b o hb hb' e => hk3 b o hb hb' ((hsb.2 b hb).trans (hk' b o (by simpa using hb') e))) hS3
theorem lset_call {l : Addr} {items : Array Value} {ns : List Int} {Q : Value → Shared → Prop} (hh : A.handled = none) (hl : s.heap.IsList l items) (hi : IntsAre items.toList ns) (hb : items.size + 1 < scanBound) (hgd : setGood (ledP w) ns)
    (h : ∀ h' tk, LSet w h' s.heap.objs.size (fun k' => (fmet ns items.size).any (· == k')) (fmet ns items.size).length (tabL (ledP w) (fmet ns items.size)) → (∀ b o, s.heap.get? b = some o → h'.get? b = some o) → Q (.ref s.heap.objs.size) { s with heap := h', toks := tk }) :
    wpAny (model pw w) A (call (.type "set") [.ref l]) Q E s := by
  obtain ⟨c, tl, hmro⟩ := F.called_set.mro
  have hmade := F.called_set.made
  have hsub := F.called_set.sub
  refine wpAny_call (codeAny_of_tree ?_)
  show wpAny _ _ (callAny (.type "set") _) _ _ _
  refine wpAny_pure ⟨Code.quiet_builtin _ (by decide +kernel), codeAny_builtin F.entry_type_call ?_⟩
  rw [Around.under_plain (weight_type_call_type "set" [.ref l] []) rfl]
  have h1 := F.called_set.notType
  have h2 := F.called_set.canCreate
  have hct := F.typeCall_set_1 (.ref l)
  repeat (any_goals (first | assumption | wp_step))
  refine codeAny_mono (lset_new (.ref l) (E := E) (Q₁ := fun obj s₁ => obj = .ref s.heap.objs.size ∧ s₁ = { s with heap := s.heap.push (set0 w) }) ⟨rfl, rfl⟩) fun r s₁ hr => ?_
  cases r with
  | error e => exact hr
  | ok fl =>
    cases fl with
    | ret obj =>
      obtain ⟨rfl, rfl⟩ := hr
      have hS : (s.heap.push (set0 w)).get? s.heap.objs.size = some (set0 w) := Heap.get?_push_size _ rfl
      have hT : Shared.TypeIs { s with heap := s.heap.push (set0 w) } (.ref s.heap.objs.size) "set" := ⟨_, hS, rfl⟩
      have hli := F.called_set.init.lookup
      have hbi := F.called_set.init.bind (.ref s.heap.objs.size)
      repeat (any_goals (first | assumption | wp_step))
      refine codeAny_mono (codeAny_call_builtin (R := wants (fun r s₂ => r = .none ∧ ∃ h' tk, s₂ = { s with heap := h', toks := tk } ∧
          LSet w h' s.heap.objs.size (fun k' => (fmet ns items.size).any (· == k')) (fmet ns items.size).length (tabL (ledP w) (fmet ns items.size)) ∧ (∀ b o, s.heap.get? b = some o → h'.get? b = some o)) E) F.called_set.init.plain F.entry_set_init (check_set_init_1 hT ?_)) fun r₂ s₂ hr₂ => ?_
      · obtain ⟨ol, hol, hcl, nl, hdl⟩ := hl
        obtain ⟨ocls, odict, odata, oslots⟩ := ol
        simp only at hcl hdl
        subst hcl; subst hdl
        have hol' : (s.heap.push (set0 w)).get? l = some { cls := .type "list", dict := odict, data := .seq items nl, slots := oslots } := Heap.get?_push_of_some _ hol
        have hsls := F.sub_list_set
        have hslf := F.sub_list_frozenset
        have hne : (Value.type "list" == Value.type "dict") = false := by decide
        have hl1 : (s.heap.push (set0 w)).IsList l items := ⟨_, hol', rfl, nl, rfl⟩
        unfold Builtin.«set.__init__» noKeywords Builtin.Frozenset.updateFrom
        generalize hPI : pyIter = PI
        wp_walk
        subst hPI
        refine wpAny_pyIter_list hl1 ?_
        refine wpAny_bind (wpAny_runValue ?_)
        have hlS : l < s.heap.objs.size := Heap.lt_size hol
        have hneI : l ≠ (s.heap.push (set0 w)).objs.size := by rw [Heap.size_push]; exact Nat.ne_of_lt (Nat.lt_succ_of_lt hlS)
        have hSI : s.heap.objs.size ≠ (s.heap.push (set0 w)).objs.size := by rw [Heap.size_push]; exact Nat.ne_of_lt (Nat.lt_succ_self _)
        refine lset_loop (A := A.in1.in1) hh hneI hSI (Nat.ne_of_gt hlS) hi hb hgd (items.size - 0) 0 _ (by omega) (Nat.zero_le _) ⟨_, Heap.get?_push_size _ rfl, rfl, rfl⟩ (hl1.push _) ?_ ?_
        · exact (lset0 _ _ (Heap.get?_push_of_some _ hS)).congr (fun _ => rfl) rfl rfl
        · intro h' tk hk hS'
          show wpAny _ _ _ _ _ _
          refine wpAny_pure ?_
          show wpAny _ _ (PySem.ret Value.none) _ _ _
          refine wpAny_pure ⟨rfl, h', _, rfl, hS', fun b o e => ?_⟩
          have hb0 : b < s.heap.objs.size := Heap.lt_size e
          exact hk b o (Nat.ne_of_lt hb0) (fun q => by rw [q, Heap.size_push] at hb0; exact absurd hb0 (Nat.not_lt_of_gt (Nat.lt_succ_self _))) (Heap.get?_push_of_some _ (Heap.get?_push_of_some _ e))
      · cases r₂ with
        | error e => exact hr₂
        | ok fl₂ =>
          cases fl₂ with
          | ret r =>
            obtain ⟨rfl, h', tk, rfl, hS', hk'⟩ := hr₂
            repeat (any_goals (first | assumption | wp_step))
            exact h _ _ hS' hk'
          | next => exact hr₂
          | brk => exact hr₂
          | cont => exact hr₂
    | next => exact hr
    | brk => exact hr
    | cont => exact hr
end
end Mine
end
section
open PySem PySem.W PySem.Calls PyProof.Rows PySem.Spec
set_option maxRecDepth 100000
set_option maxHeartbeats 1000000
namespace Mine
theorem slot_si_next : Slot "set_iterator" "__next__" "set_iterator.__next__" :=
  .of (owner := "set_iterator") (n := "__next__") (by rw [typeLookup_type, builtinLookup_eq_fast]; kernel_rfl) (by decide +kernel) (by decide +kernel) (by decide +kernel)
    (by first | exact .inl (by decide +kernel) | exact .inr (by decide +kernel)) (by rw [isSubtype_type]; kernel_rfl)
theorem entry_si_next : entryFor table "set_iterator.__next__" = some Builtin.«set_iterator.__next__» := entryFor_of_tree (by kernel_rfl)
theorem args_si_next (a : Value) : argsOk "set_iterator.__next__" ⟨[a], []⟩ := by unfold argsOk; kernel_rfl
noncomputable abbrev siObj (slot i : Nat) (a : Value) (n ep : Nat) : Obj := { cls := .type "set_iterator", data := .fields #[rawInt (slot : Int), rawInt (i : Int), a, rawInt (n : Int), rawInt (ep : Int)] }
noncomputable def siV (w : World) (a : Addr) (es : Array (Int × Value)) (t : SetTable) (slot i ep : Nat) : Option (Value × Nat) :=
  if w.params.followText "set-order" = true then ((pickOrder (w.params.setOrder a ep) es)[i]?).map fun e => (e.2, slot)
  else match es[SetTable.below t.place slot]?, t.place[SetTable.below t.place slot]? with
    | some (_, x), some j => some (x, j + 1)
    | _, _ => none
section
variable {w : World} {A : Around} {E : Value → Shared → Prop} {s : Shared}
theorem wpAny_byText {Q : Bool → Shared → Prop} (h : Q (w.params.followText "set-order") s) : wpAny (model pw w) A setsByText Q E s := by
  unfold setsByText
  exact wpAny_bind (wpAny_askSetting (wpAny_pure h))
theorem wpAny_setNext {a : Addr} {slot i ep : Nat} {es : Array (Int × Value)} {t : SetTable} {o : Obj} {Q : Option (Value × Nat) → Shared → Prop} (ha : s.heap.get? a = some o) (hd : o.data = .set es ep t) (hf : t.fits es.size = true) (hp : t.plain = true) (hl : t.led = ledP w)
    (h : Q (siV w a es t slot i ep) s) : wpAny (model pw w) A (setNext a slot i ep) Q E s := by
  unfold setNext
  refine wpAny_bind (wpAny_setState_of ha hd hf ?_)
  dsimp only
  refine wpAny_bind (wpAny_byText ?_)
  cases hb : w.params.followText "set-order" with
  | true =>
    simp only [if_true]
    rw [if_neg (by simp)]
    unfold setWalk
    refine wpAny_bind (wpAny_bind (wpAny_setState_of ha hd hf ?_))
    refine wpAny_bind (wpAny_byText ?_)
    rw [hb]
    simp only [if_true]
    refine wpAny_bind (wpAny_askSetting (wpAny_pure (wpAny_pure ?_)))
    unfold siV at h
    rw [if_pos hb] at h
    exact h
  | false =>
    simp only [Bool.false_eq_true, if_false]
    unfold siV at h
    rw [if_neg (by rw [hb]; exact Bool.false_ne_true)] at h
    have hled : t.led = true := by rw [hl]; show (!w.params.followText "set-order") = true; rw [hb]; rfl
    split
    · rename_i hc
      exact absurd (show (!t.plain && decide (es.size > 1)) = true from hc) (by rw [hp]; simp)
    · refine wpAny_bind ?_
      show wpAny (model pw w) A (if (!t.led && !es.isEmpty) = true then unsupported "set:maker-not-led" else pure ()) _ _ _
      rw [if_neg (by rw [hled]; simp)]
      exact wpAny_pure (wpAny_pure h)
theorem si_next (hh : A.handled = none) {I a : Addr} {slot i ep : Nat} {es : Array (Int × Value)} {t : SetTable} {o : Obj} {Q : Option Value → Shared → Prop} (hI : s.heap.get? I = some (siObj slot i (.ref a) es.size ep)) (ha : s.heap.get? a = some o) (hd : o.data = .set es ep t) (hf : t.fits es.size = true) (hp : t.plain = true) (hl : t.led = ledP w)
    (some_ : ∀ x nx, siV w a es t slot i ep = some (x, nx) → ∀ h', h'.get? I = some (siObj nx (i + 1) (.ref a) es.size ep) → (∀ b o, b ≠ I → s.heap.get? b = some o → h'.get? b = some o) → Q (some x) { s with heap := h' })
    (none_ : siV w a es t slot i ep = none → ∀ h', (∀ b o, b ≠ I → s.heap.get? b = some o → h'.get? b = some o) → Q none { s with heap := h' }) :
    wpAny (model pw w) A (pyNext (.ref I)) Q E s := by
  unfold pyNext
  refine wpAny_bind (wpAny_attempt (wpAny_callSpecial?_slot (name := Str.ofString "__next__") ⟨_, hI, rfl⟩ slot_si_next
    (wpAny_call_entry slot_si_next ⟨_, hI, rfl⟩ entry_si_next ?_ (args_si_next _))))
  unfold Builtin.«set_iterator.__next__»
  refine wpAny_bind (m := slotArgs _ _ _) (wpAny_of_eq (a := (.ref I, [])) (by rfl) ?_)
  refine wpAny_bind (wpAny_fieldsOf hI rfl ?_)
  show wpAny _ _ (setEntries a >>= _) _ _ s
  refine wpAny_bind (wpAny_setEntries_of ha hd hf ?_)
  show wpAny _ _ (if ((es.size : Int) != (es.size : Int)) = true then _ else _) _ _ s
  rw [if_neg (by simp)]
  show wpAny _ _ (setNext a (Int.toNat (slot : Int)) (Int.toNat (i : Int)) (Int.toNat (ep : Int)) >>= _) _ _ s
  simp only [Int.toNat_natCast]
  refine wpAny_bind (wpAny_setNext ha hd hf hp hl ?_)
  cases hv : siV w a es t slot i ep with
  | some q =>
    obtain ⟨x, nx⟩ := q
    dsimp only
    refine wpAny_bind (wpAny_setField hI rfl (by simp) ?_)
    have g1 := Heap.get?_update_self (h := s.heap) (Obj.mapFields (·.setIfInBounds 0 (rawInt (nx : Int)))) hI rfl
    refine wpAny_bind (wpAny_setField g1 rfl (by simp) ?_)
    have g2 := Heap.get?_update_self (Obj.mapFields (·.setIfInBounds 1 (rawInt ((i : Int) + 1)))) g1 rfl
    show wpAny _ _ (PySem.ret x) _ _ _
    refine wpAny_pure ⟨_, rfl, wpAny_pure (some_ x nx hv _ ?_ fun b o hb e => ?_)⟩
    · exact g2
    · exact (Heap.get?_update_other _ _ (Ne.symm hb)).trans ((Heap.get?_update_other _ _ (Ne.symm hb)).trans e)
  | none =>
    dsimp only
    refine wpAny_bind (wpAny_setField hI rfl (by simp) ?_)
    show wpAny _ _ (newExc (.type "StopIteration") [] >>= _) _ _ _
    refine wpAny_bind ?_
    simp only [newExc, newTuple]
    refine wpAny_bind (wpAny_newObj_type ?_ (by size_fits))
    refine wpAny_bind (m := firstArgMember _ _) (wpAny_of_eq (a := Value.none) (by first | rfl | (simp only [firstArgMember]; rfl)) ?_)
    refine wpAny_newObj_type ?_ (by size_fits)
    simp only [raiseNew]
    refine wpAny_bind (wpAny_handled ?_)
    rw [show A.in1.handled = none from hh]
    refine wpAny_bind (wpAny_pure (wpAny_throw ?_))
    refine wpAny_bind (wpAny_isInstance (T := "StopIteration") (b := true) ⟨_, Heap.get?_push_size _ rfl, rfl⟩ isSubtype_stop ?_)
    refine wpAny_pure (none_ hv _ fun b o hb e => ?_)
    exact Heap.get?_push_of_some _ (Heap.get?_push_of_some _ ((Heap.get?_update_other _ _ (Ne.symm hb)).trans e))
end
end Mine
end
section
open PySem PySem.W PySem.Calls PyProof.Rows PySem.Spec
set_option maxRecDepth 100000
set_option maxHeartbeats 1000000
namespace Mine
theorem erase_perm {α : Type} : ∀ (l : List α) (i : Nat) (h : i < l.length), (l[i] :: l.eraseIdx i).Perm l
  | [], i, h => absurd h (Nat.not_lt_zero _)
  | a :: l, 0, _ => .refl _
  | a :: l, i + 1, h => (List.Perm.swap _ _ _).trans ((erase_perm l i (Nat.lt_of_succ_lt_succ h)).cons a)
theorem pick_go (next : Nat → Nat) {α : Type} : ∀ (fuel k : Nat) (left : List α) (out : Array α), left.length = fuel → (pickOrder.go next fuel k left out).toList.Perm (out.toList ++ left)
  | 0, _, left, out, h => by
    rw [List.length_eq_zero_iff.mp h, List.append_nil]
    exact .refl _
  | fuel + 1, k, left, out, h => by
    have hpos : 0 < left.length := by omega
    have hlt : next k % left.length < left.length := Nat.mod_lt _ hpos
    unfold pickOrder.go
    rw [List.getElem?_eq_getElem hlt]
    dsimp only
    refine (pick_go next fuel (k + 1) _ _ (by rw [List.length_eraseIdx]; rw [if_pos hlt]; omega)).trans ?_
    rw [Array.toList_push, List.append_assoc]
    refine List.Perm.append_left _ ?_
    exact erase_perm _ _ hlt
theorem pick_perm (next : Nat → Nat) {α : Type} (xs : Array α) : (pickOrder next xs).toList.Perm xs.toList := by
  have := pick_go next xs.size 0 xs.toList #[] (by simp)
  unfold pickOrder
  simpa using this
noncomputable def enumT (t : SetTable) (n : Nat) : Bool := (List.range (n + 1)).all (fun i => SetTable.below t.place (if i = 0 then 0 else t.place.getD (i - 1) 0 + 1) == i) && t.place.size == n
noncomputable def xsOf (w : World) (a : Addr) (ep : Nat) (es : Array (Int × Value)) : Array (Int × Value) := if w.params.followText "set-order" = true then pickOrder (w.params.setOrder a ep) es else es
noncomputable def slotAt (w : World) (t : SetTable) (i : Nat) : Nat := if w.params.followText "set-order" = true then 0 else if i = 0 then 0 else t.place.getD (i - 1) 0 + 1
theorem xsOf_perm (w : World) (a : Addr) (ep : Nat) (es : Array (Int × Value)) : (xsOf w a ep es).toList.Perm es.toList := by
  unfold xsOf
  split
  · exact pick_perm _ _
  · exact .refl _
theorem xsOf_size (w : World) (a : Addr) (ep : Nat) (es : Array (Int × Value)) : (xsOf w a ep es).size = es.size := by
  have := (xsOf_perm w a ep es).length_eq
  simpa using this
theorem siV_at {w : World} {a : Addr} {es : Array (Int × Value)} {t : SetTable} {ep i : Nat} (hE : enumT t es.size = true) (hi : i ≤ es.size) :
    siV w a es t (slotAt w t i) i ep = ((xsOf w a ep es)[i]?).map fun e => (e.2, slotAt w t (i + 1)) := by
  unfold siV xsOf slotAt
  by_cases hb : w.params.followText "set-order" = true
  · simp only [if_pos hb]
  · simp only [if_neg hb]
    unfold enumT at hE
    rw [Bool.and_eq_true] at hE
    have h1 := List.all_eq_true.mp hE.1 i (List.mem_range.mpr (by omega))
    have h2 : t.place.size = es.size := by simpa using hE.2
    have h1' : SetTable.below t.place (if i = 0 then 0 else t.place.getD (i - 1) 0 + 1) = i := by simpa using h1
    rw [h1']
    by_cases hlt : i < es.size
    · rw [Array.getElem?_eq_getElem hlt, Array.getElem?_eq_getElem (by omega : i < t.place.size)]
      simp only [Option.map_some, Nat.add_one_ne_zero, if_false, Nat.add_sub_cancel]
      congr 2
      simp [Array.getD, (by omega : i < t.place.size)]
    · rw [Array.getElem?_eq_none (by omega : es.size ≤ i)]
      rfl
theorem slot_si_iter : Slot "set_iterator" "__iter__" "set_iterator.__iter__" :=
  .of (owner := "set_iterator") (n := "__iter__") (by rw [typeLookup_type, builtinLookup_eq_fast]; kernel_rfl) (by decide +kernel) (by decide +kernel) (by decide +kernel)
    (by first | exact .inl (by decide +kernel) | exact .inr (by decide +kernel)) (by rw [isSubtype_type]; kernel_rfl)
theorem entry_si_iter : entryFor table "set_iterator.__iter__" = some Builtin.«dict_keyiterator.__iter__» :=
  entryFor_alias (id' := "dict_keyiterator.__iter__") (by kernel_rfl) rfl (by decide +kernel) (by kernel_rfl)
theorem args_si_iter (a : Value) : argsOk "set_iterator.__iter__" ⟨[a], []⟩ := by unfold argsOk; kernel_rfl
theorem entry_set_iter : entryFor table "set.__iter__" = some Builtin.«frozenset.__iter__» :=
  entryFor_alias (id' := "frozenset.__iter__") (by kernel_rfl) rfl (by decide +kernel) (by kernel_rfl)
section
variable {w : World} {A : Around} {E : Value → Shared → Prop} {s : Shared}
theorem set_walks (hh : A.handled = none) {I a : Addr} (hIa : a ≠ I) {ep : Nat} {es : Array (Int × Value)} {t : SetTable} {o : Obj} (hd : o.data = .set es ep t) (hf : t.fits es.size = true) (hp : t.plain = true) (hl : t.led = ledP w) (hE : enumT t es.size = true) :
    Walks pw w A I [I, a] [I] es.size (fun i v => ((xsOf w a ep es)[i]?).map (·.2) = some v) (fun i h => h.get? I = some (siObj (slotAt w t i) i (.ref a) es.size ep) ∧ h.get? a = some o) where
  sub := fun b hb => by simp at hb; simp [hb]
  frame := fun _ _ _ st hk => ⟨hk I (by simp) _ st.1, hk a (by simp) _ st.2⟩
  item := fun i s Q E hi st hQ => by
    refine si_next hh st.1 st.2 hd hf hp hl (fun x nx hv h' hI' hk => ?_) (fun hv => ?_)
    · rw [siV_at hE (by omega)] at hv
      cases hx : (xsOf w a ep es)[i]? with
      | none => rw [hx] at hv; cases hv
      | some e =>
        rw [hx] at hv
        cases hv
        exact hQ _ h' s.toks (by rw [hx]; rfl) ⟨hI', hk a _ hIa st.2⟩ fun b o hb e => hk b o (by simpa using hb) e
    · rw [siV_at hE (by omega), Array.getElem?_eq_getElem (by rw [xsOf_size]; exact hi)] at hv
      cases hv
  done := fun s Q E st hQ => by
    refine si_next hh st.1 st.2 hd hf hp hl (fun x nx hv => ?_) (fun hv h' hk => ?_)
    · rw [siV_at hE (Nat.le_refl _), Array.getElem?_eq_none (by rw [xsOf_size]; exact Nat.le_refl _)] at hv
      cases hv
    · exact hQ h' s.toks fun b o hb e => hk b o (by simpa using hb) e
  self := fun i s Q E st hQ => by
    have hit : s.TypeIs (.ref I) "set_iterator" := ⟨_, st.1, rfl⟩
    refine wpAny_pyIter_slot hit slot_si_iter (wpAny_call_entry slot_si_iter hit entry_si_iter ?_ (args_si_iter _))
    show wpAny _ _ (PySem.ret (.ref I)) _ _ s
    exact wpAny_pure ⟨_, rfl, "set_iterator", _, hit, slot_si_next.lookup, hQ⟩
theorem set_iter {a : Addr} {ep : Nat} {es : Array (Int × Value)} {t : SetTable} {o : Obj} {Q : Value → Shared → Prop} (ha : s.heap.get? a = some o) (hc : o.cls = .type "set") (hd : o.data = .set es ep t) (hf : t.fits es.size = true) (hp : t.plain = true)
    (h : Q (.ref s.heap.objs.size) { s with heap := s.heap.push (siObj 0 0 (.ref a) es.size ep) }) : wpAny (model pw w) A (pyIter (.ref a)) Q E s := by
  have hit : s.TypeIs (.ref a) "set" := ⟨o, ha, hc⟩
  refine wpAny_pyIter_slot hit PySem.F.slot_set_iter (wpAny_call_entry PySem.F.slot_set_iter hit entry_set_iter ?_ (PySem.F.args_set_iter_1 _))
  unfold Builtin.«frozenset.__iter__»
  refine wpAny_bind (m := Builtin.Frozenset.slot0 _ _) (wpAny_of_eq (a := a) (by rfl) ?_)
  refine wpAny_bind (wpAny_bind (wpAny_setEntries_of ha hd hf (wpAny_pure ?_)))
  refine wpAny_bind (m := setDrawn a) ?_
  unfold setDrawn
  refine wpAny_bind (wpAny_setState_of ha hd hf ?_)
  dsimp only
  refine wpAny_bind (wpAny_byText (wpAny_pure ?_))
  split
  · rename_i hc
    exact absurd (show (!w.params.followText "set-order" && (!t.plain && decide (es.size > 1))) = true from hc) (by rw [hp]; simp)
  refine wpAny_bind (wpAny_pure ?_)
  refine wpAny_bind (m := setEpoch a) ?_
  unfold setEpoch
  refine wpAny_bind (wpAny_setState_of ha hd hf (wpAny_pure ?_))
  unfold newFields
  refine wpAny_bind (wpAny_newObj_type ?_ (by size_fits))
  refine wpAny_pure ⟨_, rfl, "set_iterator", _, ⟨_, Heap.get?_push_size _ rfl, rfl⟩, slot_si_next.lookup, ?_⟩
  exact h
end
end Mine
end
section
open PySem PySem.W PySem.Calls PyProof.Rows PySem.Spec
set_option maxRecDepth 100000
set_option maxHeartbeats 1000000
namespace Mine
theorem wp_if {M : Model} {A : Around} {α : Type} {c : Prop} [Decidable c] {t e : Sem α} {Q : α → Shared → Prop} {E : Value → Shared → Prop} {s : Shared} (hc : c) (h : wpAny M A t Q E s) : wpAny M A (if c then t else e) Q E s := by
  rw [if_pos hc]; exact h
section
variable {w : World} {A : Around} {E : Value → Shared → Prop} {s : Shared}
theorem len_hint_set {a : Addr} {Q : Bool → Shared → Prop} (hT : s.TypeIs (.ref a) "set") (h : Q false s) : wpAny (model pw w) A (Builtin.List.listLengthHint (.ref a)) Q E s := by
  unfold Builtin.List.listLengthHint
  refine wpAny_bind (wpAny_specialOf (T := "set") hT PySem.F.slot_set_len.lookup ?_)
  have hsp : splitId "set.__len__" = some ("set", "__len__") := by kernel_rfl
  dsimp only
  rw [hsp]
  dsimp only
  refine wpAny_bind (wpAny_isInstance hT sub_set_self ?_)
  rw [if_neg (by decide : ¬ ((!true) = true))]
  refine wp_if (by decide +kernel) ?_
  refine wpAny_bind (wpAny_typeOf hT ?_)
  exact wpAny_pure h
theorem collect_set (hh : A.handled = none) {a : Addr} {ep : Nat} {es : Array (Int × Value)} {t : SetTable} {o : Obj} {Q : List Value → Shared → Prop} (ha : s.heap.get? a = some o) (hc : o.cls = .type "set") (hd : o.data = .set es ep t) (hf : t.fits es.size = true) (hp : t.plain = true) (hl : t.led = ledP w) (hE : enumT t es.size = true) (hn : es.size ≤ 1000)
    (hQ : ∀ h' tk acc, (∀ b o, s.heap.get? b = some o → h'.get? b = some o) → ItemsOf (fun i v => ((xsOf w a ep es)[i]?).map (·.2) = some v) acc es.size → Q acc.toList { s with heap := h', toks := tk }) :
    wpAny (model pw w) A (collect (.ref a)) Q E s := by
  have haS : a < s.heap.objs.size := Heap.lt_size ha
  unfold collect
  refine wpAny_bind (wpAny_runValue (codeAny_builtin PySem.F.entry_proto_collect ?_))
  rw [Around.under_plainId PySem.F.plain_proto_collect _]
  show wpAny _ A.in1 (newList [] >>= fun l => again (.builtin "list.__iadd__" ⟨[l, .ref a], []⟩)) _ _ s
  refine wpAny_bind (wpAny_newObj_type ?_)
  refine wpAny_pure ⟨plainId_quiet PySem.F.plain_list_iadd _, codeAny_builtin PySem.F.entry_list_iadd ?_⟩
  rw [Around.under_plainId PySem.F.plain_list_iadd _]
  have ha1 : (s.heap.push { cls := .type "list", data := .seq ([] : List Value).toArray }).get? a = some o := Heap.get?_push_of_some _ ha
  have hT : Shared.TypeIs { s with heap := s.heap.push { cls := .type "list", data := .seq ([] : List Value).toArray } } (.ref a) "set" := ⟨o, ha1, hc⟩
  show wpAny _ A.in1 (Builtin.List.listExtendWith (.ref s.heap.objs.size) (.ref a) (.ref s.heap.objs.size)) _ _ _
  unfold Builtin.List.listExtendWith
  refine wpAny_bind (wpAny_typeOf hT ?_)
  have h1 : Builtin.List.listSameRef (.ref s.heap.objs.size) (.ref a) = false := by
    show (s.heap.objs.size == a) = false
    exact beq_eq_false_iff_ne.mpr (Nat.ne_of_gt haS)
  have h2 : (Value.type "set" == Value.type "list") = false := by decide
  have h3 : (Value.type "set" == Value.type "tuple") = false := by decide
  simp only [h1, h2, h3, Bool.or_false, Bool.false_eq_true, if_false]
  refine wpAny_bind (set_iter ha1 hc hd hf hp ?_)
  generalize hS1 : (s.heap.push { cls := .type "list", data := .seq ([] : List Value).toArray } : Heap) = H1 at *
  have hsz1 : H1.objs.size = s.heap.objs.size + 1 := by rw [← hS1, Heap.size_push]
  have hSl : H1.get? s.heap.objs.size = some { cls := .type "list", data := .seq ([] : List Value).toArray } := by rw [← hS1]; exact Heap.get?_push_size _ rfl
  refine wpAny_bind (wpAny_holding (len_hint_set ⟨o, Heap.get?_push_of_some _ ha1, hc⟩ ?_))
  show wpAny _ A.in1 (rule "list.extend.makes-room" >>= fun _ => Builtin.List.listTouch (.ref s.heap.objs.size) >>= fun _ =>
    again (.builtin "list.extend.loop" ⟨[.ref s.heap.objs.size, .ref H1.objs.size, .ref s.heap.objs.size], []⟩)) _ _ _
  refine wpAny_bind (wpAny_rule ?_)
  have hS₁ := Heap.get?_push_of_some (siObj 0 0 (.ref a) es.size ep) hSl
  refine wpAny_bind ?_
  show wpAny _ A.in1 (updateSeq s.heap.objs.size (·.push .none) >>= fun _ => updateSeq s.heap.objs.size (·.pop)) _ _ _
  refine wpAny_bind (wpAny_updateSeq hS₁ rfl ?_)
  have hS₂ := Heap.get?_update_self (Obj.mapSeq (·.push Value.none)) hS₁ rfl
  refine wpAny_updateSeq hS₂ rfl ?_
  have hS₃ := Heap.get?_update_self (Obj.mapSeq (·.pop)) hS₂ rfl
  have oth : ∀ b o, b ≠ s.heap.objs.size → (H1.push (siObj 0 0 (.ref a) es.size ep)).get? b = some o →
      (((H1.push (siObj 0 0 (.ref a) es.size ep)).update s.heap.objs.size (Obj.mapSeq (·.push Value.none))).update s.heap.objs.size (Obj.mapSeq (·.pop))).get? b = some o :=
    fun b o hb e => (Heap.get?_update_other _ _ (Ne.symm hb)).trans ((Heap.get?_update_other _ _ (Ne.symm hb)).trans e)
  have hIS : H1.objs.size ≠ s.heap.objs.size := by rw [hsz1]; exact Nat.succ_ne_self _
  have haI : a ≠ H1.objs.size := by rw [hsz1]; exact Nat.ne_of_lt (Nat.lt_succ_of_lt haS)
  have W := set_walks (A := A.in1) hh haI hd hf hp hl hE
  have hs0 : slotAt w t 0 = 0 := by unfold slotAt; split <;> rfl
  refine wpAny_pure ⟨plainId_quiet PySem.F.plain_extend_loop _, codeAny_extend_loopS W.toS (by rw [sizeLine_eq]; omega) _ ?_ _ es.size 0 _ _ _ rfl (Nat.zero_le _) ?_ hS₃ (ItemsOf.nil _) fun s' acc' c' hm hS' hacc => ?_⟩
  · simp only [List.mem_cons, List.not_mem_nil, or_false, not_or]
    exact ⟨hIS.symm, Nat.ne_of_gt haS⟩
  · refine ⟨oth _ _ hIS ?_, oth _ _ (Nat.ne_of_lt haS) (Heap.get?_push_of_some _ ha1)⟩
    rw [hs0]
    exact Heap.get?_push_size _ rfl
  show wpAny _ A (load s.heap.objs.size >>= _) _ _ s'
  refine wpAny_bind (wpAny_load hS' ?_)
  obtain ⟨h', g', d', tk', os'⟩ := s'
  have eg : g' = s.gens := hm.gens
  have ed : d' = s.drawn := hm.drawn
  have eo : os' = s.os := hm.os
  subst eg; subst ed; subst eo
  refine wpAny_pure (hQ h' tk' acc' (fun b o e => ?_) hacc)
  have hb0 : b < s.heap.objs.size := Heap.lt_size e
  refine hm.heap b o ?_ (oth b o (Nat.ne_of_lt hb0) (Heap.get?_push_of_some _ (by rw [← hS1]; exact Heap.get?_push_of_some _ e)))
  simp only [List.mem_cons, List.not_mem_nil, or_false, not_or]
  exact ⟨Nat.ne_of_lt hb0, by rw [hsz1]; exact Nat.ne_of_lt (Nat.lt_succ_of_lt hb0)⟩
end
end Mine
end
section
open PySem PySem.W PySem.Calls PyProof.Rows PySem.Spec
set_option maxRecDepth 100000
set_option maxHeartbeats 1000000
namespace Mine
theorem ints_of (w : World) : ∀ l : List (Int × Value), ElemsOf (intKind pw w) l → ∃ ns, IntsAre (l.map (·.2)) ns ∧ ∀ k, k ∈ ns ↔ ∃ e ∈ l, (intKind pw w).is k e.2 = true
  | [], _ => ⟨[], .nil, fun k => by simp⟩
  | e :: l, h => by
    obtain ⟨ns, h1, h2⟩ := ints_of w l (fun x hx => h x (.tail _ hx))
    obtain ⟨⟨n, hn, _⟩, _⟩ := h e (.head _)
    obtain ⟨t, ht⟩ := Value.isInt_shape hn
    refine ⟨n :: ns, ?_, fun k => ?_⟩
    · rw [List.map_cons, ht]
      exact .cons n t h1
    · rw [List.mem_cons, h2 k]
      constructor
      · rintro (rfl | ⟨e', he', hk⟩)
        · exact ⟨e, .head _, hn⟩
        · exact ⟨e', .tail _ he', hk⟩
      · rintro ⟨e', he', hk⟩
        rcases List.mem_cons.mp he' with rfl | he'
        · exact .inl ((intKind pw w).inj _ _ _ hk hn)
        · exact .inr ⟨e', he', hk⟩
section
variable {w : World} {A : Around} {E : Value → Shared → Prop} {s : Shared}
theorem sorted_set (hh : A.handled = none) {a : Addr} {S : Int → Bool} {n : Nat} {t : SetTable} {Q : Value → Shared → Prop} (hS : LSet w s.heap a S n t) (hp : t.plain = true) (hl : t.led = ledP w) (hE : enumT t n = true) (hn : n < 64)
    (hQ : ∀ h' tk D vs e ns, (∀ b o, s.heap.get? b = some o → h'.get? b = some o) → s.heap.get? D = none → h'.get? D = some (listOf vs.toArray e) → IntsAre vs ns → ns.Pairwise (· ≤ ·) → ns.length = n → (∀ k, k ∈ ns ↔ S k = true) → Q (.ref D) { s with heap := h', toks := tk }) :
    wpAny (model pw w) A (call (.builtin "sorted") [.ref a]) Q E s := by
  obtain ⟨o, es, ep, ha, hex, hd, hel, hmem, hb, hf, hsz⟩ := hS
  subst hsz
  refine Calls.call_function_entry kind_sorted plain_sorted entry_sorted (args_sorted1 _) ?_
  unfold Builtin.«sorted»
  refine wpAny_bind (m := checkCount "sorted" 1 1 _) (wpAny_pure ?_)
  refine wpAny_bind (collect_set (A := A.in1) hh ha hex.1 hd hf hp hl hE (by omega) fun h' tk acc hk hacc => ?_)
  refine wpAny_bind (wpAny_newList ?_ (by rw [Array.length_toList, hacc.1, sizeLine_eq]; omega))
  have hperm := xsOf_perm w a ep es
  have hxs := xsOf_size w a ep es
  have hvals : acc.toList = (xsOf w a ep es).toList.map (·.2) := by
    apply List.ext_getElem?
    intro j
    by_cases hj : j < acc.size
    · have := hacc.2 j acc[j] (Array.getElem?_eq_getElem hj)
      rw [List.getElem?_map, Array.getElem?_toList, Array.getElem?_toList, this, Array.getElem?_eq_getElem hj]
    · rw [Array.getElem?_toList, Array.getElem?_eq_none (by omega), List.getElem?_eq_none (by rw [List.length_map, Array.length_toList, hxs, ← hacc.1]; omega)]
  obtain ⟨ns, hi, hm⟩ := ints_of w (xsOf w a ep es).toList (hel.perm hperm)
  rw [← hvals] at hi
  have hoL : (h'.push (seqObj "list" acc.toList.toArray 0)).get? h'.objs.size = some (seqObj "list" acc.toList.toArray 0) := Heap.get?_push_size _ rfl
  have h64 : acc.toList.length < 64 := by rw [Array.length_toList, hacc.1]; exact hn
  refine wpAny_bind (wpAny_holding (wpAny_call_entry slot_list_sort ⟨_, hoL, rfl⟩ entry_list_sort (list_sort_tree hoL hi h64 fun out ns' a1 a2 a3 => ⟨_, rfl, ?_⟩) (args_list_sort _)))
  obtain ⟨e, he⟩ := sortedHeap_at (n := 0) (out := out) hoL
  have fresh : s.heap.get? h'.objs.size = none := by
    cases q : s.heap.get? h'.objs.size with
    | none => rfl
    | some o => exact absurd (Heap.lt_size (hk _ _ q)) (Nat.lt_irrefl _)
  refine wpAny_pure ⟨_, rfl, hQ _ _ h'.objs.size out.toList e ns' (fun b o eb => ?_) fresh ?_ a1 a3 ?_ fun k => ?_⟩
  · have hbl := Heap.lt_size (hk _ _ eb)
    rw [sortedHeap_old (Nat.ne_of_lt hbl) (by rw [Heap.size_push]; exact Nat.lt_succ_of_lt hbl)]
    exact Heap.get?_push_of_some _ (hk _ _ eb)
  · rw [Array.toArray_toList]; exact he
  · rw [a2.length_eq, ← IntsAre.length hi, Array.length_toList, hacc.1]
  · rw [a2.mem_iff, hm k, hmem k]
    exact ⟨fun ⟨e, he, q⟩ => ⟨e, hperm.mem_iff.mp he, q⟩, fun ⟨e, he, q⟩ => ⟨e, hperm.mem_iff.mpr he, q⟩⟩
end
end Mine
end
section
open PySem PySem.W PySem.Calls PyProof.Rows PySem.Spec
set_option maxRecDepth 100000
set_option maxHeartbeats 1000000
namespace Mine
local macro_rules | `(tactic| walk_at "call ref") => `(tactic| (k_here; with_reducible refine Mine.hCall ?_))
local macro_rules | `(tactic| walk_at "binaryOp Add str str") => `(tactic| (k_here; (with_reducible show wpAny _ _ (binaryOp Operator.Add (Value.str _ _) (Value.str _ _)) _ _ _); refine Halt.of ?_))
theorem strOk_ascii {x : Str} (h : x.cps.all (· < 128) = true) : PyData.strOk x = true := by
  unfold PyData.strOk
  refine Array.all_eq_true'.mpr fun c hc => decide_eq_true ?_
  have := of_decide_eq_true (Array.all_eq_true'.mp h c hc)
  omega
noncomputable def rep (a : Int) : Str := Txt.mul (Str.ofString "(") a
noncomputable def txtOk (x : Str) : Bool := x.cps.all (fun c => decide (c < 128) && c != 92 && c != 34) && decide (x.cps.size < 900)
theorem txtOk.facts {x : Str} (h : txtOk x = true) : x.cps.all (· < 128) = true ∧ (∀ c ∈ x.cps.toList, c ≠ 92) ∧ 34 ∉ x.cps.toList ∧ x.cps.size < 900 := by
  unfold txtOk at h
  rw [Bool.and_eq_true] at h
  obtain ⟨h1, h2⟩ := h
  have h3 : ∀ c ∈ x.cps.toList, c < 128 ∧ c ≠ 92 ∧ c ≠ 34 := fun c hc => by
    have := Array.all_eq_true'.mp h1 c (Array.mem_toList_iff.mp hc)
    simp only [Bool.and_eq_true, decide_eq_true_eq, bne_iff_ne] at this
    exact ⟨this.1.1, this.1.2, this.2⟩
  refine ⟨Array.all_eq_true'.mpr fun c hc => decide_eq_true (h3 c (Array.mem_toList_iff.mpr hc)).1, fun c hc => (h3 c hc).2.1, fun hc => (h3 34 hc).2.2 rfl, of_decide_eq_true h2⟩
theorem news_fresh {g h h' : Heap} {L D : Addr} {m : Str → Option Value} {o : Obj} {news : List (Addr × Obj)} (F : Fr g L h m) (N : News g L h news) (hk : ∀ b o, h.get? b = some o → h'.get? b = some o) (hD : h.get? D = none) (ho : h'.get? D = some o) : News g L h' ((D, o) :: news) := by
  intro p hp
  rcases List.mem_cons.mp hp with rfl | hp
  · refine ⟨ho, fun q => ?_, ?_⟩
    · have q' : D = L := q
      obtain ⟨_, _, _, hL, _⟩ := F.ns
      rw [q', hL] at hD; cases hD
    · cases q : g.get? D with
      | none => rfl
      | some o' => have := F.keep _ _ q; rw [hD] at this; cases this
  · exact ⟨hk _ _ (N p hp).1, (N p hp).2⟩
theorem ne_fresh {h : Heap} {g : Heap} {L D : Addr} {news : List (Addr × Obj)} (N : News g L h news) (hD : h.get? D = none) {p : Addr × Obj} (hp : p ∈ news) : @Ne Nat D p.1 := fun q => by
  have q' : D = p.1 := q
  rw [q', (N p hp).1] at hD; cases hD
theorem eqv3 (a b c : Str) : PyData.eqv (.list [.str a, .str b, .str c]) (.list [.str a, .str b, .str c]) = true := by simp [PyData.eqv, PyData.eqvAll]
theorem shaped3 {a b c : Str} (h1 : PyData.strOk a = true) (h2 : PyData.strOk b = true) (h3 : PyData.strOk c = true) : SeqAt.shaped (.list [.str a, .str b, .str c]) = true := by
  simp [SeqAt.shaped, PyData.canLay0, PyData.canLayAll0, PyData.depth, PyData.depthAll, h1, h2, h3]
theorem reads3 {h : Heap} {D : Addr} {a b c : Str} {t u v : Tok} {n : Nat} (e : h.get? D = some (listOf #[.str a t, .str b u, .str c v] n)) : Reads h (.ref D) (.list [.str a, .str b, .str c]) [D] :=
  reads_newData (ys := [.str a t, .str b u, .str c v]) ⟨_, e, rfl, _, rfl⟩ (.cons (.str a t) (.cons (.str b u) (.cons (.str c v) .nil)))
noncomputable abbrev thE (L : Addr) : Env := envOf (Str.ofString "_law_three") (fp 71).2.2 L 192 (.ref 191)
noncomputable abbrev m3T (T D2 D G : Addr) (X : Str) (tX : Tok) : Str → Option Value := fun y =>
  if y = Str.ofString "told" then some (.ref T) else if y = Str.ofString "text" then some (.str X tX) else if y = Str.ofString "kinds" then some (.ref D2) else if y = Str.ofString "sizes" then some (.ref D) else if y = Str.ofString "gaps" then some (.ref G) else none
section
variable {w : World} {mg mb : Str → Option Value} {hb g : Heap} {A : Around} {s : Shared} {Q : Flow → Shared → Prop} {L : Addr}
theorem three_tail2 (B : Base w mg mb hb) (hbg : Sub hb g) (hA : A.depth + 6 < recursionLimit) (hh : A.handled = none) (hU : A.units + 77 < cLine) (X0 : (KF w.params).In g) (T : Top vq looseF (ExcName.means hb) mg mb g) {T8 D2 D G : Addr} {X : Str} {tX : Tok} {K1 K2 K3 : Str} {t1 t2 t3 u1 u2 u3 : Tok} {n2 : Nat}
    (F : Fr g L s.heap (m3T T8 D2 D G X tX)) (N : News g L s.heap [(T8, listOf #[.str K1 u1, .str K2 u2, .str K3 u3] 0), (D2, listOf #[.str K1 t1, .str K2 t2, .str K3 t3] n2)])
    (q1 : @Ne Nat T8 D2) (k1 : K1.length ≤ 12) (k2 : K2.length ≤ 12) (k3 : K3.length ≤ 12) (so1 : PyData.strOk K1 = true) (so2 : PyData.strOk K2 = true) (so3 : PyData.strOk K3 = true) {C : Str} (hC : Txt.replace (K2 ++ K3) (Str.ofString "(") (Str.ofString ")") = C)
    (kc : C.length ≤ 60) (ok1 : txtOk (C ++ K1) = true) (ok2 : txtOk (K1 ++ C) = true) (par1 : parB (C ++ K1) = false) (par2 : parB (K1 ++ C) = true)
    (ret : ∀ h tk G, (∀ b o, g.get? b = some o → h.get? b = some o) → (AllBare s.gens → AllBare G) → Q (.ret (.bool true)) { s with heap := h, toks := tk, gens := G }) :
    wpAny (model pw w) A (execs ((fp 71).2.1.drop 8) (thE L)) Q (fun _ _ => False) s := by
  have hb1 : (fp 71).2.1.drop 8 = (fp 71).2.1.drop 8 := rfl
  conv at hb1 => rhs; whnf
  have hb2 : (fp 71).2.2 = (fp 71).2.2 := rfl
  conv at hb2 => rhs; whnf
  unfold thE
  rw [hb1, hb2]
  clear hb1 hb2
  k_steps
  show wpAny _ _ (binaryOp Operator.Add (Value.str K2 u2) (Value.str K3 u3)) _ _ _
  refine wpAny_with_toks (n := 1) (by show 1 ≤ s.toks + 1 + 1; omega) ?_
  refine KXadd.add k2 k3 (by decide) fun t' k hlen hk => ?_
  replace hk : 1 ≤ k := hk
  k_steps
  refine SC.replace (show k ≠ 0 by omega) (show k + 1 ≠ 0 by omega) (show k ≠ k + 1 by omega) (by decide) (by rw [show (Str.ofString ")").length = 1 by decide]; omega) fun t9 k9 => ?_
  rw [hC]
  k_steps
  show wpAny _ _ (binaryOp Operator.Add (Value.str C _) (Value.str K1 _)) _ _ _
  refine KXadd.add kc k1 (by decide) fun t10 k10 hlen10 => ?_
  k_steps
  rename Fr _ _ _ _ => F2
  rename News _ _ _ _ => N2
  obtain ⟨y1, y2, y3, y4⟩ := txtOk.facts ok1
  show wpAny _ _ (call (.ref 77) [.str (C ++ K1) _]) _ _ _
  refine c_paren B ?_ ?_ ?_ _ _ y1 y2 y3 (by omega) ?_
  · exact hbOf hbg F2.keep
  · exact (dlt0 hA rfl : A.depth + 4 < recursionLimit)
  · exact hh
  intro h3 tk3 G3 sub3 ab3
  rw [par1]
  have F3 := F2.keeps sub3
  have N3 := N2.grown sub3
  clear F2 N2
  k_steps
  refine eq_dataH (reads3 (N3 _ (.head _)).1) (reads3 (N3 _ (.tail _ (.head _))).1) (shaped3 so1 so2 so3) (shaped3 so1 so2 so3) (by omega) ?_
  rw [eqv3]
  k_steps
  show wpAny _ _ (binaryOp Operator.Add (Value.str K1 _) (Value.str C _)) _ _ _
  refine KXadd.add k1 kc (by decide) fun t11 k11 hlen11 => ?_
  k_steps
  rename Fr _ _ _ _ => F4
  rename News _ _ _ _ => N4
  obtain ⟨w1, w2, w3, w4⟩ := txtOk.facts ok2
  show wpAny _ _ (call (.ref 77) [.str (K1 ++ C) _]) _ _ _
  refine c_paren B ?_ ?_ ?_ _ _ w1 w2 w3 (by omega) ?_
  · exact hbOf hbg F4.keep
  · exact (dlt0 hA rfl : A.depth + 4 < recursionLimit)
  · exact hh
  intro h5 tk5 G5 sub5 ab5
  rw [par2]
  have F5 := F4.keeps sub5
  have N5 := N4.grown sub5
  clear F4 N4
  k_steps
  exact ret _ _ _ F5.keep fun ab => ab5 (ab3 ab)
end
end Mine
end
section
open PySem PySem.W PySem.Calls PyProof.Rows PySem.Spec
set_option maxRecDepth 100000
set_option maxHeartbeats 1000000
namespace Mine
local macro_rules | `(tactic| walk_at "call ref") => `(tactic| (k_here; with_reducible refine Mine.hCall ?_))
section
variable {w : World} {mg mb : Str → Option Value} {hb g : Heap} {A : Around} {s : Shared} {Q : Flow → Shared → Prop} {L : Addr}
theorem three_tail (B : Base w mg mb hb) (hbg : Sub hb g) (hA : A.depth + 6 < recursionLimit) (hh : A.handled = none) (hU : A.units + 77 < cLine) (X0 : (KF w.params).In g) (T : Top vq looseF (ExcName.means hb) mg mb g) {T8 D2 D G : Addr} {X : Str} {tX : Tok} {K1 K2 K3 : Str} {t1 t2 t3 u1 u2 u3 : Tok} {n2 : Nat} {us vs : List Value} {n5 n : Nat}
    (F : Fr g L s.heap (m3T T8 D2 D G X tX)) (N : News g L s.heap [(T8, listOf (strValues [(K1, u1), (K2, u2), (K3, u3)]).toArray 0), (D2, listOf (strValues [(K1, t1), (K2, t2), (K3, t3)]).toArray n2), (D, listOf us.toArray n5), (G, listOf vs.toArray n)])
    (q1 : @Ne Nat T8 D2) (q2 : @Ne Nat T8 D) (q3 : @Ne Nat T8 G) (q4 : @Ne Nat D2 D) (q5 : @Ne Nat D2 G) (q6 : @Ne Nat D G)
    (k1 : K1.length ≤ 12) (k2 : K2.length ≤ 12) (k3 : K3.length ≤ 12) (so1 : PyData.strOk K1 = true) (so2 : PyData.strOk K2 = true) (so3 : PyData.strOk K3 = true) (so4 : PyData.strOk (K3 ++ tick ++ K1) = true) {C : Str} (hC : Txt.replace (K2 ++ K3) (Str.ofString "(") (Str.ofString ")") = C)
    (kc : C.length ≤ 60) (ok1 : txtOk (C ++ K1) = true) (ok2 : txtOk (K1 ++ C) = true) (par1 : parB (C ++ K1) = false) (par2 : parB (K1 ++ C) = true) (kx : X.length ≤ 60) (ke1 : txtOk (X ++ tick ++ K1) = true) (ke2 : Txt.splitMax (X ++ tick ++ K1) tick 2 = [K1, K2, K3 ++ tick ++ K1])
    (ret : ∀ h tk G, (∀ b o, g.get? b = some o → h.get? b = some o) → (AllBare s.gens → AllBare G) → Q (.ret (.bool true)) { s with heap := h, toks := tk, gens := G }) :
    wpAny (model pw w) A (execs ((fp 71).2.1.drop 6) (thE L)) Q (fun _ _ => False) s := by
  have hb1 : (fp 71).2.1.drop 6 = (fp 71).2.1.drop 6 := rfl
  conv at hb1 => rhs; whnf
  have hb2 : (fp 71).2.2 = (fp 71).2.2 := rfl
  conv at hb2 => rhs; whnf
  unfold thE
  rw [hb1, hb2]
  clear hb1 hb2
  simp only [strValues, List.map_cons, List.map_nil] at N
  k_steps
  rename Fr _ _ _ _ => F2
  rename News _ _ _ _ => N2
  obtain ⟨y1, y2, y3, y4⟩ := txtOk.facts ke1
  have e2 : ¬ (Txt.splitMax (X ++ tick ++ K1) tick 2).length ≤ 2 := by rw [ke2]; simp
  show wpAny _ _ (call (.ref 84) [.str (X ++ tick ++ K1) _]) _ _ _
  refine c_dec B ?_ ?_ ?_ _ _ (by omega) (by rw [ke2]; simp) ?_ ?_
  · exact hbOf hbg F2.keep
  · exact (dlt0 hA rfl : A.depth + 4 < recursionLimit)
  · exact hh
  · exact fun h => absurd h e2
  intro _ h3 tk3 D9 l9 sub3 f3 hl9 e9
  rw [ke2] at hl9
  obtain ⟨v1, v2, v3, rfl⟩ : ∃ v1 v2 v3, l9 = [(K1, v1), (K2, v2), (K3 ++ tick ++ K1, v3)] := by
    match l9, hl9 with
    | [(a, v1), (b, v2), (c, v3)], h =>
      simp only [List.map_cons, List.map_nil, List.cons.injEq, and_true] at h
      obtain ⟨rfl, rfl, rfl⟩ := h
      exact ⟨v1, v2, v3, rfl⟩
  have N3 := news_fresh F2 N2 sub3 f3 e9
  have r1 := ne_fresh N2 f3 (.head _)
  have r2 := ne_fresh N2 f3 (.tail _ (.head _))
  have r3 := ne_fresh N2 f3 (.tail _ (.tail _ (.head _)))
  have r4 := ne_fresh N2 f3 (.tail _ (.tail _ (.tail _ (.head _))))
  have F3 := F2.keeps sub3
  clear F2 N2
  simp only [strValues, List.map_cons, List.map_nil] at N3
  k_steps
  rename Fr _ _ _ _ => F4
  rename News _ _ _ _ => N4
  show wpAny _ _ (compareOp _ _ _) _ _ _
  refine ne_dataH (reads3 (N4 _ (.tail _ (.tail _ (.tail _ (.head _))))).1) (reads3 (N4 _ (.head _)).1) (shaped3 so1 so2 so4) (shaped3 so1 so2 so4) (by omega) ?_
  rw [show (K3 ++ Str.ofString "'" ++ K1) = K3 ++ tick ++ K1 from rfl, eqv3]
  simp only [Bool.not_true]
  iterate 3 walk1
  show wpAny _ _ (execs _ _) _ _ _
  refine three_tail2 B hbg hA hh hU X0 T (T8 := T8) (D2 := D2) (D := D) (G := G) (X := X) (tX := tX) (t1 := t1) (t2 := t2) (t3 := t3) (u1 := u1) (u2 := u2) (u3 := u3) (n2 := n2) ?_ ?_ q1 k1 k2 k3 so1 so2 so3 hC kc ok1 ok2 par1 par2 ?_
  · exact F4
  rotate_left
  · exact fun h tk G hk hab => ret h tk G hk hab
  intro p hp
  refine N4 p ?_
  rcases hp with _ | ⟨_, hp⟩
  · exact .tail _ (.tail _ (.tail _ (.tail _ (.head _))))
  rcases hp with _ | ⟨_, hp⟩
  · exact .tail _ (.tail _ (.tail _ (.tail _ (.tail _ (.head _)))))
  · cases hp
end
end Mine
end
section
open PySem PySem.W PySem.Calls PyProof.Rows PySem.Spec
set_option maxRecDepth 100000
set_option maxHeartbeats 1000000
namespace Mine
local macro_rules | `(tactic| walk_at "call ref") => `(tactic| (k_here; with_reducible refine Mine.hCall ?_))
local macro_rules | `(tactic| walk_at "call type:set") => `(tactic| (k_here; (with_reducible show wpAny _ _ (call (Value.type "set") _) _ _ _); refine Halt.of ?_))
local macro_rules | `(tactic| walk_at "call builtin:sorted") => `(tactic| (k_here; (with_reducible show wpAny _ _ (call (Value.builtin "sorted") _) _ _ _); refine Halt.of ?_))
local macro_rules | `(tactic| walk_at "exec Assign cons ListComp") => `(tactic| (k_here; with_reducible refine Mine.hAsg ?_))
theorem ints_app {vs us : List Value} {ns ms : List Int} (h : IntsAre vs ns) (h' : IntsAre us ms) : IntsAre (vs ++ us) (ns ++ ms) := by
  induction h with
  | nil => exact h'
  | cons n t _ ih => exact .cons n t ih
theorem ints_rev {vs : List Value} {ns : List Int} (h : IntsAre vs ns) : IntsAre vs.reverse ns.reverse := by
  induction h with
  | nil => exact .nil
  | cons n t _ ih =>
    rw [List.reverse_cons, List.reverse_cons]
    exact ints_app ih (.cons n t .nil)
theorem three_of {l : List (Str × Tok)} (h : ¬ (l.map (·.1)).length < 3) (h3 : (l.map (·.1)).length ≤ 3) : ∃ K1 t1 K2 t2 K3 t3, l = [(K1, t1), (K2, t2), (K3, t3)] := by
  match l, h, h3 with
  | [(a, x), (b, y), (c, z)], _, _ => exact ⟨a, x, b, y, c, z, rfl⟩
  | [], h, _ => simp at h
  | [_], h, _ => simp at h
  | [_, _], h, _ => simp at h
  | _ :: _ :: _ :: _ :: _, _, h => simp at h
theorem three_map {l : List (Str × Tok)} {K1 K2 K3 : Str} (h : l.map (·.1) = [K1, K2, K3]) : ∃ v1 v2 v3, l = [(K1, v1), (K2, v2), (K3, v3)] := by
  match l, h with
  | [(a, v1), (b, v2), (c, v3)], h =>
    simp only [List.map_cons, List.map_nil, List.cons.injEq, and_true] at h
    obtain ⟨rfl, rfl, rfl⟩ := h
    exact ⟨v1, v2, v3, rfl⟩
inductive Th3 (X : Str) (K1 K2 K3 : Str) : Prop
  | mk (a1 : Txt.splitMax X tick 2 = [K1, K2, K3]) (a2 : K1.length ≤ 12) (a3 : K2.length ≤ 12) (a4 : K3.length ≤ 12) (a5 : PyData.strOk K1 = true) (a6 : PyData.strOk K2 = true) (a7 : PyData.strOk K3 = true) (a8 : PyData.strOk (K3 ++ tick ++ K1) = true) (a9 : X.length ≤ 60)
    (a10 : txtOk (X ++ tick ++ K1) = true) (a11 : Txt.splitMax (X ++ tick ++ K1) tick 2 = [K1, K2, K3 ++ tick ++ K1]) (C : Str) (a12 : Txt.replace (K2 ++ K3) (Str.ofString "(") (Str.ofString ")") = C) (a13 : C.length ≤ 60) (a14 : txtOk (C ++ K1) = true) (a15 : txtOk (K1 ++ C) = true) (a16 : parB (C ++ K1) = false) (a17 : parB (K1 ++ C) = true) : Th3 X K1 K2 K3
structure ThreeTxt (ks : List Str) : Prop where
  j : JoinOk tick ks = true
  tx : txtOk (Txt.join tick ks) = true
  par : parB (Txt.join tick ks) = false
  sl : (Txt.splitMax (Txt.join tick ks) tick 2).length ≤ 1000
  few : ks.length < 3 → (Txt.splitMax (Txt.join tick ks) tick 2).length ≤ 2
  len : ks.length ≤ 3
  three : ∀ K1 K2 K3, ks = [K1, K2, K3] → Th3 (Txt.join tick ks) K1 K2 K3
section
variable {w : World} {mg mb : Str → Option Value} {hb : Heap} {A : Around} {s : Shared} {Q E : Value → Shared → Prop}
theorem c_three (B : Base w mg mb hb) (hs : Sub hb s.heap) (hA : A.depth + 9 < recursionLimit) (hh : A.handled = none) (hU : A.units + 80 < cLine) {G : Addr} {vs : List Value} {n : Nat} {ns : List Int} (hG : s.heap.get? G = some (listOf vs.toArray n)) (nG : hb.get? G = none) (hi : IntsAre vs ns) (hlen : ns.length ≤ 60) (hgood : setGood (ledP w) ns)
    (hpl : (tabL (ledP w) (fmet ns ns.length)).plain = true) (hled : (tabL (ledP w) (fmet ns ns.length)).led = ledP w) (hen : enumT (tabL (ledP w) (fmet ns ns.length)) (fmet ns ns.length).length = true) {z : List Int}
    (hz : ∀ ms : List Int, ms.Pairwise (· ≤ ·) → ms.length = (fmet ns ns.length).length → (∀ k, k ∈ ms ↔ (fmet ns ns.length).any (· == k) = true) → ms = z.reverse) (hzl : (fmet ns ns.length).length ≤ 12) (hzb : ∀ a ∈ z, 0 ≤ a ∧ a ≤ 12) {ks : List Str} (hks : z.map rep = ks) (TT : ThreeTxt ks)
    (ret : ∀ h' tk' G', (∀ b o, b ≠ G → s.heap.get? b = some o → h'.get? b = some o) → (AllBare s.gens → AllBare G') → Q (.bool true) { s with heap := h', toks := tk', gens := G' }) :
    wpAny (model pw w) A (call (.ref 192) [.ref G]) Q E s := by
  refine enterG B hs [(G, listOf vs.toArray n)] (fun p hp => by rw [List.mem_singleton.mp hp]; exact ⟨hG, nG⟩) (f := 192) (name := "_law_three") (qual := "_law_three") (binds := [("gaps", .ref G)]) (by k_is) (by k_is) (by omega) ?_ ?_ ?_ ?_ ?_ ?_ ?_
  · exact BindsTo.of_eq rfl
  · exact locs rfl
  · intro g L h₁ hg hg' hL F0 N0 X0 T hbg
    have hb1 : (fp 71).2.1 = (fp 71).2.1 := rfl
    conv at hb1 => rhs; whnf
    have hb2 : (fp 71).2.2 = (fp 71).2.2 := rfl
    conv at hb2 => rhs; whnf
    rw [hb1, hb2]
    clear hb1 hb2
    k_steps
    show wpAny _ _ (call (.type "set") [.ref G]) _ _ _
    have hvl : vs.length = ns.length := IntsAre.length hi
    refine lset_call ?_ ⟨_, (N0 _ (.head _)).1, rfl, _, rfl⟩ (items := vs.toArray) (ns := ns) (by simpa using hi) (by simp only [List.size_toArray]; unfold scanBound; omega) hgood ?_
    · exact hh
    intro h2 tk2 hS2 hk2
    have esz : vs.toArray.size = ns.length := by simpa using hvl
    rw [esz] at hS2
    have F2 := F0.keeps hk2
    have N2 := N0.grown hk2
    have hlt : h₁.objs.size < h₁.objs.size + 1 := Nat.lt_succ_self _
    clear F0 N0
    generalize h₁.objs.size = D1 at *
    k_steps
    show wpAny _ _ (call (.builtin "sorted") [.ref D1]) _ _ _
    refine sorted_set ?_ hS2 hpl hled hen (by omega) ?_
    · exact hh
    intro h3 tk3 D vs3 e3 ms hk3 hD3 ho3 hi3 hp3 hl3 hm3
    have hms := hz ms hp3 hl3 hm3
    subst hms
    have N3 := news_fresh F2 N2 hk3 hD3 ho3
    have dG := ne_fresh N2 hD3 (.head _)
    have F3 := F2.keeps hk3
    clear F2 N2
    k_steps
    rename Fr _ _ _ _ => F4
    rename News _ _ _ _ => N4
    have zD := N4 _ (.head _)
    have hz3 : vs3.length = z.length := by rw [IntsAre.length hi3, List.length_reverse]
    have hzz : z.length = (fmet ns ns.length).length := by rw [← hl3, List.length_reverse]
    refine call_meets PySem.F.slot_list_reverse ⟨_, zD.1, rfl⟩ PySem.F.entry_list_reverse (PySem.F.args_list_reverse_1 _) (AutoListH.list_reverse_list_0 D vs3.toArray e3 (by rw [sizeLine_eq]; simp; omega)) ⟨zD.1, ?_⟩
    have hp5 := IsL.update (f := fun x => x.reverse) (show IsL _ D vs3.toArray e3 from zD.1)
    have hk5 : ∀ (f : Obj → Obj) (h : Heap) (b : Addr) (o : Obj), b ≠ D → h.get? b = some o → (h.update D f).get? b = some o := fun f h b o hb e => (Heap.get?_update_other h f (Ne.symm hb)).trans e
    have F5 := fr_upd F4 (hk5 (Obj.mapSeq fun x => x.reverse) _) (Ne.symm zD.2.1) zD.2.2
    have N5 := news_upd N4 (.head fun p hp => by
      rw [List.mem_singleton.mp hp]; exact dG.symm) (hk5 (Obj.mapSeq fun x => x.reverse) _) hp5
    rw [List.reverse_toArray] at N5
    replace N5 : News g L _ [(D, listOf vs3.reverse.toArray _), (G, listOf vs.toArray n)] := N5
    generalize (if (vs3.reverse.toArray.size == vs3.toArray.size) = true then e3 else e3 + 1) = n5 at N5
    have hi5 : IntsAre vs3.reverse z := by have := ints_rev hi3; rwa [List.reverse_reverse] at this
    have hu5 : vs3.reverse.length = z.length := by rw [List.length_reverse]; exact hz3
    generalize vs3.reverse = us at *
    clear F4 N4 zD hp5
    k_steps
    show wpAny _ _ (exec _ _) _ _ _
    refine LCg.Assign_ListComp_U (F₀ := F5) (by rfl) (by with_unfolding_all rfl) (by rfl) (by decide) (by rfl) (by decide) (by rfl) (by rfl) (by rfl) ?_
    walk1
    refine LCg.CompSrc.ledger (its := us.toArray) (k := n5) ?_ F5 N5 (.head _) (by rw [sizeLine_eq]; simp; omega) fun g1 => ?_
    · exact hh
    refine restU (fun i ys => SV ((z.take i).map rep) ys) ⟨[], rfl, rfl⟩ ?_ ?_
    · rintro i ys hi' hsv v I oI C oC D' m₂ h tk E' hv NS hm₂ F1 N1 off d
      have hiu : i < us.length := by simpa using hi'
      have hiz : i < z.length := by omega
      obtain ⟨t, rfl⟩ := IntsAre.int_at hi5 i v (by simpa using hv)
      have hget : z.getD i 0 = z[i] := by rw [List.getD_eq_getElem?_getD, List.getElem?_eq_getElem hiz]; rfl
      have hb1 : 0 ≤ z.getD i 0 ∧ z.getD i 0 ≤ 12 := by rw [hget]; exact hzb _ (List.getElem_mem hiz)
      have htk : (z.take (i + 1)).map rep = (z.take i).map rep ++ [rep (z.getD i 0)] := by
        rw [List.take_succ_eq_append_getElem hiz, List.map_append, hget]; rfl
      generalize z.getD i 0 = a at *
      k_steps
      have oo := off.mem
      refine LCg.CompEnd.intro F1 N1 _ (fun p hp => hp) (LCg.Off3.of fun p hp => oo p hp) (.inr ⟨_, .head _, rfl, _, rfl⟩) ⟨?_, rfl⟩
      rw [htk]
      exact hsv.snoc
    · intro ys hsv D2 h6 tk6 F6 N6 off6
      have hsk : SV ks ys := by
        have e : us.toArray.size = z.length := by simpa using hu5
        rw [e, List.take_of_length_le (Nat.le_refl _), hks] at hsv
        exact hsv
      clear hsv F5 N5
      obtain ⟨l, rfl, hl⟩ := hsk
      subst hl
      have hj := TT.j
      have hTx := TT.tx
      have hpar := TT.par
      have hsl := TT.sl
      have hfew := TT.few
      have hlen3 := TT.len
      have hthree := TT.three
      k_steps
      refine SC.join (l := l) ⟨_, (N6 _ List.mem_cons_self).1, rfl, _, rfl⟩ rfl hj fun t' k => ?_
      generalize Txt.join tick (l.map (·.1)) = X at *
      obtain ⟨x1, x2, x3, x4⟩ := txtOk.facts hTx
      k_steps
      show wpAny _ _ (call (.ref 84) [.str X _]) _ _ _
      rename Fr _ _ _ _ => F7
      rename News _ _ _ _ => N7
      by_cases h3 : (l.map (·.1)).length < 3
      · have hf2 := hfew h3
        refine c_dec B ?_ ?_ ?_ X _ (by omega) hsl ?_ ?_
        · exact hbOf hbg F7.keep
        · exact (dlt1 hA rfl : A.depth + 1 + 4 < recursionLimit)
        · exact hh
        · intro _ h8 tk8 T8 sub8 f8 e8
          have N8 := news_fresh F7 N7 sub8 f8 e8
          have F8 := F7.keeps sub8
          have q1 := ne_fresh N7 f8 (.head _)
          have q2 := ne_fresh N7 f8 (.tail _ (.head _))
          have q3 := ne_fresh N7 f8 (.tail _ (.tail _ (.head _)))
          clear F7 N7
          k_steps
          rename Fr _ _ _ _ => F9
          rename News _ _ _ _ => N9
          show wpAny _ _ (call (.ref 77) [.str X _]) _ _ _
          refine c_paren B ?_ ?_ ?_ X _ x1 x2 x3 (by omega) ?_
          · exact hbOf hbg F9.keep
          · exact (dlt1 hA rfl : A.depth + 1 + 4 < recursionLimit)
          · exact hh
          intro h10 tk10 G10 sub10 ab10
          rw [hpar]
          have F10 := F9.keeps sub10
          have N10 := N9.grown sub10
          clear F9 N9
          k_steps
          have hsl9 : (strValues l).toArray.size = l.length := by simp [strValues]
          have h3' : l.length < 3 := by simpa using h3
          refine call_len_list ⟨_, (N10 (D2, _) (.tail _ (.head _))).1, rfl, _, rfl⟩ (by rw [hsl9]; omega) ?_
          rw [hsl9]
          have h3i : ((l.length : Nat) : Int) < 3 := by omega
          k_steps
          show wpAny _ _ _ _ _ _
          rename Fr _ _ _ _ => F11
          rename News _ _ _ _ => N11
          have z1 := N11 _ (.head _)
          have z2 := N11 _ (.tail _ (.head _))
          have r1 := reads_newDataT (ys := [.none, .none, .str X t']) (ds := [.none, .none, .str X]) ⟨_, z1.1, rfl, _, rfl⟩ (.cons .none (.cons .none (.cons (.str X t') .nil)))
          have r2 := reads_newDataT (ys := [.none, .none, .str X t']) (ds := [.none, .none, .str X]) ⟨_, z2.1, rfl, _, rfl⟩ (.cons .none (.cons .none (.cons (.str X t') .nil)))
          refine eq_dataH r2 r1 (by simp [SeqAt.shaped, PyData.canLay0, PyData.canLayAll0, PyData.depth, PyData.depthAll, strOk_ascii x1]) (by simp [SeqAt.shaped, PyData.canLay0, PyData.canLayAll0, PyData.depth, PyData.depthAll, strOk_ascii x1]) (by simp only [units_deeper]; omega) ?_
          rw [show PyData.eqv (.tuple [.none, .none, .str X]) (.tuple [.none, .none, .str X]) = true by simp [PyData.eqv, PyData.eqvAll]]
          exact ret _ _ _ (fun b o hb e => F11.keep b o (hg b o e (by simpa using hb))) ab10
        · exact fun hno => absurd hf2 hno
      · obtain ⟨K1, t1, K2, t2, K3, t3, rfl⟩ := three_of h3 hlen3
        obtain ⟨th1, th2, th3, th4, th5, th6, th7, th8, th9, th10, th11, C, th12, th13, th14, th15, th16, th17⟩ := hthree K1 K2 K3 rfl
        refine c_dec B ?_ ?_ ?_ X _ (by omega) hsl ?_ ?_
        · exact hbOf hbg F7.keep
        · exact (dlt1 hA rfl : A.depth + 1 + 4 < recursionLimit)
        · exact hh
        · exact fun hno => absurd hno (by rw [th1]; simp)
        intro _ h8 tk8 T8 l8 sub8 f8 hl8 e8
        rw [th1] at hl8
        obtain ⟨v1, v2, v3, rfl⟩ := three_map hl8
        have N8 := news_fresh F7 N7 sub8 f8 e8
        have F8 := F7.keeps sub8
        have q1 := ne_fresh N7 f8 (.head _)
        have q2 := ne_fresh N7 f8 (.tail _ (.head _))
        have q3 := ne_fresh N7 f8 (.tail _ (.tail _ (.head _)))
        have q4 : @Ne Nat D2 D := off6.1.symm
        have q5 : @Ne Nat D2 G := off6.2.1.symm
        clear F7 N7
        k_steps
        rename Fr _ _ _ _ => F9
        rename News _ _ _ _ => N9
        show wpAny _ _ (call (.ref 77) [.str X _]) _ _ _
        refine c_paren B ?_ ?_ ?_ X _ x1 x2 x3 (by omega) ?_
        · exact hbOf hbg F9.keep
        · exact (dlt1 hA rfl : A.depth + 1 + 4 < recursionLimit)
        · exact hh
        intro h10 tk10 G10 sub10 ab10
        rw [hpar]
        have F10 := F9.keeps sub10
        have N10 := N9.grown sub10
        clear F9 N9
        iterate 5 walk1
        show wpAny _ _ (execs _ _) _ _ _
        refine three_tail B hbg ?_ ?_ ?_ X0 T (T8 := T8) (D2 := D2) (D := D) (G := G) (X := X) (tX := t') (t1 := t1) (t2 := t2) (t3 := t3) (u1 := v1) (u2 := v2) (u3 := v3) (us := us) (vs := vs) (n5 := n5) (n := n) (n2 := 3) ?_ ?_ q1 q2 q3 q4 q5 dG th2 th3 th4 th5 th6 th7 th8 th12 th13 th14 th15 th16 th17 th9 th10 th11 ?_
        · exact (dlt1 hA rfl : A.depth + 1 + 6 < recursionLimit)
        · exact hh
        · simp only [units_deeper]; omega
        · have hm : (fun y => if y = Str.ofString "told" then some (Value.ref T8) else if y = Str.ofString "text" then some (Value.str X t') else if y = Str.ofString "kinds" then some (Value.ref D2) else (fun y => if y = Str.ofString "sizes" then some (Value.ref D) else List.lookup y [(Str.ofString "gaps", Value.ref G)].reverse) y) = m3T T8 D2 D G X t' := by
            funext y
            by_cases e5 : y = Str.ofString "gaps"
            · subst e5; rfl
            simp only [m3T, if_neg e5, List.reverse_cons, List.reverse_nil, List.nil_append, List.lookup_cons, List.lookup_nil, beq_eq_false_iff_ne.mpr e5]
          rw [← hm]
          exact F10
        · exact N10
        · intro h tk G' hk hab
          exact ret _ _ _ (fun b o hb e => hk b o (hg b o e (by simpa using hb))) fun ab => hab (ab10 ab)
  · rfl
  · rfl
  · rfl
  · decide
end
end Mine
end
section
open PySem PySem.W PySem.Calls PyProof.Rows PySem.Spec
set_option maxRecDepth 100000
set_option maxHeartbeats 1000000
namespace Mine
local macro_rules | `(tactic| walk_at "exec Assign cons ListComp") => `(tactic| (k_here; with_reducible refine Mine.hAsg ?_))
local macro_rules | `(tactic| walk_at "eval ListComp") => `(tactic| (k_here; with_reducible refine Mine.hComp ?_))
noncomputable abbrev lawE (L : Addr) : Env := envOfC (Str.ofString "law") (fp 72).2.2 L 197 (.ref 196)
theorem cells_cons {cm : Str → Option Value} {n : Str} {c : Addr} {r : List (Str × Addr)} {cells : List (Addr × Obj)} (x : CellsAre cm ((n, c) :: r) cells) : ∃ o cells', cells = (c, o) :: cells' ∧ o.data = .cell (cm n) ∧ CellsAre cm r cells' := by
  cases x with
  | cons h r => exact ⟨_, _, rfl, h, r⟩
noncomputable abbrev lawN (L : Addr) (o1 o2 o3 o4 o5 o6 : Obj) : List (Addr × Obj) :=
  [(L + 1 + 1 + 1 + 1 + 1 + 1, o1), (L + 1 + 1 + 1 + 1 + 1, o2), (L + 1 + 1 + 1 + 1, o3), (L + 1 + 1 + 1, o4), (L + 1 + 1, o5), (L + 1, o6), (172, tabObj #[])]
noncomputable def row1 (ns : List Int) : List Int := (ns.take 27).map fun x => x.fmod 5184
noncomputable def row2 (n : Nat) : List Int := (List.range (27 - n)).map fun (i : Nat) => 11 * ((n : Int) + i) + 7
noncomputable def rowL (ns : List Int) : List Int := row1 ns ++ row2 (row1 ns).length
theorem rs_27 : ∀ a, a < 28 → Builtin.Range.rangeSize ((a : Nat) : Int) 27 1 = ((27 - a : Nat) : Int) := by decide
theorem sm_27 : ∀ a, a < 28 → Builtin.Range.small ((a : Nat) : Int) 27 1 = true := by decide
section
variable {w : World} {mg mb : Str → Option Value} {hb g : Heap} {A : Around} {s : Shared} {Q : Flow → Shared → Prop} {L : Addr}
theorem law_row (hh : A.handled = none) (X : (KF w.params).In g) (T : Top vq looseF (ExcName.means hb) mg mb g) {Sc : Addr} {vs : List Value} {ns : List Int} (hSc : g.IsList Sc vs.toArray) (hi : IntsAre vs ns) (hlen : ns.length ≤ 63) {o1 o2 o3 o4 o5 o6 : Obj} (d6 : o6.data = .cell none) (hL : @LT.lt Nat _ 172 L)
    (F : Fr g L s.heap (fun y => if y = Str.ofString "script" then some (.ref Sc) else none)) (N : News g L s.heap (lawN L o1 o2 o3 o4 o5 o6))
    (fin : ∀ h tk R us n o6', Fr g L h (fun y => if y = Str.ofString "script" then some (.ref Sc) else none) → News g L h ((R, listOf us.toArray n) :: lawN L o1 o2 o3 o4 o5 o6') → o6'.data = .cell (some (.ref R)) → IntsAre us (rowL ns) → (∀ p ∈ lawN L o1 o2 o3 o4 o5 o6', @Ne Nat p.1 R) → Q .next { s with heap := h, toks := tk }) :
    wpAny (model pw w) A (execs ((fp 72).2.1.take 2) (lawE L)) Q (fun _ _ => False) s := by
  have hb1 : (fp 72).2.1.take 2 = (fp 72).2.1.take 2 := rfl
  conv at hb1 => rhs; whnf
  have hb2 : (fp 72).2.2 = (fp 72).2.2 := rfl
  conv at hb2 => rhs; whnf
  unfold lawE
  rw [hb1, hb2]
  simp only [List.take_succ_cons, List.take_zero]
  clear hb1 hb2
  k_steps
  show wpAny _ _ (exec _ _) _ _ _
  rw [exec_Assign_Name _ _ _ _ _ (by with_unfolding_all rfl)]
  refine wpAny_bind (wpAny_standAt (wpAny_bind ?_))
  refine LCg.ListComp_U (F₀ := F) (by rfl) (by decide) (by rfl) (by decide) (by rfl) ?_
  k_steps
  rename Fr _ _ _ _ => F1
  rename News _ _ _ _ => N1
  rename IntsAre _ (List.take 27 ns) => hi1
  rename _ < _ ∧ _ => l1
  have hl1 := IntsAre.length hi1
  have hl2 : (ns.take 27).length ≤ 27 := by rw [List.length_take]; exact Nat.min_le_left _ _
  rename List.length _ = min _ _ => hmn
  clear hmn
  refine LCg.CompSrc.ledger (k := 0) ?_ F1 N1 (.head _) (by rw [sizeLine_eq]; simp only [List.size_toArray]; omega) fun g1 => ?_
  · exact hh
  refine restU (fun i ys => IntsAre ys ((row1 ns).take i)) .nil ?_ ?_
  · rintro i ys hi' hys v I oI C oC D' m₂ h tk E' hv NS hm₂ F2 N2 off d
    have hiw : i < (ns.take 27).length := by simpa [hl1] using hi'
    obtain ⟨t, rfl⟩ := IntsAre.int_at hi1 i v (by simpa using hv)
    have htk : (row1 ns).take (i + 1) = (row1 ns).take i ++ [((ns.take 27).getD i 0).fmod 5184] := by
      rw [List.take_add_one]
      unfold row1
      rw [List.getElem?_map, List.getElem?_eq_getElem hiw, List.getD_eq_getElem?_getD, List.getElem?_eq_getElem hiw]
      rfl
    generalize (ns.take 27).getD i 0 = a at *
    k_steps
    have oo := off.mem
    refine LCg.CompEnd.intro F2 N2 _ (fun p hp => hp) (LCg.Off3.of fun p hp => oo p hp) (.inr ⟨_, .head _, rfl, _, rfl⟩) ⟨?_, rfl⟩
    rw [htk]
    exact ints_app hys (.cons _ _ .nil)
  · intro ys hys D2 h6 tk6 F6 N6 off6
    have hrl : (row1 ns).length = (ns.take 27).length := by unfold row1; rw [List.length_map]
    have hsk : IntsAre ys (row1 ns) := by
      rw [List.take_of_length_le (by simp only [List.size_toArray]; omega)] at hys
      exact hys
    have hyl := IntsAre.length hsk
    clear hys F1 N1
    obtain ⟨e0, e1, e2, e3, e4, e5, e6, e7, -⟩ := off6
    replace e1 : @Ne Nat (L + 1 + 1 + 1 + 1 + 1 + 1) D2 := e1
    replace e2 : @Ne Nat (L + 1 + 1 + 1 + 1 + 1) D2 := e2
    replace e3 : @Ne Nat (L + 1 + 1 + 1 + 1) D2 := e3
    replace e4 : @Ne Nat (L + 1 + 1 + 1) D2 := e4
    replace e5 : @Ne Nat (L + 1 + 1) D2 := e5
    replace e6 : @Ne Nat (L + 1) D2 := e6
    replace e7 : @Ne Nat 172 D2 := e7
    refine wpAny_bind (wpAny_standAt (wpAny_bind (wpAny_bindName ?_)))
    k_steps
    refine wpAny_pure ?_
    k_steps
    rename Fr _ _ _ _ => F7
    rename News _ _ _ _ => N7
    show wpAny _ _ (eval _ _) _ _ _
    refine LCg.ListComp_U (F₀ := F7) (by rfl) (by decide) (by rfl) (by decide) (by rfl) ?_
    have hyl' : (ys.length : Int) = ((row1 ns).length : Int) := by rw [hyl]
    k_steps
    rename IsRange _ _ _ _ _ _ _ _ => R8
    rename Fr _ _ _ _ => F8
    rename News _ _ _ _ => N8
    have hlt : (row1 ns).length < 28 := by omega
    refine LCg.CompSrc.range ?_ F8 N8 R8 (sm_27 _ hlt) (rs_27 _ hlt) (by rw [sizeLine_eq]; omega) fun g2 => ?_
    · exact hh
    clear F8 N8 R8
    refine restU (fun i us => IntsAre us ((row2 (row1 ns).length).take i)) .nil ?_ ?_
    · rintro i us hi' hys v I oI C oC D' m₂ h tk E' ⟨t, rfl⟩ NS hm₂ F2 N2 off d
      have htk : (row2 (row1 ns).length).take (i + 1) = (row2 (row1 ns).length).take i ++ [11 * (((row1 ns).length : Int) + (i : Int)) + 7] := by
        rw [List.take_add_one]
        unfold row2
        rw [List.getElem?_map, List.getElem?_range hi']
        rfl
      have hib : (i : Int) < 28 := by omega
      generalize hRL : (row1 ns).length = RL at *
      k_steps
      have oo := off.mem
      refine LCg.CompEnd.intro F2 N2 _ (fun p hp => hp) (LCg.Off3.of fun p hp => oo p hp) trivial ⟨?_, rfl⟩
      rw [htk]
      exact ints_app hys (.cons _ _ .nil)
    · intro us hus D3 h9 tk9 F9 N9 off9
      have hul : (row2 (row1 ns).length).length = 27 - (row1 ns).length := by unfold row2; simp
      rw [List.take_of_length_le (by omega)] at hus
      have hul' := IntsAre.length hus
      have hul2 : (row1 ns).length + (row2 (row1 ns).length).length = 27 := by rw [hul]; exact Nat.add_sub_cancel' (by rw [hrl]; exact hl2)
      clear hul
      obtain ⟨f0, f1, f2, f3, f4, f5, f6, f7, f8, -⟩ := off9
      have e9 : @Ne Nat (L + 1) D3 := f7
      have e10 : @Ne Nat D2 D3 := f0
      k_steps
      rename Fr _ _ _ _ => F10
      rename News _ _ _ _ => N10
      rename IntsAre _ (row1 ns ++ row2 (row1 ns).length) => hi10
      rename Obj.data _ = Data.cell (some _) => d10
      rename _ < _ ∧ _ => l10
      refine fin _ _ _ _ 0 _ F10 (fun p hp => N10 p ?_) d10 hi10 (fun p hp => ?_)
      · rcases hp with _ | ⟨_, hp⟩
        · exact .head _
        · exact .tail _ (.tail _ (.tail _ (.tail _ hp)))
      · obtain ⟨-, -, -, g1, g2, g3, g4, g5, g6, g7⟩ := l10
        simp only [List.mem_cons, List.not_mem_nil, or_false] at hp
        rcases hp with rfl | rfl | rfl | rfl | rfl | rfl | rfl
        · exact Nat.ne_of_lt g1
        · exact Nat.ne_of_lt g2
        · exact Nat.ne_of_lt g3
        · exact Nat.ne_of_lt g4
        · exact Nat.ne_of_lt g5
        · exact Nat.ne_of_lt g6
        · exact Nat.ne_of_lt g7
end
end Mine
end
section
open PySem PySem.W PySem.Calls PyProof.Rows PySem.Spec
set_option maxRecDepth 100000
set_option maxHeartbeats 1000000
namespace Mine
local macro_rules | `(tactic| walk_at "eval ListComp") => `(tactic| (k_here; with_reducible refine Mine.hComp ?_))
local macro_rules | `(tactic| walk_at "call type:set") => `(tactic| (k_here; (with_reducible show wpAny _ _ (call (Value.type "set") _) _ _ _); refine Halt.of ?_))
local macro_rules | `(tactic| walk_at "call builtin:len") => `(tactic| (k_here; (with_reducible show wpAny _ _ (call (Value.builtin "len") _) _ _ _); refine Halt.of ?_))
theorem fm_b (x m : Int) (h : 0 < m) : 0 ≤ x.fmod m ∧ x.fmod m < m := by
  rw [Int.fmod_eq_emod_of_nonneg _ (Int.le_of_lt h)]
  exact ⟨Int.emod_nonneg _ (by omega), Int.emod_lt_of_pos _ h⟩
theorem nat_of {x : Int} (h : 0 ≤ x) : ∃ n : Nat, x = (n : Int) := ⟨x.toNat, by omega⟩
theorem fm_pos (f : Nat → Int) : ∀ n, 1 ≤ n → 1 ≤ (firstMet f n).length
  | 0, h => by omega
  | 1, _ => by rw [firstMet_succ, step_length]; split <;> first | omega | (rename_i h; exact absurd h (by simp [firstMet]))
  | n + 2, _ => by
    have := fm_pos f (n + 1) (by omega)
    rw [firstMet_succ, step_length]
    split <;> omega
theorem rng5 (y : Int) : ∃ n : Nat, 5 + y.fmod 8 = (n : Int) ∧ ((5 : Int) ≤ n ∧ (n : Int) ≤ 12) ∧ (5 ≤ n ∧ n ≤ 12) := by
  have b := fm_b y 8 (by decide)
  exact ⟨(5 + y.fmod 8).toNat, by omega⟩
theorem rng208 (y : Int) : ∃ n : Nat, 208 + y.fmod 50 = (n : Int) ∧ ((208 : Int) ≤ n ∧ (n : Int) ≤ 257) ∧ (208 ≤ n ∧ n ≤ 257) := by
  have b := fm_b y 50 (by decide)
  exact ⟨(208 + y.fmod 50).toNat, by omega⟩
theorem rng1 (y : Int) {m : Nat} (h : 1 ≤ m) : ∃ n : Nat, 1 + y.fmod m = (n : Int) ∧ ((1 : Int) ≤ n ∧ (n : Int) ≤ m) ∧ (1 ≤ n ∧ n ≤ m) := by
  have b := fm_b y m (by omega)
  exact ⟨(1 + y.fmod m).toNat, by omega⟩
noncomputable def perN (size step : Nat) : Nat := (firstMet (fun i => (restsF size step size).getD i 0) size).length
noncomputable abbrev mVis (visits : Nat) (tv : Tok) (Sc : Addr) : Str → Option Value := fun y => if y = Str.ofString "visits" then some (.int (visits : Int) tv) else if y = Str.ofString "script" then some (.ref Sc) else none
structure RowOk (rs : List Int) : Prop where
  len : rs.length = 27
  pos : ∀ i, 0 ≤ rs.getD i 0 ∧ rs.getD i 0 < 5184
section
variable {w : World} {mg mb : Str → Option Value} {hb g : Heap} {A : Around} {s : Shared} {Q : Flow → Shared → Prop} {L : Addr}
theorem law_nums (hh : A.handled = none) (X : (KF w.params).In g) (T : Top vq looseF (ExcName.means hb) mg mb g) {Sc R : Addr} {us : List Value} {rs : List Int} {n : Nat} (ro : RowOk rs) (hi : IntsAre us rs) {o1 o2 o3 o4 o5 o6 : Obj} (d3 : o3.data = .cell none) (d4 : o4.data = .cell none) (d5 : o5.data = .cell none) (d6 : o6.data = .cell (some (.ref R))) (hL : @LT.lt Nat _ 172 L)
    (hR : ∀ p ∈ lawN L o1 o2 o3 o4 o5 o6, @Ne Nat p.1 R)
    (F : Fr g L s.heap (fun y => if y = Str.ofString "script" then some (.ref Sc) else none))
    (fin : ∀ h tk (size step visits base : Nat) tv t3 t4 t5 o3' o4' o5', Fr g L h (mVis visits tv Sc) → News g L h ((R, listOf us.toArray n) :: lawN L o1 o2 o3' o4' o5' o6) → o3'.data = .cell (some (.int (base : Int) t3)) → o4'.data = .cell (some (.int (step : Int) t4)) → o5'.data = .cell (some (.int (size : Int) t5)) →
      (5 ≤ size ∧ size ≤ 12) → (1 ≤ step ∧ step ≤ size) → 1 ≤ visits → visits ≤ perN size step → (208 ≤ base ∧ base ≤ 257) → Q .next { s with heap := h, toks := tk })
    (N : News g L s.heap ((R, listOf us.toArray n) :: lawN L o1 o2 o3 o4 o5 o6)) :
    wpAny (model pw w) A (execs (((fp 72).2.1.drop 2).take 4) (lawE L)) Q (fun _ _ => False) s := by
  have hb1 : ((fp 72).2.1.drop 2).take 4 = ((fp 72).2.1.drop 2).take 4 := rfl
  conv at hb1 => rhs; whnf
  have hb2 : (fp 72).2.2 = (fp 72).2.2 := rfl
  conv at hb2 => rhs; whnf
  unfold lawE
  rw [hb1, hb2]
  simp only [List.take_succ_cons, List.take_zero]
  clear hb1 hb2
  have l27 := ro.len
  have r0 := ro.pos 0
  have r1 := ro.pos 1
  have r2 := ro.pos 2
  have r3 := ro.pos 3
  have z1 : @Ne Nat (L + 1 + 1 + 1 + 1 + 1 + 1) R := hR _ (.head _)
  have z2 : @Ne Nat (L + 1 + 1 + 1 + 1 + 1) R := hR _ (.tail _ (.head _))
  have z3 : @Ne Nat (L + 1 + 1 + 1 + 1) R := hR _ (.tail _ (.tail _ (.head _)))
  have z4 : @Ne Nat (L + 1 + 1 + 1) R := hR _ (.tail _ (.tail _ (.tail _ (.head _))))
  have z5 : @Ne Nat (L + 1 + 1) R := hR _ (.tail _ (.tail _ (.tail _ (.tail _ (.head _)))))
  have z6 : @Ne Nat (L + 1) R := hR _ (.tail _ (.tail _ (.tail _ (.tail _ (.tail _ (.head _))))))
  have z7 : @Ne Nat 172 R := hR _ (.tail _ (.tail _ (.tail _ (.tail _ (.tail _ (.tail _ (.head _)))))))
  k_steps
  show wpAny _ _ (binaryOp Operator.Mod _ _) _ _ _
  have b8 := fm_b (rs.getD (Int.toNat 0) 0) 8 (by decide)
  obtain ⟨size, qqsize⟩ := rng5 (rs.getD (Int.toNat 0) 0)
  have hsize := qqsize.1
  have hs2 := qqsize.2.1
  have hs1 := qqsize.2.2
  clear qqsize
  rw [hsize]
  simp only [hsize] at *
  k_steps
  have b9 := fm_b (rs.getD (Int.toNat 1) 0) size (Int.lt_of_lt_of_le (by decide) hs2.1)
  obtain ⟨step, qqstep⟩ := rng1 (rs.getD (Int.toNat 1) 0) (m := size) (Nat.le_trans (by decide) hs1.1)
  have hstep := qqstep.1
  have ht2 := qqstep.2.1
  have ht1 := qqstep.2.2
  clear qqstep
  simp only [hstep] at *
  rename Fr _ _ _ _ => F1
  rename News _ _ _ _ => N1
  refine LCg.ListComp_U (F₀ := F1) (by rfl) (by decide) (by rfl) (by decide) (by rfl) ?_
  k_steps
  rename IsRange _ _ _ _ _ _ _ _ => R8
  rename Fr _ _ _ _ => F8
  rename News _ _ _ _ => N8
  refine LCg.CompSrc.range ?_ F8 N8 R8 (sm_nat (by omega)) (rs_nat _) (by rw [sizeLine_eq]; omega) fun g1 => ?_
  · exact hh
  clear F8 N8 R8
  refine restU (fun i us => IntsAre us ((List.range i).map fun (i : Nat) => ((step : Int) * i).fmod size)) .nil ?_ ?_
  · rintro i us hi' hys v I oI C oC D' m₂ h tk E' ⟨t, rfl⟩ NS hm₂ F2 N2 off d
    have hib : (i : Int) < 28 := by omega
    k_steps
    have oo := off.mem
    refine LCg.CompEnd.intro F2 N2 _ (fun p hp => hp) (LCg.Off3.of fun p hp => oo p hp) trivial ⟨?_, rfl⟩
    rw [List.range_succ, List.map_append, Int.zero_add]
    exact ints_app hys (.cons _ _ .nil)
  · intro ys hys D3 h9 tk9 F9 N9 off9
    rw [List.map_congr_left (g := fun i : Nat => ((step : Int) * i).fmod size) (fun a _ => rfl)] at hys
    have hys' : IntsAre ys (restsF size step size) := hys
    have hyl := IntsAre.length hys'
    have hrl : (restsF size step size).length = size := by simp [restsF]
    clear hys
    obtain ⟨f0, f1, f2, f3, f4, f5, f6, f7, f8, -⟩ := off9
    k_steps
    show wpAny _ _ (call (.type "set") [.ref D3]) _ _ _
    refine call_set_list ?_ ⟨_, (N9 _ (.head _)).1, rfl, _, rfl⟩ (items := ys.toArray) (ns := restsF size step size) (by simpa using hys') (by simp only [List.size_toArray]; unfold scanBound; omega) ?_
    · exact hh
    intro h10 tk10 hS10 hk10
    have esz : ys.toArray.size = size := by simp only [List.size_toArray]; omega
    rw [esz] at hS10
    have F10 := F9.keeps (fun b o e => hk10 b o (Heap.lt_size e) e)
    have N10 := N9.grown (fun b o e => hk10 b o (Heap.lt_size e) e)
    clear F9 N9
    obtain ⟨oS, es, ep, tS, hoS, hexS, hdS, -, -, -, hfitS, hszS⟩ := hS10
    k_steps
    show wpAny _ _ (call (.builtin "len") _) _ _ _
    refine call_len_set hoS hexS hdS hfitS ?_ ?_
    · have := firstMet_length_le (fun i => (restsF size step size).getD i 0) size
      omega
    have hp1 : 1 ≤ es.size ∧ es.size ≤ size := by
      rw [hszS]
      exact ⟨fm_pos _ size (by omega), firstMet_length_le _ size⟩
    have hper : es.size = perN size step := hszS
    clear hszS hfitS
    generalize es.size = per at *
    have hp2 : (1 : Int) ≤ (per : Int) ∧ (per : Int) ≤ 12 := by omega
    k_steps
    have b10 := fm_b (rs.getD (Int.toNat 2) 0) per (Int.lt_of_lt_of_le (by decide) hp2.1)
    obtain ⟨visits, qqvisits⟩ := rng1 (rs.getD (Int.toNat 2) 0) (m := per) hp1.1
    have hvisits := qqvisits.1
    have hv2 := qqvisits.2.1
    have hv1 := qqvisits.2.2
    clear qqvisits
    simp only [hvisits] at *
    k_steps
    have b11 := fm_b (rs.getD (Int.toNat 3) 0) 50 (by decide)
    obtain ⟨base, qqbase⟩ := rng208 (rs.getD (Int.toNat 3) 0)
    have hbase := qqbase.1
    have hb2 := qqbase.2.1
    have hb1 := qqbase.2.2
    clear qqbase
    simp only [hbase] at *
    k_steps
    rename Fr _ _ _ _ => F11
    rename News _ _ _ _ => N11
    exact fin _ _ size step visits base _ _ _ _ _ _ _ F11 (fun p hp => N11 p (.tail _ hp)) (by assumption) (by assumption) (by assumption) hs1 ht1 hv1.1 (by rw [← hper]; exact hv1.2) hb1
end
end Mine
end
section
open PySem PySem.W PySem.Calls PyProof.Rows PySem.Spec
set_option maxRecDepth 100000
set_option maxHeartbeats 1000000
namespace Mine
local macro_rules | `(tactic| walk_at "exec Assign cons ListComp") => `(tactic| (k_here; with_reducible refine Mine.hAsg ?_))
local macro_rules | `(tactic| walk_at "call ref") => `(tactic| (k_here; with_reducible refine Mine.hCall ?_))
theorem off1_mem {D : Addr} {l : List (Addr × Obj)} (h : LCg.Off1 D l) : ∀ p, p ∈ l → @Ne Nat p.1 D := by
  induction l with
  | nil => intro p hp; exact absurd hp (List.not_mem_nil)
  | cons a l ih =>
    intro p hp
    cases List.mem_cons.mp hp with
    | inl e => rw [e]; exact h.1
    | inr hp => exact ih h.2 p hp
noncomputable def cardsL (rs : List Int) (base n : Nat) : List Str := (List.range n).map fun k => cardS (base + k) (rs.getD (4 + k) 0).toNat (rs.getD (15 + k) 0).toNat
noncomputable abbrev mCards (D : Addr) (visits : Nat) (tv : Tok) (Sc : Addr) : Str → Option Value := fun y => if y = Str.ofString "cards" then some (.ref D) else if y = Str.ofString "visits" then some (.int (visits : Int) tv) else if y = Str.ofString "script" then some (.ref Sc) else none
section
variable {w : World} {mg mb : Str → Option Value} {hb g : Heap} {A : Around} {s : Shared} {Q : Flow → Shared → Prop} {L : Addr}
theorem law_cards (B : Base w mg mb hb) (hbg : Sub hb g) (hh : A.handled = none) (hA : A.depth + 9 < recursionLimit) (X : (KF w.params).In g) (T : Top vq looseF (ExcName.means hb) mg mb g) {Sc R : Addr} {us : List Value} {rs : List Int} {n : Nat} (ro : RowOk rs) (hi : IntsAre us rs) {o1 o2 o3 o4 o5 o6 : Obj} (d6 : o6.data = .cell (some (.ref R))) (hL : @LT.lt Nat _ 172 L)
    (hR : ∀ p ∈ lawN L o1 o2 o3 o4 o5 o6, @Ne Nat p.1 R) {size visits base : Nat} {tv t3 t5 : Tok} (d3 : o3.data = .cell (some (.int (base : Int) t3))) (d5 : o5.data = .cell (some (.int (size : Int) t5))) (z1 : 5 ≤ size ∧ size ≤ 12) (z5 : 208 ≤ base ∧ base ≤ 257)
    (F : Fr g L s.heap (mVis visits tv Sc)) (N : News g L s.heap ((R, listOf us.toArray n) :: lawN L o1 o2 o3 o4 o5 o6))
    (fin : ∀ h tk D ys, Fr g L h (mCards D visits tv Sc) → News g L h ((D, LCg.lst ys) :: (R, listOf us.toArray n) :: lawN L o1 o2 o3 o4 o5 o6) → SV (cardsL rs base (size - 1)) ys → (∀ p ∈ (R, listOf us.toArray n) :: lawN L o1 o2 o3 o4 o5 o6, @Ne Nat p.1 D) → Q .next { s with heap := h, toks := tk }) :
    wpAny (model pw w) A (execs (((fp 72).2.1.drop 6).take 1) (lawE L)) Q (fun _ _ => False) s := by
  have hb1 : ((fp 72).2.1.drop 6).take 1 = ((fp 72).2.1.drop 6).take 1 := rfl
  conv at hb1 => rhs; whnf
  have hb2 : (fp 72).2.2 = (fp 72).2.2 := rfl
  conv at hb2 => rhs; whnf
  unfold lawE
  rw [hb1, hb2]
  simp only [List.take_succ_cons, List.take_zero]
  clear hb1 hb2
  have l27 := ro.len
  have hlu := IntsAre.length hi
  have y1 : @Ne Nat (L + 1 + 1 + 1 + 1 + 1 + 1) R := hR _ (.head _)
  have y2 : @Ne Nat (L + 1 + 1 + 1 + 1 + 1) R := hR _ (.tail _ (.head _))
  have y3 : @Ne Nat (L + 1 + 1 + 1 + 1) R := hR _ (.tail _ (.tail _ (.head _)))
  have y4 : @Ne Nat (L + 1 + 1 + 1) R := hR _ (.tail _ (.tail _ (.tail _ (.head _))))
  have y5 : @Ne Nat (L + 1 + 1) R := hR _ (.tail _ (.tail _ (.tail _ (.tail _ (.head _)))))
  have y6 : @Ne Nat (L + 1) R := hR _ (.tail _ (.tail _ (.tail _ (.tail _ (.tail _ (.head _))))))
  have y7 : @Ne Nat 172 R := hR _ (.tail _ (.tail _ (.tail _ (.tail _ (.tail _ (.tail _ (.head _)))))))
  k_steps
  show wpAny _ _ (exec _ _) _ _ _
  refine LCg.Assign_ListComp_U (F₀ := F) (by rfl) (by with_unfolding_all rfl) (by rfl) (by decide) (by rfl) (by decide) (by rfl) (by rfl) (by rfl) ?_
  k_steps
  rename IsRange _ _ _ _ _ _ _ _ => R8
  rename Fr _ _ _ _ => F8
  rename News _ _ _ _ => N8
  have hz : ((size : Int) - 1) = ((size - 1 : Nat) : Int) := by omega
  rw [hz] at R8
  refine LCg.CompSrc.range ?_ F8 N8 R8 (sm_nat (by omega)) (rs_nat _) (by rw [sizeLine_eq]; omega) fun g1 => ?_
  · exact hh
  clear F8 N8 R8
  refine restU (fun i us => SV (cardsL rs base i) us) ⟨[], rfl, rfl⟩ ?_ ?_
  · rintro i ys hi' hys v I oI C oC D' m₂ h tk E' ⟨t, rfl⟩ NS hm₂ F2 N2 off d
    have hib : (i : Int) < 12 := by omega
    have hj1 : (Int.toNat (4 + (i : Int))) = 4 + i := rfl
    have hj2 : (Int.toNat (15 + (i : Int))) = 15 + i := rfl
    rw [Int.zero_add] at hm₂
    have hx := ro.pos (4 + i)
    have hy := ro.pos (15 + i)
    have ex : rs.getD (4 + i) 0 = ((rs.getD (4 + i) 0).toNat : Int) := (Int.toNat_of_nonneg hx.1).symm
    have ey : rs.getD (15 + i) 0 = ((rs.getD (15 + i) 0).toNat : Int) := (Int.toNat_of_nonneg hy.1).symm
    have eb : (base : Int) + (i : Int) = ((base + i : Nat) : Int) := rfl
    have htk : cardsL rs base (i + 1) = cardsL rs base i ++ [cardS (base + i) (rs.getD (4 + i) 0).toNat (rs.getD (15 + i) 0).toNat] := by
      unfold cardsL
      rw [List.range_succ, List.map_append]
      rfl
    k_steps
    show wpAny _ _ (call (.ref 165) _) _ _ _
    rw [hj1, hj2, eb, ex, ey]
    refine c_card B ?_ ?_ ?_ (base + i) (rs.getD (4 + i) 0).toNat (rs.getD (15 + i) 0).toNat _ _ _ (by omega) (by omega) (by omega) (by omega) ?_
    · exact hbOf hbg F2.keep
    · exact (dltz hA : A.depth < recursionLimit)
    · exact hh
    intro h4 tk4 t4 sub4
    have F4 := F2.keeps sub4
    have N4 := N2.grown sub4
    clear F2 N2
    k_steps
    have oo := off.mem
    refine LCg.CompEnd.intro F4 N4 _ (fun p hp => hp) (LCg.Off3.of fun p hp => oo p hp) trivial ⟨?_, rfl⟩
    rw [htk]
    exact hys.snoc
  · intro ys hys D3 h9 tk9 F9 N9 off9
    k_steps
    rename Fr _ _ _ _ => F10
    rename News _ _ _ _ => N10
    exact fin _ _ D3 ys F10 N10 hys (off1_mem off9)
end
end Mine
end
section
open PySem PySem.W PySem.Calls PyProof.Rows PySem.Spec
set_option maxRecDepth 100000
set_option maxHeartbeats 1000000
namespace Mine
local macro_rules | `(tactic| walk_at "call ref") => `(tactic| (k_here; with_reducible refine Mine.hCall ?_))
theorem news_add {g h h' : Heap} {L D : Addr} {m : Str → Option Value} {o : Obj} {news : List (Addr × Obj)} (F : Fr g L h m) (hD : h.get? D = none) (ho : h'.get? D = some o) (N : News g L h' news) : News g L h' ((D, o) :: news) := by
  intro p hp
  rcases List.mem_cons.mp hp with rfl | hp
  · refine ⟨ho, fun q => ?_, ?_⟩
    · have q' : D = L := q
      obtain ⟨_, _, _, hL, _⟩ := F.ns
      rw [q', hL] at hD; cases hD
    · cases q : g.get? D with
      | none => rfl
      | some o' => have := F.keep _ _ q; rw [hD] at this; cases this
  · exact N p hp
noncomputable abbrev lawC (L : Addr) (o1 o2 o3 o4 o5 o6 : Obj) : List (Addr × Obj) :=
  [(L + 1 + 1 + 1 + 1 + 1 + 1, o1), (L + 1 + 1 + 1 + 1 + 1, o2), (L + 1 + 1 + 1 + 1, o3), (L + 1 + 1 + 1, o4), (L + 1 + 1, o5), (L + 1, o6)]
noncomputable abbrev lawT (L : Addr) (o1 o2 o3 o4 o5 o6 : Obj) (ps : Array Value) : List (Addr × Obj) :=
  [(L + 1 + 1 + 1 + 1 + 1 + 1, o1), (L + 1 + 1 + 1 + 1 + 1, o2), (L + 1 + 1 + 1 + 1, o3), (L + 1 + 1 + 1, o4), (L + 1 + 1, o5), (L + 1, o6), (172, tabObj ps)]
noncomputable abbrev mWords (W D : Addr) (visits : Nat) (tv : Tok) (Sc : Addr) : Str → Option Value := fun y => if y = Str.ofString "words" then some (.ref W) else if y = Str.ofString "cards" then some (.ref D) else if y = Str.ofString "visits" then some (.int (visits : Int) tv) else if y = Str.ofString "script" then some (.ref Sc) else none
noncomputable def joinedS (cs : List Str) : Str := Txt.slice (Txt.join (Str.ofString "") cs) none (some (-1))
section
variable {w : World} {mg mb : Str → Option Value} {hb g : Heap} {A : Around} {s : Shared} {Q : Flow → Shared → Prop} {L : Addr}
theorem law_words (B : Base w mg mb hb) (hbg : Sub hb g) (n172 : hb.get? 172 = none) (hh : A.handled = none) (hA : A.depth + 9 < recursionLimit) (X : (KF w.params).In g) (T : Top vq looseF (ExcName.means hb) mg mb g) {Sc R D : Addr} {us ys : List Value} {rs : List Int} {n : Nat} (ro : RowOk rs) (hi : IntsAre us rs) {o1 o2 o3 o4 o5 o6 : Obj} (d6 : o6.data = .cell (some (.ref R))) (hL : @LT.lt Nat _ 172 L)
    (hD : ∀ p ∈ (R, listOf us.toArray n) :: lawN L o1 o2 o3 o4 o5 o6, @Ne Nat p.1 D) (hR : ∀ p ∈ lawN L o1 o2 o3 o4 o5 o6, @Ne Nat p.1 R) {size step visits : Nat} {tv t4 t5 : Tok} (d4 : o4.data = .cell (some (.int (step : Int) t4))) (d5 : o5.data = .cell (some (.int (size : Int) t5))) (z1 : 5 ≤ size ∧ size ≤ 12) (z2 : 1 ≤ step ∧ step ≤ size) (z3 : 1 ≤ visits ∧ visits ≤ size)
    {cs xs : List Str} (hys : SV cs ys) (hj : JoinOk (Str.ofString "") cs = true) (hcl : (Txt.join (Str.ofString "") cs).length ≤ 900) (hsz : (joinedS cs).cps.size < 1000) (hlx : Lx (joinedS cs).cps.toList xs) (hxs : xs.length = size) (hxt : xs.length ≤ (joinedS cs).length + 1) {x c : Nat} (hx : x = (rs.getD 26 0).toNat) (hc : (c : Int) = (-(visits : Int) * step).fmod size) (hbd : ∀ k, k < visits → ∀ y ∈ visN x step k xs, y.cps.size < 1000)
    (F : Fr g L s.heap (mCards D visits tv Sc)) (N : News g L s.heap ((D, LCg.lst ys) :: (R, listOf us.toArray n) :: lawN L o1 o2 o3 o4 o5 o6))
    (fin : ∀ h tk W vs n ps, Fr g L h (mWords W D visits tv Sc) → News g L h ((W, listOf vs.toArray n) :: lawT L o1 o2 o3 o4 o5 o6 ps) → SV (rotN c (visN x step visits xs)) vs → (∀ p ∈ lawC L o1 o2 o3 o4 o5 o6, @Ne Nat W p.1) → Q .next { s with heap := h, toks := tk }) :
    wpAny (model pw w) A (execs (((fp 72).2.1.drop 7).take 1) (lawE L)) Q (fun _ _ => False) s := by
  have hb1 : ((fp 72).2.1.drop 7).take 1 = ((fp 72).2.1.drop 7).take 1 := rfl
  conv at hb1 => rhs; whnf
  have hb2 : (fp 72).2.2 = (fp 72).2.2 := rfl
  conv at hb2 => rhs; whnf
  unfold lawE
  rw [hb1, hb2]
  simp only [List.take_zero]
  clear hb1 hb2
  have l27 := ro.len
  have hlu := IntsAre.length hi
  obtain ⟨l, rfl, hl⟩ := hys
  subst hl
  k_steps
  refine SC.join (l := l) ⟨_, (N _ List.mem_cons_self).1, rfl, _, rfl⟩ rfl hj fun t' k => ?_
  have hpx := ro.pos 26
  have ex : rs.getD 26 0 = (x : Int) := by omega
  have hx5 : x < 5184 := by omega
  clear hx
  generalize hX : Txt.join (Str.ofString "") (l.map (·.1)) = X at *
  k_steps
  have hJ : Txt.slice X none (some (-1)) = joinedS (l.map (·.1)) := by unfold joinedS; rw [hX]
  rw [hJ]
  generalize joinedS (l.map (·.1)) = J at *
  clear hJ
  rename Fr _ _ _ _ => F1
  rename News _ _ _ _ => N1
  have h172 := N1 (172, tabObj #[]) (.tail _ (.tail _ (.tail _ (.tail _ (.tail _ (.tail _ (.tail _ (.tail _ (.head _)))))))))
  show wpAny _ _ (call (.ref 177) [.str J _]) _ _ _
  refine c_ring B ?_ ?_ ?_ J _ hsz h172.1 n172 hlx (by omega) hxt ?_
  · exact hbOf hbg F1.keep
  · exact (dlt0 hA rfl : A.depth + 9 < recursionLimit)
  · exact hh
  intro h2 tk2 lex dx pb sx ln u1 v1 v2 v3 v4 v5 e n2 ws hws l1 l2 l3 e1 e2 e3 hk2 ⟨ps, hps⟩
  have F2 := fr_upd F1 hk2 h172.2.1.symm h172.2.2
  have nn : ∀ p ∈ ((D, LCg.lst (strValues l)) :: (R, listOf us.toArray n) :: lawC L o1 o2 o3 o4 o5 o6), p ∈ ((D, LCg.lst (strValues l)) :: (R, listOf us.toArray n) :: lawN L o1 o2 o3 o4 o5 o6) ∧ @Ne Nat p.1 172 := by
    intro p hp
    simp only [List.mem_cons, List.not_mem_nil, or_false] at hp ⊢
    have y7 : @Ne Nat 172 R := hR _ (.tail _ (.tail _ (.tail _ (.tail _ (.tail _ (.tail _ (.head _)))))))
    have y8 : @Ne Nat 172 D := hD _ (.tail _ (.tail _ (.tail _ (.tail _ (.tail _ (.tail _ (.tail _ (.head _))))))))
    rcases hp with rfl | rfl | rfl | rfl | rfl | rfl | rfl | rfl
    · exact ⟨.inl rfl, Ne.symm y8⟩
    · exact ⟨.inr (.inl rfl), Ne.symm y7⟩
    all_goals refine ⟨by simp, ?_⟩
    all_goals
      dsimp only
      show @Ne Nat _ _
      omega
  have N2c : News g L h2 ((D, LCg.lst (strValues l)) :: (R, listOf us.toArray n) :: lawC L o1 o2 o3 o4 o5 o6) := fun p hp => by
    have z := N1 p (nn p hp).1
    exact ⟨hk2 _ _ (nn p hp).2 z.1, z.2⟩
  have N2 : News g L h2 ((D, LCg.lst (strValues l)) :: (R, listOf us.toArray n) :: lawT L o1 o2 o3 o4 o5 o6 ps) := fun p hp => by
    simp only [List.mem_cons, List.not_mem_nil, or_false] at hp
    rcases hp with h | h | h | h | h | h | h | h | h
    · exact N2c p (by simp [h])
    · exact N2c p (by simp [h])
    · exact N2c p (by simp [h])
    · exact N2c p (by simp [h])
    · exact N2c p (by simp [h])
    · exact N2c p (by simp [h])
    · exact N2c p (by simp [h])
    · exact N2c p (by simp [h])
    · rw [h]; exact ⟨hps, h172.2⟩
  have np : ∀ p ∈ lawT L o1 o2 o3 o4 o5 o6 ps, @Ne Nat p.1 pb := fun p hp q => by
    have q' : p.1 = pb := q
    by_cases h2 : p.1 = 172
    · have z := h172.1
      rw [← h2, q', l3] at z; cases z
    · have z := (N1 p (nn p (by
        simp only [List.mem_cons, List.not_mem_nil, or_false] at hp ⊢
        rcases hp with h | h | h | h | h | h | h <;> first | (simp [h]; done) | (rw [h] at h2; exact absurd rfl h2))).1).1
      rw [q', l3] at z; cases z
  have N3 := news_add F1 l1 e1 (news_add F1 l2 e2 (news_add F1 l3 e3 N2))
  clear N2 N1 F1
  k_steps
  rename Fr _ _ _ _ => F4
  rename News _ _ _ _ => N4
  show wpAny _ _ (call (.ref 182) _) _ _ _
  have ex' : rs.getD (Int.toNat 26) 0 = (x : Int) := ex
  rw [ex']
  have y1 := N4 (lex, instObj 52 dx) (.head _)
  have y2 := N4 (dx, _) (.tail _ (.head _))
  have y3 := N4 (pb, _) (.tail _ (.tail _ (.head _)))
  have nb : ∀ a, g.get? a = none → hb.get? a = none := fun a ha => by
    cases q : hb.get? a with
    | none => rfl
    | some o => rw [hbg a o q] at ha; cases ha
  refine c_walk B ?_ ?_ ?_ lex dx pb ws n2 ln u1 v1 v2 v3 v4 v5 (.ref sx) e y1.1 y2.1 y3.1 (nb _ y1.2.2) (nb _ y2.2.2) (nb _ y3.2.2) size step visits x _ _ _ _ z1.1 z1.2 z2.1 z2.2 z3.1 z3.2 hx5 hws hxs hbd hc ?_
  · exact hbOf hbg F4.keep
  · exact (dlt0 hA rfl : A.depth + 3 < recursionLimit)
  · exact hh
  intro h5 tk5 W vs n5 hk5 lW eW hvs
  have F5 := fr_upd F4 hk5 y3.2.1.symm y3.2.2
  have N5 : News g L h5 (lawT L o1 o2 o3 o4 o5 o6 ps) := fun p hp => by
    have z := N4 p (.tail _ (.tail _ (.tail _ (.tail _ (.tail _ hp)))))
    exact ⟨hk5 _ _ (np p hp) z.1, z.2⟩
  have nW : ∀ p ∈ lawC L o1 o2 o3 o4 o5 o6, @Ne Nat W p.1 := fun p hp => ne_fresh N4 lW (.tail _ (.tail _ (.tail _ (.tail _ (.tail _ (List.mem_append_left [(172, tabObj ps)] hp))))))
  have N6 := news_add F4 lW eW N5
  clear N4 F4 N5 y1 y2 y3
  k_steps
  rename Fr _ _ _ _ => F7
  rename News _ _ _ _ => N7
  exact fin _ _ W vs n5 ps F7 N7 hvs nW
end
end Mine
end
section
open PySem PySem.W PySem.Calls PyProof.Rows PySem.Spec
set_option maxRecDepth 100000
set_option maxHeartbeats 1000000
namespace Mine
local macro_rules | `(tactic| walk_at "call ref") => `(tactic| (k_here; with_reducible refine Mine.hCall ?_))
local macro_rules | `(tactic| walk_at "eval ListComp") => `(tactic| (k_here; with_reducible refine Mine.hComp ?_))
noncomputable def footN (y : Str) : Nat := (y.cps.toList.filter inB1).length
noncomputable abbrev Off6 (L D : Addr) : Prop := @Ne Nat (L + 1 + 1 + 1 + 1 + 1 + 1) D ∧ @Ne Nat (L + 1 + 1 + 1 + 1 + 1) D ∧ @Ne Nat (L + 1 + 1 + 1 + 1) D ∧ @Ne Nat (L + 1 + 1 + 1) D ∧ @Ne Nat (L + 1 + 1) D ∧ @Ne Nat (L + 1) D
section
variable {w : World} {mg mb : Str → Option Value} {hb g : Heap} {A : Around} {s : Shared} {Q : Flow → Shared → Prop} {L : Addr}
theorem law_feet (B : Base w mg mb hb) (hbg : Sub hb g) (hh : A.handled = none) (hA : A.depth + 9 < recursionLimit) (X : (KF w.params).In g) (T : Top vq looseF (ExcName.means hb) mg mb g) {W : Addr} {vs : List Value} {n : Nat} {m : Str → Option Value} {ws : List Str} (hw : SV ws vs) (hwl : ∀ y ∈ ws, y.cps.size ≤ 4000) (hwn : ws.length ≤ 12) {o1 o2 o3 o4 o5 o6 : Obj} (d2 : o2.data = .cell none)
    (hW : ∀ p ∈ lawC L o1 o2 o3 o4 o5 o6, @Ne Nat W p.1) (hm : m (Str.ofString "words") = some (.ref W)) {D Sc : Addr} {visits : Nat} {tv : Tok} (hmm : m = mWords W D visits tv Sc)
    (F : Fr g L s.heap m) (N : News g L s.heap ((W, listOf vs.toArray n) :: lawC L o1 o2 o3 o4 o5 o6))
    (fin : ∀ h tk D3 ys o2', Fr g L h (mWords W D visits tv Sc) → News g L h ((D3, LCg.lst ys) :: (W, listOf vs.toArray n) :: lawC L o1 o2' o3 o4 o5 o6) → o2'.data = .cell (some (.ref D3)) → IntsAre ys (ws.map fun y => (footN y : Int)) → Off6 L D3 → @Ne Nat W D3 → Q .next { s with heap := h, toks := tk }) :
    wpAny (model pw w) A (execs (((fp 72).2.1.drop 8).take 1) (lawE L)) Q (fun _ _ => False) s := by
  have hb1 : ((fp 72).2.1.drop 8).take 1 = ((fp 72).2.1.drop 8).take 1 := rfl
  conv at hb1 => rhs; whnf
  have hb2 : (fp 72).2.2 = (fp 72).2.2 := rfl
  conv at hb2 => rhs; whnf
  unfold lawE
  rw [hb1, hb2]
  simp only [List.take_zero]
  clear hb1 hb2
  subst hmm
  k_steps
  refine LCg.ListComp_U (F₀ := F) (by rfl) (by decide) (by rfl) (by decide) (by rfl) ?_
  walk1
  refine LCg.CompSrc.ledger (its := vs.toArray) (k := n) ?_ F N (.head _) (by have := hw.length; rw [sizeLine_eq]; simp; omega) fun g1 => ?_
  · exact hh
  refine restU (fun i ys => IntsAre ys ((ws.take i).map fun y => (footN y : Int))) .nil ?_ ?_
  · rintro i ys hi' hsv v I oI C oC D' m₂ h tk E' hv NS hm₂ F1 N1 off d
    have hlv := hw.length
    have hiw : i < ws.length := by rw [← hlv]; simpa using hi'
    have hvs : ∃ t, v = .str ws[i] t := by
      obtain ⟨l, rfl, hl⟩ := hw
      subst hl
      have hil : i < l.length := by simpa using hiw
      have : (strValues l)[i]? = some (.str l[i].1 l[i].2) := by simp [strValues, List.getElem?_map, List.getElem?_eq_getElem hil]
      have hv' : (strValues l)[i]? = some v := by simpa using hv
      rw [this] at hv'
      cases hv'
      exact ⟨l[i].2, by simp⟩
    obtain ⟨t, rfl⟩ := hvs
    have hyl := hwl ws[i] (List.getElem_mem hiw)
    have htk : ((ws.take (i + 1)).map fun y => (footN y : Int)) = ((ws.take i).map fun y => (footN y : Int)) ++ [(footN ws[i] : Int)] := by
      rw [List.take_succ_eq_append_getElem hiw, List.map_append]
      rfl
    generalize ws[i] = x at *
    k_steps
    refine ListComp_S (h₀ := g) (L := L) (m := mWords W D visits tv Sc) rfl (by decide) rfl (by decide) rfl ?_
    walk1
    refine ⟨x, _, _, rfl, hh, F1, N1, (by simp [sizeLine]; omega), ?_⟩
    rintro s₂ ⟨h₂, rfl⟩
    refine restT (fun j us => us.length = ((x.cps.toList.take j).filter inB1).length) rfl ?_ ?_
    · rintro j us hj hus v I2 oI2 C2 oC2 D2 m3 h3 tk3 E3 ⟨c, u, hc, rfl⟩ NS3 hm3 F3 N3 off3 d3
      have htj : x.cps.toList.take (j + 1) = x.cps.toList.take j ++ [c] := by
        rw [List.take_add_one, Array.getElem?_toList, hc]; rfl
      k_steps
      show wpAny _ _ _ _ _ _
      refine c_b1 B ?_ ?_ ?_ c u ?_
      · exact hbOf hbg F3.keep
      · exact (dltz hA : A.depth < recursionLimit)
      · exact hh
      intro h' tk' sub
      have F5 := F3.keeps sub
      have N5 := N3.grown sub
      clear F3 N3
      cases hin : inB1 c with
      | true =>
        k_steps
        have oo := off3.mem
        refine LCg.CompEnd.intro (by assumption) (by assumption) _ (fun p hp => hp) (LCg.Off3.of fun p hp => oo p hp) trivial ⟨?_, rfl⟩
        rw [htj, List.filter_append, List.filter_cons, hin]
        simp [hus]
      | false =>
        k_steps
        have oo := off3.mem
        refine LCg.CompEnd.intro F5 N5 _ (fun p hp => hp) (LCg.Off3.of fun p hp => oo p hp) trivial ⟨?_, rfl⟩
        rw [htj, List.filter_append, List.filter_cons, hin]
        simp [hus]
    · intro us hus D2 h4 tk4 F4 N4 off4
      have hul : us.length = footN x := by
        rw [hus, List.take_of_length_le (by rw [Array.length_toList]; exact Nat.le_refl _)]
        rfl
      have hub : us.length ≤ 4000 := by
        rw [hul]
        exact Nat.le_trans (List.length_filter_le _ _) (by rw [Array.length_toList]; exact hyl)
      k_steps
      show wpAny _ _ (call (.builtin "len") _) _ _ _
      refine call_len_list ⟨_, (N4 (D2, _) (.head _)).1, rfl, _, rfl⟩ (by simp only [List.size_toArray]; omega) ?_
      k_steps
      have oo := off.mem
      refine LCg.CompEnd.intro F4 (fun p hp => N4 p (List.mem_cons_of_mem _ hp)) _ (fun p hp => hp) (LCg.Off3.of fun p hp => oo p hp) (.inr ⟨_, .head _, rfl, _, rfl⟩) ⟨?_, rfl⟩
      rw [htk, List.size_toArray, hul]
      exact ints_app hsv (.cons _ _ .nil)
  · intro ys hys D3 h9 tk9 F9 N9 off9
    have hlv := hw.length
    rw [List.take_of_length_le (by simp only [List.size_toArray]; omega)] at hys
    have nn := off1_mem off9
    obtain ⟨e0, e1, e2, e3, e4, e5, e6, -⟩ := off9
    replace e1 : @Ne Nat (L + 1 + 1 + 1 + 1 + 1 + 1) D3 := e1
    replace e2 : @Ne Nat (L + 1 + 1 + 1 + 1 + 1) D3 := e2
    replace e3 : @Ne Nat (L + 1 + 1 + 1 + 1) D3 := e3
    replace e4 : @Ne Nat (L + 1 + 1 + 1) D3 := e4
    replace e5 : @Ne Nat (L + 1 + 1) D3 := e5
    replace e6 : @Ne Nat (L + 1) D3 := e6
    replace e0 : @Ne Nat W D3 := e0
    have q1 : @Ne Nat W (L + 1 + 1 + 1 + 1 + 1 + 1) := hW _ (.head _)
    have q2 : @Ne Nat W (L + 1 + 1 + 1 + 1 + 1) := hW _ (.tail _ (.head _))
    have q3 : @Ne Nat W (L + 1 + 1 + 1 + 1) := hW _ (.tail _ (.tail _ (.head _)))
    have q4 : @Ne Nat W (L + 1 + 1 + 1) := hW _ (.tail _ (.tail _ (.tail _ (.head _))))
    have q5 : @Ne Nat W (L + 1 + 1) := hW _ (.tail _ (.tail _ (.tail _ (.tail _ (.head _)))))
    have q6 : @Ne Nat W (L + 1) := hW _ (.tail _ (.tail _ (.tail _ (.tail _ (.tail _ (.head _))))))
    k_steps
    rename Fr _ _ _ _ => F11
    rename News _ _ _ _ => N11
    rename Obj.data _ = Data.cell (some _) => d11
    exact fin _ _ D3 ys _ F11 N11 d11 hys ⟨e1, e2, e3, e4, e5, e6⟩ e0
end
end Mine
end
section
open PySem PySem.W PySem.Calls PyProof.Rows PySem.Spec
set_option maxRecDepth 100000
set_option maxHeartbeats 1000000
namespace Mine
local macro_rules | `(tactic| walk_at "call ref") => `(tactic| (k_here; with_reducible refine Mine.hCall ?_))
local macro_rules | `(tactic| walk_at "eval ListComp") => `(tactic| (k_here; with_reducible refine Mine.hComp ?_))
section
variable {w : World} {mg mb : Str → Option Value} {hb g : Heap} {A : Around} {s : Shared} {Q : Flow → Shared → Prop} {L : Addr}
theorem law_same (B : Base w mg mb hb) (hbg : Sub hb g) (hh : A.handled = none) (hA : A.depth + 9 < recursionLimit) (hU : A.units + 80 < cLine) (X : (KF w.params).In g) (T : Top vq looseF (ExcName.means hb) mg mb g) {W D3 D Sc : Addr} {vs ys : List Value} {n : Nat} {ws : List Str} (hw : SV ws vs) (hwn : ws.length ≤ 12) {o1 o2 o3 o4 o5 o6 : Obj} {t4 t5 tv : Tok} {size step visits : Nat} (d2 : o2.data = .cell (some (.ref D3)))
    (d4 : o4.data = .cell (some (.int (step : Int) t4))) (d5 : o5.data = .cell (some (.int (size : Int) t5))) (z1 : 5 ≤ size ∧ size ≤ 12) (z2 : 1 ≤ step ∧ step ≤ size) (z3 : 1 ≤ visits ∧ visits ≤ size)
    (hp : ∀ k, k < visits → 0 ≤ (fAt size visits (restsF size step visits) k).1 ∧ (fAt size visits (restsF size step visits) k).1 < size) (hfe : (ws.map fun y => (footN y : Int)) = (fAt size visits (restsF size step visits) visits).2.2) (hy : IntsAre ys (ws.map fun y => (footN y : Int)))
    (F : Fr g L s.heap (mWords W D visits tv Sc)) (N : News g L s.heap ((D3, LCg.lst ys) :: (W, listOf vs.toArray n) :: lawC L o1 o2 o3 o4 o5 o6))
    (fin : ∀ h tk, Fr g L h (mWords W D visits tv Sc) → News g L h ((D3, LCg.lst ys) :: (W, listOf vs.toArray n) :: lawC L o1 o2 o3 o4 o5 o6) → Q .next { s with heap := h, toks := tk }) :
    wpAny (model pw w) A (execs (((fp 72).2.1.drop 9).take 1) (lawE L)) Q (fun _ _ => False) s := by
  have hb1 : ((fp 72).2.1.drop 9).take 1 = ((fp 72).2.1.drop 9).take 1 := rfl
  conv at hb1 => rhs; whnf
  have hb2 : (fp 72).2.2 = (fp 72).2.2 := rfl
  conv at hb2 => rhs; whnf
  unfold lawE
  rw [hb1, hb2]
  simp only [List.take_zero]
  clear hb1 hb2
  k_steps
  show wpAny _ _ (call (.ref 187) _) _ _ _
  rename Fr _ _ _ _ => F1
  rename News _ _ _ _ => N1
  refine c_feet B ?_ ?_ ?_ size step visits _ _ _ z1.1 z1.2 z2.1 z2.2 z3.1 z3.2 hp ?_
  · exact hbOf hbg F1.keep
  · exact (dltz hA : A.depth < recursionLimit)
  · exact hh
  intro h2 tk2 D4 us n2 sub2 l2 e2 hi2
  rw [← hfe] at hi2
  have F2 := F1.keeps sub2
  have N2 := news_fresh F1 N1 sub2 l2 e2
  clear F1 N1
  k_steps
  rename Fr _ _ _ _ => F3
  rename News _ _ _ _ => N3
  exact fin _ _ F3 (fun p hp => N3 p (.tail _ hp))
end
end Mine
end
section
open PySem PySem.W PySem.Calls PyProof.Rows PySem.Spec
set_option maxRecDepth 100000
set_option maxHeartbeats 1000000
namespace Mine
local macro_rules | `(tactic| walk_at "call ref") => `(tactic| (k_here; with_reducible refine Mine.hCall ?_))
local macro_rules | `(tactic| walk_at "eval ListComp") => `(tactic| (k_here; with_reducible refine Mine.hComp ?_))
section
variable {w : World} {mg mb : Str → Option Value} {hb g : Heap} {A : Around} {s : Shared} {Q : Flow → Shared → Prop} {L : Addr}
theorem sv_at {ws : List Str} {vs : List Value} (hw : SV ws vs) {i : Nat} (hi : i < ws.length) {v : Value} (hv : vs.toArray[i]? = some v) : ∃ t, v = .str ws[i] t := by
  obtain ⟨l, rfl, hl⟩ := hw
  subst hl
  have hil : i < l.length := by simpa using hi
  have : (strValues l)[i]? = some (.str l[i].1 l[i].2) := by simp [strValues, List.getElem?_map, List.getElem?_eq_getElem hil]
  have hv' : (strValues l)[i]? = some v := by simpa using hv
  rw [this] at hv'
  cases hv'
  exact ⟨l[i].2, by simp⟩
theorem law_nos (B : Base w mg mb hb) (hbg : Sub hb g) (hh : A.handled = none) (hA : A.depth + 9 < recursionLimit) (hU : A.units + 80 < cLine) (X : (KF w.params).In g) (T : Top vq looseF (ExcName.means hb) mg mb g) {W D3 D Sc : Addr} {vs ys : List Value} {n : Nat} {ws : List Str} (hw : SV ws vs) (hwn : ws.length ≤ 12) {o1 o2 o3 o4 o5 o6 : Obj} {t3 t5 tv : Tok} {size visits base : Nat} (d2 : o2.data = .cell (some (.ref D3)))
    (d3 : o3.data = .cell (some (.int (base : Int) t3))) (d5 : o5.data = .cell (some (.int (size : Int) t5))) (z1 : 5 ≤ size ∧ size ≤ 12) (z5 : 208 ≤ base ∧ base ≤ 257)
    (hok : ∀ y ∈ ws, numOk y) (hnum : ws.map numOf = ((List.range (size - 1)).map fun k => ((base + k : Nat) : Int)) ++ [0])
    (F : Fr g L s.heap (mWords W D visits tv Sc)) (N : News g L s.heap ((D3, LCg.lst ys) :: (W, listOf vs.toArray n) :: lawC L o1 o2 o3 o4 o5 o6))
    (fin : ∀ h tk, Fr g L h (mWords W D visits tv Sc) → News g L h ((D3, LCg.lst ys) :: (W, listOf vs.toArray n) :: lawC L o1 o2 o3 o4 o5 o6) → Q .next { s with heap := h, toks := tk }) :
    wpAny (model pw w) A (execs (((fp 72).2.1.drop 10).take 1) (lawE L)) Q (fun _ _ => False) s := by
  have hb1 : ((fp 72).2.1.drop 10).take 1 = ((fp 72).2.1.drop 10).take 1 := rfl
  conv at hb1 => rhs; whnf
  have hb2 : (fp 72).2.2 = (fp 72).2.2 := rfl
  conv at hb2 => rhs; whnf
  unfold lawE
  rw [hb1, hb2]
  simp only [List.take_zero]
  clear hb1 hb2
  have hlv := hw.length
  k_steps
  refine LCg.ListComp_U (F₀ := F) (by rfl) (by decide) (by rfl) (by decide) (by rfl) ?_
  walk1
  refine LCg.CompSrc.ledger (its := vs.toArray) (k := n) ?_ F N (.tail _ (.head _)) (by rw [sizeLine_eq]; simp; omega) fun g1 => ?_
  · exact hh
  refine restU (fun i us => IntsAre us ((ws.take i).map numOf)) .nil ?_ ?_
  · rintro i us hi' hsv v I oI C oC D' m₂ h tk E' hv NS hm₂ F1 N1 off d
    have hiw : i < ws.length := by rw [← hlv]; simpa using hi'
    obtain ⟨t, rfl⟩ := sv_at hw hiw hv
    have hyo := hok ws[i] (List.getElem_mem hiw)
    have htk : (ws.take (i + 1)).map numOf = (ws.take i).map numOf ++ [numOf ws[i]] := by
      rw [List.take_succ_eq_append_getElem hiw, List.map_append]
      rfl
    generalize ws[i] = x at *
    k_steps
    show wpAny _ _ (call (.ref 170) [.str x _]) _ _ _
    refine c_num B ?_ ?_ ?_ x _ hyo.1 hyo.2.1 hyo.2.2 ?_
    · exact hbOf hbg F1.keep
    · exact (dlt0 hA rfl : A.depth + 5 < recursionLimit)
    · exact hh
    intro h4 tk4 t4 sub4
    have F4 := F1.keeps sub4
    have N4 := N1.grown sub4
    clear F1 N1
    have oo := off.mem
    refine LCg.CompEnd.intro F4 N4 _ (fun p hp => hp) (LCg.Off3.of fun p hp => oo p hp) (.inr ⟨_, .tail _ (.head _), rfl, _, rfl⟩) ⟨?_, rfl⟩
    rw [htk]
    exact ints_app hsv (.cons _ _ .nil)
  · intro us hus D4 h9 tk9 F9 N9 off9
    rw [List.take_of_length_le (by simp only [List.size_toArray]; omega)] at hus
    clear F N
    have hul := IntsAre.length hus
    k_steps
    refine LCg.ListComp_U (F₀ := F9) (by rfl) (by decide) (by rfl) (by decide) (by rfl) ?_
    k_steps
    rename IsRange _ _ _ _ _ _ _ _ => R8
    rename Fr _ _ _ _ => F8
    rename News _ _ _ _ => N8
    have hz : ((size : Int) - 1) = ((size - 1 : Nat) : Int) := by omega
    rw [hz] at R8
    refine LCg.CompSrc.range ?_ F8 N8 R8 (sm_nat (by omega)) (rs_nat _) (by rw [sizeLine_eq]; omega) fun g2 => ?_
    · exact hh
    clear F8 N8 R8
    refine restU (fun i bs => IntsAre bs ((List.range i).map fun k => ((base + k : Nat) : Int))) .nil ?_ ?_
    · rintro i bs hi' hys v I oI C oC D' m₂ h tk E' ⟨t, rfl⟩ NS hm₂ F2 N2 off d
      have hib : (i : Int) < 28 := by omega
      rw [Int.zero_add] at hm₂
      k_steps
      have oo := off.mem
      refine LCg.CompEnd.intro F2 N2 _ (fun p hp => hp) (LCg.Off3.of fun p hp => oo p hp) trivial ⟨?_, rfl⟩
      rw [List.range_succ, List.map_append, ← Int.natCast_add]
      exact ints_app hys (.cons _ _ .nil)
    · intro bs hbs D5 h10 tk10 F10 N10 off10
      have hbl : bs.length = size - 1 := by rw [IntsAre.length hbs]; simp
      obtain ⟨e0, -⟩ := off10
      replace e0 : @Ne Nat D4 D5 := e0
      rw [hnum] at hus
      k_steps
      rename Fr _ _ _ _ => F11
      rename News _ _ _ _ => N11
      exact fin _ _ F11 (fun p hp => N11 p (.tail _ (.tail _ (.tail _ (.tail _ hp)))))
end
end Mine
end
section
open PySem PySem.W PySem.Calls PyProof.Rows PySem.Spec
set_option maxRecDepth 100000
set_option maxHeartbeats 1000000
namespace Mine
local macro_rules | `(tactic| walk_at "call ref") => `(tactic| (k_here; with_reducible refine Mine.hCall ?_))
local macro_rules | `(tactic| walk_at "eval ListComp") => `(tactic| (k_here; with_reducible refine Mine.hComp ?_))
noncomputable def stopsOf (fs : List Int) (n : Nat) : List Int := ((List.range n).filter fun k => decide (0 < fs.getD k 0)).map fun (k : Nat) => (k : Int)
theorem stopsOf_succ (fs : List Int) (i : Nat) : stopsOf fs (i + 1) = if 0 < fs.getD i 0 then stopsOf fs i ++ [(i : Int)] else stopsOf fs i := by
  unfold stopsOf
  rw [List.range_succ, List.filter_append, List.map_append, List.filter_cons]
  by_cases h : 0 < fs.getD i 0
  · rw [if_pos h, if_pos (decide_eq_true h)]; rfl
  · rw [if_neg h, if_neg (by simpa using h)]; simp
section
variable {w : World} {mg mb : Str → Option Value} {hb g : Heap} {A : Around} {s : Shared} {Q : Flow → Shared → Prop} {L : Addr}
theorem law_stops (hh : A.handled = none) (X : (KF w.params).In g) (T : Top vq looseF (ExcName.means hb) mg mb g) {D3 : Addr} {ys : List Value} {fs : List Int} {o1 o2 o3 o4 o5 o6 : Obj} {t5 : Tok} {size : Nat} (d1 : o1.data = .cell none) (d2 : o2.data = .cell (some (.ref D3)))
    (d5 : o5.data = .cell (some (.int (size : Int) t5))) (z1 : 5 ≤ size ∧ size ≤ 12) (hy : IntsAre ys fs) (hfl : fs.length = size) (hD : Off6 L D3) {W D Sc : Addr} {visits : Nat} {tv : Tok}
    (F : Fr g L s.heap (mWords W D visits tv Sc)) (N : News g L s.heap ((D3, LCg.lst ys) :: lawC L o1 o2 o3 o4 o5 o6))
    (fin : ∀ h tk D5 us n o1', Fr g L h (mWords W D visits tv Sc) → News g L h ((D5, listOf us.toArray n) :: lawC L o1' o2 o3 o4 o5 o6) → IntsAre us (stopsOf fs size ++ [(size : Int)]) → o1'.data = .cell (some (.ref D5)) → Off6 L D5 → Q .next { s with heap := h, toks := tk }) :
    wpAny (model pw w) A (execs (((fp 72).2.1.drop 11).take 1) (lawE L)) Q (fun _ _ => False) s := by
  have hb1 : ((fp 72).2.1.drop 11).take 1 = ((fp 72).2.1.drop 11).take 1 := rfl
  conv at hb1 => rhs; whnf
  have hb2 : (fp 72).2.2 = (fp 72).2.2 := rfl
  conv at hb2 => rhs; whnf
  unfold lawE
  rw [hb1, hb2]
  simp only [List.take_zero]
  clear hb1 hb2
  have hyl := IntsAre.length hy
  obtain ⟨e1, e2, e3, e4, e5, e6⟩ := hD
  k_steps
  refine LCt.ListComp_T (F₀ := F) (by rfl) (by decide) (by rfl) (by decide) (by rfl) ?_
  k_steps
  rename IsRange _ _ _ _ _ _ _ _ => R8
  rename Fr _ _ _ _ => F8
  rename News _ _ _ _ => N8
  refine LCt.CompSrcT.range ?_ F8 N8 R8 (sm_nat (by omega)) (rs_nat _) (by rw [sizeLine_eq]; omega) fun g2 => ?_
  · exact hh
  clear F8 N8 R8
  refine restT (fun i bs => IntsAre bs (stopsOf fs i)) IntsAre.nil ?_ ?_
  · rintro i bs hi' hys v I oI C oC D' m₂ h tk E' ⟨t, rfl⟩ NS hm₂ F2 N2 off d
    have hib : (i : Int) < 28 := by omega
    rw [Int.zero_add] at hm₂
    have hit : (i : Int).toNat = i := by omega
    have hsu := stopsOf_succ fs i
    have oo := off.mem
    k_steps
    · rename 0 < fs.getD _ 0 => hc
      rw [hit] at hc
      refine LCg.CompEnd.intro (by assumption) (by assumption) _ (fun p hp => hp) (LCg.Off3.of fun p hp => oo p hp) trivial ⟨?_, rfl⟩
      rw [hsu, if_pos hc]
      exact ints_app hys (.cons _ _ .nil)
    · rename ¬ 0 < fs.getD _ 0 => hc
      rw [hit] at hc
      refine LCg.CompEnd.intro (by assumption) (by assumption) _ (fun p hp => hp) (LCg.Off3.of fun p hp => oo p hp) trivial ⟨?_, rfl⟩
      rw [hsu, if_neg hc]
      exact hys
  · intro bs hbs D5 h10 tk10 F10 N10 off10
    obtain ⟨f0, f1, f2, f3, f4, f5, f6, -⟩ := off10
    replace f0 : @Ne Nat D3 D5 := f0
    replace f1 : @Ne Nat (L + 1 + 1 + 1 + 1 + 1 + 1) D5 := f1
    replace f2 : @Ne Nat (L + 1 + 1 + 1 + 1 + 1) D5 := f2
    replace f3 : @Ne Nat (L + 1 + 1 + 1 + 1) D5 := f3
    replace f4 : @Ne Nat (L + 1 + 1 + 1) D5 := f4
    replace f5 : @Ne Nat (L + 1 + 1) D5 := f5
    replace f6 : @Ne Nat (L + 1) D5 := f6
    have hbl := IntsAre.length hbs
    have hbl2 : bs.length ≤ 12 := by
      rw [hbl]
      unfold stopsOf
      rw [List.length_map]
      exact Nat.le_trans (List.length_filter_le _ _) (by rw [List.length_range]; omega)
    k_steps
    rename Fr _ _ _ _ => F11
    rename News _ _ _ _ => N11
    rename Obj.data _ = Data.cell (some _) => d11
    rename _ < _ ∧ _ => l10
    rename IntsAre _ (stopsOf fs size ++ _) => hi11
    obtain ⟨-, -, -, g1, g2, g3, g4, g5, g6⟩ := l10
    refine fin _ _ _ _ 0 _ F11 (fun p hp => N11 p ?_) hi11 d11 ⟨Nat.ne_of_lt g1, Nat.ne_of_lt g2, Nat.ne_of_lt g3, Nat.ne_of_lt g4, Nat.ne_of_lt g5, Nat.ne_of_lt g6⟩
    rcases hp with _ | ⟨_, hp⟩
    · exact .head _
    · exact .tail _ (.tail _ (.tail _ (.tail _ hp)))
end
end Mine
end
section
open PySem PySem.W PySem.Calls PyProof.Rows PySem.Spec
set_option maxRecDepth 100000
set_option maxHeartbeats 1000000
namespace Mine
local macro_rules | `(tactic| walk_at "call ref") => `(tactic| (k_here; with_reducible refine Mine.hCall ?_))
local macro_rules | `(tactic| walk_at "eval ListComp") => `(tactic| (k_here; with_reducible refine Mine.hComp ?_))
noncomputable def gapsOf (st : List Int) (n : Nat) : List Int := (List.range n).map fun (m : Nat) => st.getD (m + 1) 0 - st.getD m 0
structure ThreeOk (b : Bool) (ns z : List Int) (ks : List Str) : Prop where
  len : ns.length ≤ 60
  good : setGood b ns
  pl : (tabL b (fmet ns ns.length)).plain = true
  led : (tabL b (fmet ns ns.length)).led = b
  en : enumT (tabL b (fmet ns ns.length)) (fmet ns ns.length).length = true
  srt : ∀ ms : List Int, ms.Pairwise (· ≤ ·) → ms.length = (fmet ns ns.length).length → (∀ k, k ∈ ms ↔ (fmet ns ns.length).any (· == k) = true) → ms = z.reverse
  few : (fmet ns ns.length).length ≤ 12
  bnd : ∀ a ∈ z, 0 ≤ a ∧ a ≤ 12
  txt : z.map rep = ks
  tt : ThreeTxt ks
section
variable {w : World} {mg mb : Str → Option Value} {hb g : Heap} {A : Around} {s : Shared} {Q : Flow → Shared → Prop} {L : Addr}
theorem law_gaps (B : Base w mg mb hb) (hbg : Sub hb g) (hh : A.handled = none) (hA : A.depth + 9 < recursionLimit) (hU : A.units + 80 < cLine) (X : (KF w.params).In g) (T : Top vq looseF (ExcName.means hb) mg mb g) {D5 : Addr} {us : List Value} {st : List Int} {n : Nat} {o1 o2 o3 o4 o5 o6 : Obj} (d1 : o1.data = .cell (some (.ref D5))) (hu : IntsAre us st) (hD : Off6 L D5)
    {W D Sc : Addr} {visits : Nat} {tv : Tok} (hvis : 1 ≤ visits ∧ visits ≤ 12) (hst : st.length = visits + 1) {z : List Int} {ks : List Str} (ok : ThreeOk (ledP w) (gapsOf st visits) z ks)
    (F : Fr g L s.heap (mWords W D visits tv Sc)) (N : News g L s.heap ((D5, listOf us.toArray n) :: lawC L o1 o2 o3 o4 o5 o6))
    (ret : ∀ h tk G, (∀ b o, g.get? b = some o → h.get? b = some o) → (AllBare s.gens → AllBare G) → Q (.ret (.bool true)) { s with heap := h, toks := tk, gens := G }) :
    wpAny (model pw w) A (execs ((fp 72).2.1.drop 12) (lawE L)) Q (fun _ _ => False) s := by
  have hb1 : (fp 72).2.1.drop 12 = (fp 72).2.1.drop 12 := rfl
  conv at hb1 => rhs; whnf
  have hb2 : (fp 72).2.2 = (fp 72).2.2 := rfl
  conv at hb2 => rhs; whnf
  unfold lawE
  rw [hb1, hb2]
  clear hb1 hb2
  have hul := IntsAre.length hu
  obtain ⟨e1, e2, e3, e4, e5, e6⟩ := hD
  k_steps
  refine LCg.ListComp_U (F₀ := F) (by rfl) (by decide) (by rfl) (by decide) (by rfl) ?_
  k_steps
  rename IsRange _ _ _ _ _ _ _ _ => R8
  rename Fr _ _ _ _ => F8
  rename News _ _ _ _ => N8
  refine LCg.CompSrc.range ?_ F8 N8 R8 (sm_nat (by omega)) (rs_nat _) (by rw [sizeLine_eq]; omega) fun g2 => ?_
  · exact hh
  clear F8 N8 R8
  refine restU (fun i bs => IntsAre bs (gapsOf st i)) IntsAre.nil ?_ ?_
  · rintro i bs hi' hys v I oI C oC D' m₂ h tk E' ⟨t, rfl⟩ NS hm₂ F2 N2 off d
    have hib : (i : Int) < 28 := by omega
    have hit : (i : Int).toNat = i := by omega
    have hit1 : ((i : Int) + 1).toNat = i + 1 := by omega
    have htk : gapsOf st (i + 1) = gapsOf st i ++ [st.getD (i + 1) 0 - st.getD i 0] := by
      unfold gapsOf
      rw [List.range_succ, List.map_append]
      rfl
    rw [Int.zero_add] at hm₂
    have oo := off.mem
    k_steps
    rw [hit, hit1]
    refine LCg.CompEnd.intro F2 N2 _ (fun p hp => hp) (LCg.Off3.of fun p hp => oo p hp) trivial ⟨?_, rfl⟩
    rw [htk]
    exact ints_app hys (.cons _ _ .nil)
  · intro bs hbs D6 h10 tk10 F10 N10 off10
    k_steps
    show wpAny _ _ (call (.ref 192) [.ref D6]) _ _ _
    have nb : ∀ a, g.get? a = none → hb.get? a = none := fun a ha => by
      cases q : hb.get? a with
      | none => rfl
      | some o => rw [hbg a o q] at ha; cases ha
    have y := N10 (D6, _) (.head _)
    refine c_three B ?_ ?_ ?_ ?_ y.1 (nb _ y.2.2) hbs ok.len ok.good ok.pl ok.led ok.en ok.srt ok.few ok.bnd ok.txt ok.tt ?_
    · exact hbOf hbg F10.keep
    · exact (dlt0 hA rfl : A.depth + 9 < recursionLimit)
    · exact hh
    · exact (dlt0 hU rfl : A.units + 80 < cLine)
    intro h11 tk11 G11 hk11 ab11
    k_steps
    refine ret _ _ _ (fun b o e => hk11 b o (fun q => ?_) (F10.keep b o e)) ab11
    rw [q, y.2.2] at e
    cases e
end
end Mine
end
section
open PySem PySem.W PySem.Calls PyProof.Rows PySem.Spec
set_option maxRecDepth 100000
set_option maxHeartbeats 1000000
namespace Mine
inductive LawMore (b : Bool) (rs : List Int) (size step visits base : Nat) : Prop
  | mk (xs : List Str) (c : Nat) (z : List Int) (ks : List Str) (a1 : Lx (joinedS (cardsL rs base (size - 1))).cps.toList xs) (a2 : xs.length = size) (a3 : xs.length ≤ (joinedS (cardsL rs base (size - 1))).length + 1)
    (a4 : (c : Int) = (-(visits : Int) * step).fmod size) (a5 : ∀ k, k < visits → ∀ y ∈ visN (rs.getD 26 0).toNat step k xs, y.cps.size < 1000)
    (a6 : (rotN c (visN (rs.getD 26 0).toNat step visits xs)).length = size) (a7 : ∀ y ∈ rotN c (visN (rs.getD 26 0).toNat step visits xs), numOk y)
    (a8 : ((rotN c (visN (rs.getD 26 0).toNat step visits xs)).map fun y => (footN y : Int)) = (fAt size visits (restsF size step visits) visits).2.2)
    (a9 : (rotN c (visN (rs.getD 26 0).toNat step visits xs)).map numOf = ((List.range (size - 1)).map fun k => ((base + k : Nat) : Int)) ++ [0])
    (a10 : (stopsOf (fAt size visits (restsF size step visits) visits).2.2 size ++ [(size : Int)]).length = visits + 1)
    (a11 : ThreeOk b (gapsOf (stopsOf (fAt size visits (restsF size step visits) visits).2.2 size ++ [(size : Int)]) visits) z ks) : LawMore b rs size step visits base
structure LawOk (b : Bool) (rs : List Int) (size step visits base : Nat) : Prop where
  vis : visits ≤ size
  joinOk : JoinOk (Str.ofString "") (cardsL rs base (size - 1)) = true
  joinLen : (Txt.join (Str.ofString "") (cardsL rs base (size - 1))).length ≤ 900
  lenJ : (joinedS (cardsL rs base (size - 1))).cps.size < 1000
  more : LawMore b rs size step visits base
  hp : ∀ k, k < visits → 0 ≤ (fAt size visits (restsF size step visits) k).1 ∧ (fAt size visits (restsF size step visits) k).1 < size
theorem law_cut : (fp 72).2.1 = (fp 72).2.1.take 2 ++ ((((fp 72).2.1.drop 2).take 4) ++ ((((fp 72).2.1.drop 6).take 1) ++ ((((fp 72).2.1.drop 7).take 1) ++ ((((fp 72).2.1.drop 8).take 1) ++ ((((fp 72).2.1.drop 9).take 1) ++ ((((fp 72).2.1.drop 10).take 1) ++ ((((fp 72).2.1.drop 11).take 1) ++ (fp 72).2.1.drop 12))))))) := by
  rfl
section
variable {w : World} {A : Around} {s : Shared} {Q : Flow → Shared → Prop} {E : Value → Shared → Prop} {env : Env}
theorem execs_app_wp {Γ : PySem.Ctx} {b : List Stmt} {Q' : Flow → Pos → Shared → Prop} {E' : Value → Pos → Shared → Prop} : ∀ (a : List Stmt) (p : Pos) (s : Shared),
    Sem.wp (model pw w) Γ (execs a env) (fun f p' s' => match f with | .next => Sem.wp (model pw w) Γ (execs b env) Q' E' p' s' | f => Q' f p' s') E' p s → Sem.wp (model pw w) Γ (execs (a ++ b) env) Q' E' p s
  | [], _, _, h => h
  | st :: a, p, s, h => by
    rw [List.cons_append, execs_cons, Sem.wp_bind']
    rw [execs_cons, Sem.wp_bind'] at h
    refine Sem.wp_mono (model pw w) Γ _ (fun f p' s' h' => ?_) (fun _ _ _ h' => h') _ _ h
    cases f with
    | next => exact execs_app_wp a p' s' h'
    | ret v => exact h'
    | brk => exact h'
    | cont => exact h'
theorem execs_app {a b : List Stmt} (h : wpAny (model pw w) A (execs a env) (fun f s' => match f with | .next => wpAny (model pw w) A (execs b env) Q E s' | f => Q f s') E s) : wpAny (model pw w) A (execs (a ++ b) env) Q E s := fun Γ p hΓ => by
  refine execs_app_wp a p s ?_
  refine Sem.wp_mono (model pw w) Γ _ (fun f p' s' h' => ?_) (fun _ _ _ h' => h') _ _ (h Γ p hΓ)
  cases f with
  | next => exact h' Γ p' hΓ
  | ret v => exact h'
  | brk => exact h'
  | cont => exact h'
end
theorem row1_get (ns : List Int) : ∀ x ∈ row1 ns, 0 ≤ x ∧ x < 5184 := by
  intro x hx
  obtain ⟨y, _, rfl⟩ := List.mem_map.mp hx
  exact fm_b y 5184 (by decide)
theorem row2_get (n : Nat) (h : n ≤ 27) : ∀ x ∈ row2 n, 0 ≤ x ∧ x < 5184 := by
  intro x hx
  obtain ⟨y, hy, rfl⟩ := List.mem_map.mp hx
  have := List.mem_range.mp hy
  omega
theorem rowOk_rowL (ns : List Int) : RowOk (rowL ns) := by
  have l1 : (row1 ns).length ≤ 27 := by unfold row1; rw [List.length_map, List.length_take]; omega
  refine ⟨?_, fun i => ?_⟩
  · unfold rowL
    rw [List.length_append]
    have : (row2 (row1 ns).length).length = 27 - (row1 ns).length := by unfold row2; simp
    omega
  · by_cases hi : i < (rowL ns).length
    · have e : (rowL ns).getD i 0 = (rowL ns)[i] := by rw [List.getD_eq_getElem?_getD, List.getElem?_eq_getElem hi]; rfl
      rw [e]
      rcases List.mem_append.mp (show (rowL ns)[i] ∈ row1 ns ++ row2 (row1 ns).length from List.getElem_mem hi) with q | q
      · exact row1_get ns _ q
      · exact row2_get _ l1 _ q
    · have e : (rowL ns).getD i 0 = 0 := by rw [List.getD_eq_getElem?_getD, List.getElem?_eq_none (by omega)]; rfl
      rw [e]; decide
section
variable {w : World} {mg mb : Str → Option Value} {hb : Heap} {A : Around} {s : Shared} {Q E : Value → Shared → Prop}
theorem c_law (B : Base w mg mb hb) (hs : Sub hb s.heap) (h172 : s.heap.get? 172 = some (tabObj #[])) (n172 : hb.get? 172 = none) (hA : A.depth + 10 < recursionLimit) (hh : A.handled = none) (hU : A.units + 90 < cLine) {Sc : Addr} {vs : List Value} {ns : List Int} (hSc : hb.IsList Sc vs.toArray) (hi : IntsAre vs ns) (hlen : ns.length ≤ 63)
    (hpure : ∀ rs size step visits base, RowOk rs → (5 ≤ size ∧ size ≤ 12) → (1 ≤ step ∧ step ≤ size) → 1 ≤ visits → visits ≤ perN size step → (208 ≤ base ∧ base ≤ 257) → LawOk (ledP w) rs size step visits base)
    (ret : ∀ h tk G, (∀ b o, b ≠ 172 → s.heap.get? b = some o → h.get? b = some o) → (∃ ps, h.get? 172 = some (tabObj ps)) → (AllBare s.gens → AllBare G) → Q (.bool true) { s with heap := h, toks := tk, gens := G }) :
    wpAny (model pw w) A (call (.ref 197) [.ref Sc]) Q E s := by
  refine enterGC B hs [(172, tabObj #[])] (fun p hp => by rw [List.mem_singleton.mp hp]; exact ⟨h172, n172⟩) (f := 197) (name := "law") (qual := "law") (binds := [("script", .ref Sc)]) (by k_is) (by k_is) (by omega) ?_ ?_ ?_ ?_ ?_ ?_ ?_
  · exact BindsTo.of_eq rfl
  · exact rfl
  · decide +kernel
  · intro g L h₁ tk cells hg hg' hL F0 N0 Y X T hbg hlt
    obtain ⟨o1, c1, rfl, d1, Y⟩ := cells_cons Y
    obtain ⟨o2, c2, rfl, d2, Y⟩ := cells_cons Y
    obtain ⟨o3, c3, rfl, d3, Y⟩ := cells_cons Y
    obtain ⟨o4, c4, rfl, d4, Y⟩ := cells_cons Y
    obtain ⟨o5, c5, rfl, d5, Y⟩ := cells_cons Y
    obtain ⟨o6, c6, rfl, d6, Y⟩ := cells_cons Y
    cases Y
    replace F0 : Fr g L h₁ (fun y => if y = Str.ofString "script" then some (.ref Sc) else none) := F0
    replace d1 : o1.data = .cell none := d1
    replace d2 : o2.data = .cell none := d2
    replace d3 : o3.data = .cell none := d3
    replace d4 : o4.data = .cell none := d4
    replace d5 : o5.data = .cell none := d5
    replace d6 : o6.data = .cell none := d6
    replace N0 : News g L h₁ (lawN L o1 o2 o3 o4 o5 o6) := N0
    have h172L : @LT.lt Nat _ 172 L := hlt _ (.head _)
    have hSc' : g.IsList Sc vs.toArray := by obtain ⟨o, e, r⟩ := hSc; exact ⟨o, hbg _ _ e, r⟩
    have hro := rowOk_rowL ns
    generalize hrs : rowL ns = rs at hro
    have hdep : (A.deeper (lawE L)).depth + 9 < recursionLimit := (dlt1 hA rfl : A.depth + 1 + 9 < recursionLimit)
    have hun : (A.deeper (lawE L)).units + 80 < cLine := by simp only [units_deeper]; omega
    have hhd : (A.deeper (lawE L)).handled = none := hh
    show wpAny (model pw w) (A.deeper (lawE L)) (execs (fp 72).2.1 (lawE L)) _ _ _
    generalize A.deeper (lawE L) = A' at hdep hun hhd
    rw [law_cut]
    refine execs_app (law_row hhd X T hSc' hi hlen d6 h172L F0 N0 ?_)
    intro h2 tk2 R us n o6' F1 N1 d6' hi1 hR
    rw [hrs] at hi1
    clear F0 N0
    show wpAny _ _ _ _ _ _
    refine execs_app (law_nums hhd X T hro hi1 d3 d4 d5 d6' h172L hR F1 ?_ N1)
    intro h3 tk3 size step visits base tv t3 t4 t5 o3' o4' o5' F2 N2 e3 e4 e5 hsz hst hv1 hv2 hbs
    clear F1 N1
    have ok := hpure rs size step visits base hro hsz hst hv1 hv2 hbs
    obtain ⟨xs, c, z, ks, hlx, hxs, hxt, hc, hbd, hwl, hwok, hft, hnum, hstl, h3ok⟩ := ok.more
    generalize hx : (rs.getD 26 0).toNat = x at *
    generalize hW : rotN c (visN x step visits xs) = ws at *
    have hR' : ∀ p ∈ lawN L o1 o2 o3' o4' o5' o6', @Ne Nat p.1 R := by
      intro p hp
      simp only [lawN, List.mem_cons, List.not_mem_nil, or_false] at hp
      rcases hp with rfl | rfl | rfl | rfl | rfl | rfl | rfl
      · exact hR _ (.head _)
      · exact hR _ (.tail _ (.head _))
      · exact hR (L + 1 + 1 + 1 + 1, o3) (.tail _ (.tail _ (.head _)))
      · exact hR (L + 1 + 1 + 1, o4) (.tail _ (.tail _ (.tail _ (.head _))))
      · exact hR (L + 1 + 1, o5) (.tail _ (.tail _ (.tail _ (.tail _ (.head _)))))
      · exact hR (L + 1, o6') (.tail _ (.tail _ (.tail _ (.tail _ (.tail _ (.head _))))))
      · exact hR _ (.tail _ (.tail _ (.tail _ (.tail _ (.tail _ (.tail _ (.head _)))))))
    show wpAny _ _ _ _ _ _
    refine execs_app (law_cards B hbg hhd hdep X T hro hi1 d6' h172L hR' e3 e5 hsz hbs F2 N2 ?_)
    intro h4 tk4 D ys F3 N3 hys hD
    clear F2 N2
    show wpAny _ _ _ _ _ _
    refine execs_app (law_words B hbg n172 hhd hdep X T hro hi1 d6' h172L hD hR' e4 e5 hsz hst ⟨hv1, ok.vis⟩ hys ok.joinOk ok.joinLen ok.lenJ hlx hxs hxt hx.symm hc hbd F3 N3 ?_)
    intro h5 tk5 W vs5 n5 ps F4 N4 hws hoW
    rw [hW] at hws
    clear F3 N3
    have up : ∀ b, b ≠ 172 → (s.heap.update 172 fun _ => tabObj ps).get? b = s.heap.get? b := fun b hb => Heap.get?_update_other _ _ (Ne.symm hb)
    have us : (s.heap.update 172 fun _ => tabObj ps).get? 172 = some (tabObj ps) := Heap.get?_update_self _ h172 rfl
    have usz : (s.heap.update 172 fun _ => tabObj ps).objs.size = L := by rw [hL]; exact Heap.size_update _ _ _
    generalize (s.heap.update 172 fun _ => tabObj ps) = g2 at up us usz
    have st : Sub hb g2 := fun b o e => (up b (fun q => by rw [q, n172] at e; cases e)).trans (hs b o e)
    have z172 := N4 (172, tabObj ps) (by simp)
    have kp : ∀ b o, g2.get? b = some o → h5.get? b = some o := fun b o e => by
      by_cases hb172 : b = 172
      · rw [hb172, us] at e; cases e; rw [hb172]; exact z172.1
      · exact F4.keep b o (hg b o ((up b hb172).symm.trans e) (by simpa using hb172))
    have gn : ∀ b, g.get? b = none → @Ne Nat b 172 → g2.get? b = none := fun b hb hne => by
      rw [up b hne]
      cases q : s.heap.get? b with
      | none => rfl
      | some o => have := hg b o q (by simpa using hne); rw [hb] at this; cases this
    have F4' : Fr g2 L h5 _ := ⟨F4.ns, kp, Nat.le_of_eq usz⟩
    have N4' : News g2 L h5 ((W, listOf vs5.toArray n5) :: lawC L o1 o2 o3' o4' o5' o6') := by
      intro p hp
      have z := N4 p (List.mem_append_left [(172, tabObj ps)] hp)
      refine ⟨z.1, z.2.1, gn _ z.2.2 ?_⟩
      simp only [List.mem_cons, List.not_mem_nil, or_false] at hp
      rcases hp with rfl | rfl | rfl | rfl | rfl | rfl | rfl
      · intro q
        have q' : W = 172 := q
        have e := z.1
        rw [show (W, listOf vs5.toArray n5).1 = 172 from q', z172.1] at e
        cases e
      all_goals
        dsimp only
        show @Ne Nat _ _
        omega
    have X2 : (KF w.params).In g2 := B.K.keeps st
    have T2 := B.T.keeps st
    clear F4 N4
    show wpAny _ _ _ _ _ _
    refine execs_app (law_feet B st hhd hdep X2 T2 hws (fun y hy => Nat.le_trans (hwok y hy).1 (by decide)) (by omega) d2 hoW rfl rfl F4' N4' ?_)
    intro h6 tk6 D3 ys6 o2' F5 N5 e2 hi6 hoff6 hWD
    clear F4' N4'
    show wpAny _ _ _ _ _ _
    refine execs_app (law_same B st hhd hdep hun X2 T2 hws (by omega) e2 e4 e5 hsz hst ⟨hv1, ok.vis⟩ ok.hp hft hi6 F5 N5 ?_)
    intro h7 tk7 F6 N6
    clear F5 N5
    show wpAny _ _ _ _ _ _
    refine execs_app (law_nos B st hhd hdep hun X2 T2 hws (by omega) e2 e3 e5 hsz hbs hwok hnum F6 N6 ?_)
    intro h8 tk8 F7 N7
    clear F6 N6
    show wpAny _ _ _ _ _ _
    have N7' : News g2 L h8 ((D3, LCg.lst ys6) :: lawC L o1 o2' o3' o4' o5' o6') := fun p hp => by
      rcases List.mem_cons.mp hp with rfl | hp
      · exact N7 _ (.head _)
      · exact N7 _ (.tail _ (.tail _ hp))
    rw [hft] at hi6
    refine execs_app (law_stops hhd X2 T2 d1 e2 e5 hsz hi6 (by rw [← hft, List.length_map]; exact hwl) hoff6 F7 N7' ?_)
    intro h9 tk9 D5 us9 n9 o1' F8 N8 hi9 e1 hoff9
    clear F7 N7 N7'
    show wpAny _ _ _ _ _ _
    refine law_gaps B st hhd hdep hun X2 T2 e1 hi9 hoff9 ⟨hv1, by have := ok.vis; omega⟩ hstl h3ok F8 N8 ?_
    intro h10 tk10 G10 hk10 hab
    refine ret _ _ _ (fun b o hb e => hk10 b o ((up b hb).trans e)) ⟨ps, hk10 172 _ us⟩ hab
  · rfl
  · rfl
  · rfl
end
end Mine
end
section
open PySem PySem.W PySem.Calls PyProof.Rows
set_option maxRecDepth 100000
namespace Mine
theorem open0 : ∀ w : World, (fencedOpening treeTable pw w 20000).map (fun s => (s.heap, s.gens, s.drawn, s.toks)) = some (boot_heap w.params, #[], boot_drawn, boot_toks) :=
  boot_open (by kernel_rfl) (by decide) (fun s => by kernel_rfl)
theorem size0 (w : World) : ((boot_heap w.params).isNs mainGlobals && (#[] : Array GenState).size == 0, (boot_heap w.params).objs.size, (boot_heap w.params).nsMap mainGlobals "__annotations__") = (true, 11, ann0) := by kernel_rfl
theorem pre0 (w : World) (os : OsState) : topGo treeTable pw w 11 ann0 12 ⟨boot_heap w.params, #[], boot_drawn, boot_toks, os⟩ (topStub pw) = some ((S_pre w os).abs, ⟨denote treeTable cE, cE, q0, [topFrame q0]⟩) := by kernel_rfl
theorem block0 (w : World) (os : OsState) : segRun treeTable pw w 11 ann0 1 1 (S_pre w os).abs (blockOf bd cenv cE q0 [topFrame q0]) = some (.next, (S_block w os).abs, cE, q0) := by kernel_rfl
theorem fin0 (w : World) (os : OsState) : topRun treeTable pw w 11 ann0 2 (S_p72 w os).abs ⟨doneF .next, cE, ⟨233, 0, 248, 71⟩, [topFrame q0]⟩ = some (S_p72 w os).abs := by kernel_rfl
theorem body0 : bd = sts 0 4 ++ (sts 4 5 ++ (sts 9 1 ++ (sts 10 1 ++ (sts 11 1 ++ (sts 12 51 ++ (sts 63 1 ++ (sts 64 9 ++ []))))))) := by kernel_rfl
theorem g2w (w : World) (os : OsState) : segRunT treeTable pw w 11 ann0 1 999 (S_p8 w os) (piecesOf (sts 9 1) cenv cE ⟨94, 0, 94, 8⟩ [topFrame q0]) = some (.next, S_p9 w os, cE, ⟨95, 0, 95, 6⟩) := by
  have h := g2 (w.params.followText "special-get-raises") (w.params.followText "set-order") w os
  rw [World.withFollow_self, World.withFollow_self] at h
  exact h
theorem g6w (w : World) (os : OsState) : segRunT treeTable pw w 11 ann0 1 979 (S_p62 w os) (piecesOf (sts 63 1) cenv cE ⟨153, 0, 153, 11⟩ [topFrame q0]) = some (.next, S_p63 w os, cE, ⟨154, 0, 154, 17⟩) := by
  have h := g6 (w.params.followText "special-get-raises") w os
  rw [World.withFollow_self] at h
  exact h
noncomputable def M0 : Nat := 12 + (1 + (351 + (138 + (999 + (30 + (12765 + (20 + (481 + (979 + (240 + 2))))))))))
theorem run0 (w : World) (os : OsState) : topRun treeTable pw w 11 ann0 M0 ⟨boot_heap w.params, #[], boot_drawn, boot_toks, os⟩ (topStub pw) = some (S_p72 w os).abs := by
  unfold M0
  refine go_top (pre0 w os) ?_
  refine piece_block (block0 w os) ?_
  rw [body0]
  refine piece_app (segRun_of (g0 w os)) ?_
  refine piece_app (segRun_of (g1 w os)) ?_
  refine piece_app (segRun_of (g2w w os)) ?_
  refine piece_app (segRun_of (g3 w os)) ?_
  refine b3_run ?_
  refine piece_app (segRun_of (g5 w os)) ?_
  refine piece_app (segRun_of (g6w w os)) ?_
  refine piece_app (segRun_of (g7 w os)) ?_
  exact piece_nil (fin0 w os)
end Mine
end
section
open PySem PySem.W PySem.Calls PyProof.Rows
set_option maxRecDepth 100000
namespace Mine
noncomputable def H1 (P : Params) : Heap := absHeap (T_p72 P) 198 {}
noncomputable abbrev XtF : Shared → Bool := fun s => xlAt vq [] s && recOk [] s
theorem look1 (w : World) (os : OsState) : (staticsOk (importedModules pw.main.body) (boot_heap w.params) (H1 w.params) && namesBound pw (H1 w.params) && gensDone ⟨H1 w.params, #[], {}, 2582, os⟩ && laidKept (boot_heap w.params) (H1 w.params)) = true := by kernel_rfl
theorem look3h (w : World) (os : OsState) : hk.obs ⟨H1 w.params, #[], {}, 2582, os⟩ = hk.val w := by kernel_rfl
theorem look2 (w : World) (os : OsState) : openSeen vq looseF (importedModules pw.main.body) XtF true ⟨H1 w.params, #[], {}, 2582, os⟩ = openGood vq looseF := by kernel_rfl
end Mine
end
section
open PySem PySem.W PySem.Calls PyProof.Rows
set_option maxRecDepth 100000
set_option maxHeartbeats 0
namespace Mine
abbrev rwL := PySem.Challenge.rw_sn0082_01
theorem look_a : sreFenced pw.main = true := by decide +kernel
theorem look_b : ((moduleNames pw.main.body).isEmpty || lookedIntoSs (moduleNames pw.main.body) pw.main.body) = true := by decide +kernel
theorem look_c : namesResolve pw = true := by decide +kernel
theorem look_d : pw.boundNames.all (fun n => !worldNames.contains n) = true := by decide +kernel
theorem ro1 : readsOut pw pw.main.body "vars" = false := by decide +kernel
theorem ro2 : readsOut pw pw.main.body "dir" = false := by decide +kernel
theorem ro3 : readsOut pw pw.main.body "locals" = false := by decide +kernel
theorem bare0 : (["vars", "dir", "locals"] : List Str).filter (readsOut pw pw.main.body) = [] := by
  rw [List.filter_cons, ro1, List.filter_cons, ro2, List.filter_cons, ro3]; rfl
theorem look_e0 : noRoadLSs { strict := !(importedModules pw.main.body).all cThrough.contains, foot := none, bare := [] } pw.main.body = true := by decide +kernel
theorem look_e : noRoadLSs { strict := !(importedModules pw.main.body).all cThrough.contains, foot := none, bare := (["vars", "dir", "locals"] : List Str).filter (readsOut pw pw.main.body) } pw.main.body = true := by
  rw [bare0]; exact look_e0
theorem look_f : (namesMeet pw pw.main.body fun _ n => attrL n) = true := by decide +kernel
theorem looks0 : looksOpen pw = true := look_both (look_both (look_both (look_both (look_both look_a look_b) look_c) look_d) look_e) look_f
theorem part0 : rwL.row.partSaid = true := by
  unfold OpenRow.partSaid
  refine look_both (look_both (look_both (look_both (look_both (look_both (look_both (look_both (look_both (look_both (look_both (look_both (look_both ?_ ?_) ?_) ?_) ?_) ?_) ?_) ?_) ?_) ?_) ?_) ?_) ?_) ?_
  · exact looks0
  all_goals decide +kernel
theorem well0 : rwL.wellSaid = true := by
  have h : rwL.row.wellSaid = true := by
    unfold OpenRow.wellSaid
    refine look_both (look_both part0 ?_) ?_
    all_goals decide +kernel
  unfold OpenLaw.wellSaid
  repeat (with_reducible refine look_both ?_ ?_)
  exact h
  all_goals decide +kernel
end Mine
end
section
open PySem PySem.W PySem.Calls PyProof.Rows
set_option maxRecDepth 100000
namespace Mine
theorem left0 : LeftO pw vq looseF XtF hk.obs hk.val 20000 true :=
  LeftO.of_pieces (H₀ := boot_heap) (H₁ := H1) (gs₀ := #[]) (gs₁ := #[]) (d₀ := boot_drawn) (d₁ := {}) (k₀ := boot_toks) (k₁ := 2582) (m₀ := 11) (ann := ann0) (M := M0)
    open0 size0 (fun w os => run0 w os) (by decide) (fun w => funext fun os => by
      have a := look1 w os
      have b := look2 w os
      have c := look3h w os
      exact Prod.ext a (Prod.ext b c))
set_option maxHeartbeats 0 in
theorem head0 (walk : ∀ {d : DefRec} {kwd : List (Str × Expr)}, defOf vq rwL.row.name = some (d, kwd) → WalkO vq looseF (XL vq []) hk.says rwL.row.toRowW d kwd fun f vs => PySem.call f vs) : rwL.Holds := by
  w_on
  refine holds_law well0 fun said => ?_
  refine holds_open (r := rwL.row) (q := vq) (loose := looseF) (Xt := fun s => xlAt vq [] s && recOk (RowW.records rwL.row.toRowW) s) (XP := XL vq []) (Yf := Hook.obs hk) (Ya := Hook.val hk) (YP := Hook.says hk) (N := 20000) ?hl (Hook.of hk) (Hook.keeps hk)
    (fun s e => xl_of s (Bool.and_eq_true_iff.mp e).1) XL.keeps (by rfl) (by rfl) (by rfl) (fun s e => recFacts_of (Bool.and_eq_true_iff.mp e).2) (by rfl) (by first | assumption | decide +kernel) (by decide +kernel) ⟨rfl, rfl, rfl, rfl, rfl, by decide +kernel⟩ ?hw ?hc
  case hl => exact left0
  case hw => w_witness2
  case hc => exact walk rfl
end Mine
end
section
open PySem PySem.W PySem.Calls PyProof.Rows PySem.Spec
set_option maxRecDepth 100000
set_option maxHeartbeats 1000000
namespace Mine
theorem vq_owns : ownsOf vq = [] := by kernel_rfl
theorem vq_lits : litsOf vq = [] := by kernel_rfl
theorem vq_clss : clssOf vq looseF = [] := by kernel_rfl
theorem vq_loose : looseW vq looseF = looseF := by kernel_rfl
theorem vq_tab (P : Params) : tabIn (KF P) (Str.ofString "law") = some (196, 194) := by kernel_rfl
theorem vq_none (P : Params) : (KF P).lookup 172 = none := by kernel_rfl
theorem vq_recs : (recsOf vq).map (·.name) = [Str.ofString "law"] := by kernel_rfl
section
variable {w : World} {h : Heap} {mg mb : Str → Option Value} {mean : ExcName → Option Value}
theorem base_of (KX : (KF w.params).In h) (T : Top vq (looseW vq looseF) mean mg mb h) (h172 : h.get? 172 = some (tabObj #[])) : Base w mg mb (hideAll h [172]) := by
  have hk : ∀ b o, b ≠ 172 → h.get? b = some o → (hideAll h [172]).get? b = some o := fun b o hb e => hideAll_get _ e (by simpa using hb)
  have hd : ∀ b o, o ≠ tabObj #[] → h.get? b = some o → (hideAll h [172]).get? b = some o := fun b o hn e => hk b o (fun q => by
    rw [q, h172] at e
    exact hn (Option.some.inj e).symm) e
  have ns : ∀ {a : Addr} {mm : Str → Option Value}, h.Ns a mm → (hideAll h [172]).Ns a mm := fun ⟨o, es, ep, e, q, r⟩ => ⟨o, es, ep, hd _ _ (fun z => by rw [z] at q; cases q) e, q, r⟩
  have K' : (KF w.params).In (hideAll h [172]) := fun a o e => hk a o (fun q => by rw [q, vq_none] at e; cases e) (KX a o e)
  have inL : ∀ d ∈ recsOf vq, d.name = Str.ofString "law" := fun d hd => by
    have := List.mem_map_of_mem (f := fun d : DefRec => d.name) hd
    rw [vq_recs] at this
    exact List.mem_singleton.mp this
  refine ⟨K', ?_⟩
  rw [vq_loose] at T
  exact {
    g := ns T.g
    b := ns T.b
    nolimit := let ⟨mc, a, r⟩ := T.nolimit; ⟨mc, ns a, r⟩
    nodigits := let ⟨mc, a, r⟩ := T.nodigits; ⟨mc, ns a, r⟩
    fn := fun d hdd => by
      obtain ⟨a, o, pm, code, doc, x1, x2, x3, c, oc, vs, t, y1, y2, y3, y4⟩ := T.fn d hdd
      refine ⟨a, o, pm, code, doc, x1, hd _ _ (fun z => by rw [z] at x3; cases x3) x2, x3, c, oc, vs, t, y1, hd _ _ (fun z => ?_) y2, y3, y4⟩
      rw [z] at y3
      cases y3
      cases y4
    own := fun o ho => by rw [vq_owns] at ho; cases ho
    const := T.const
    free := T.free
    builtins := T.builtins
    tab := fun d hdd => by
      obtain ⟨a, o, fd, c, P, x1, x2, x3, x4, x5, x6⟩ := T.tab d hdd
      rw [inL d hdd] at x1
      have e1 := mg_of KX T.g (n := Str.ofString "law") (v := .ref 197) (by k_is)
      rw [e1] at x1
      cases x1
      have e2 := KX 197 _ (by k_is)
      rw [x2] at e2
      cases e2
      cases x3
      cases x4
      have e3 := KX 196 _ (by k_is)
      obtain ⟨⟨oc, vs, y1, y2, y3, y4⟩, y5⟩ := x6
      have hP : P ≠ 172 := by
        rw [e3] at y1
        cases y1
        cases y3
        cases y4
        decide
      obtain ⟨oc', vs', file, tf, flags, tg, inF, text, tt, op, z1, z2, z3, z4, z5, z6, z7, z8, z9⟩ := x5
      refine ⟨197, _, _, 196, P, by rw [inL d hdd]; exact e1, hk _ _ (by decide) x2, rfl, rfl, ⟨oc', vs', file, tf, flags, tg, inF, text, tt, op, hk _ _ (by decide) z1, z2, z3, z4, z5, z6, z7, hk _ _ hP z8, z9⟩, ⟨oc, vs, hk _ _ (by decide) y1, y2, y3, y4⟩, hk _ _ hP y5⟩
    bmain := let ⟨bm, ob, a1, a2, a3, a4, r⟩ := T.bmain; ⟨bm, ob, a1, a2, hd _ _ (fun z => by rw [z] at a4; cases a4) a3, a4, r⟩
    seer := fun e => by
      have q := T.seer e
      exact ⟨let ⟨mc, a, r⟩ := q.statics; ⟨mc, ns a, r⟩, let ⟨mm, a, r⟩ := q.mods; ⟨mm, ns a, r⟩, let ⟨mb', a, r⟩ := q.imp; ⟨mb', ns a, r⟩,
        let ⟨mg', bm, ob, a1, a2, a3, a4, a5⟩ := q.main; ⟨mg', bm, ob, ns a1, a2, hd _ _ (fun z => by rw [z] at a4; cases a4) a3, a4, a5⟩⟩ }
end
end Mine
end
section
open PySem PySem.W PySem.Calls PyProof.Rows PySem.Spec
set_option maxRecDepth 100000
set_option maxHeartbeats 1000000
namespace Mine
theorem walk0 (hpure : ∀ b rs size step visits base, RowOk rs → (5 ≤ size ∧ size ≤ 12) → (1 ≤ step ∧ step ≤ size) → 1 ≤ visits → visits ≤ perN size step → (208 ≤ base ∧ base ≤ 257) → LawOk b rs size step visits base)
    {d : DefRec} {kwd : List (Str × Expr)} (hdef : defOf vq rwL.row.name = some (d, kwd)) : WalkO vq looseF (XL vq []) hk.says rwL.row.toRowW d kwd fun f vs => PySem.call f vs := by
  k_fill
  intro w s₀ s₁ mg mb G Y fa o pm cd doc dV kV ho hd hcd hD hmg hg args vals as hpre hlay hrd hwl hlo
  have KX : (KF w.params).In s₁.heap := km_in_of Y
  have hT8 := km_tabs_of Y
  have X := (Ground.X G).1
  refine Ground.open G ?_
  intro T B D TE TW
  have hn := defOf_name hdef
  wrow_args hpre hlay hrd hwl hlo
  rename IntsAre _ _ => hI
  rename Heap.IsList _ _ _ => hL
  rename ¬ _ < _ => hlen
  have e1 := mg_of KX T.g (n := Str.ofString "law") (v := .ref 197) (by k_is)
  have hfa : fa = 197 := by
    rw [hn] at hmg
    have e2 : mg (Str.ofString "law") = some (.ref fa) := hmg
    rw [e1] at e2
    cases e2
    rfl
  subst hfa
  have h172 := hT8 172 (.head _)
  have BB := base_of KX T h172
  show wpAny (model pw w) callerA (call (.ref 197) [.ref _]) _ _ _
  refine c_law BB (fun a o e => of_hideAll _ e) h172 (hideAll_none _ (.head _)) (by decide +kernel) rfl (by decide +kernel) ?_ hI ?_ (fun rs size step visits base => hpure (ledP w) rs size step visits base) ?_
  · obtain ⟨ol, el, cl, rl⟩ := hL
    refine ⟨ol, hideAll_get _ el (fun q => ?_), cl, rl⟩
    rw [List.mem_singleton.mp q, h172] at el
    cases el
    cases cl
  · omega
  · intro h tk G' hk ⟨ps, hps⟩ hab
    refine ⟨.inl ⟨.bool true, .bool true, [], rfl, ?_, .bool true, ?_, fun _ => ⟨List.nodup_nil, fun a ha => by cases ha⟩⟩, ?_, rfl, hab (AllBare.of_eq hg)⟩
    · exact fun _ => rfl
    · first | rfl | wrow_post
    · refine ⟨fun b o e => ?_, fun b o e => ?_⟩
      · by_cases hb : b = 172
        · subst hb
          rw [h172] at e
          cases e
          have e6 := KX 176 _ (by k_is)
          refine .inr (.inl ⟨⟨176, _, _, e6, rfl, rfl, rfl⟩, rfl, #[], ps, rfl, ?_⟩)
          rw [hps]
          simp
        · exact .inl (hk b o hb e)
      · by_cases hb : b = 172
        · subst hb; exact ⟨_, hps⟩
        · exact ⟨o, hk b o hb e⟩
end Mine
end
section
open PySem PySem.W PySem.Calls PyProof.Rows PySem.Spec
set_option maxRecDepth 100000
set_option maxHeartbeats 1000000
namespace Mine
section
variable {α β : Type}
noncomputable def rot1G : List α → List α
  | [] => []
  | x :: r => r ++ [x]
noncomputable def rotG : Nat → List α → List α
  | 0, l => l
  | n + 1, l => rot1G (rotG n l)
noncomputable def markG (i : Nat) : List (α × Nat) → List (α × Nat)
  | [] => []
  | a :: r => r ++ [(a.1, a.2 + i + 1)]
noncomputable def visG (step : Nat) : Nat → List (α × Nat) → List (α × Nat)
  | 0, l => l
  | k + 1, l => rotG (step - 1) (markG k (visG step k l))
theorem rot1G_map (f : α → β) : ∀ l : List α, (rot1G l).map f = rot1G (l.map f)
  | [] => rfl
  | x :: r => by simp [rot1G]
theorem rotG_map (f : α → β) (n : Nat) (l : List α) : (rotG n l).map f = rotG n (l.map f) := by
  induction n with
  | zero => rfl
  | succ n ih => rw [rotG, rot1G_map, ih]; rfl
theorem markG_map (f : α → β) (i : Nat) : ∀ l : List (α × Nat), (markG i l).map (fun p => (f p.1, p.2)) = markG i (l.map fun p => (f p.1, p.2))
  | [] => rfl
  | x :: r => by simp [markG]
theorem visG_map (f : α → β) (step : Nat) (l : List (α × Nat)) : ∀ k, (visG step k l).map (fun p => (f p.1, p.2)) = visG step k (l.map fun p => (f p.1, p.2))
  | 0 => rfl
  | k + 1 => by rw [visG, rotG_map, markG_map, visG_map f step l k]; rfl
theorem rot1G_mem {x : α} : ∀ {l : List α}, x ∈ rot1G l → x ∈ l
  | [], h => h
  | a :: r, h => by simp only [rot1G, List.mem_append, List.mem_singleton] at h; exact h.elim (List.mem_cons_of_mem _) (fun e => e ▸ List.mem_cons_self)
theorem rotG_mem {x : α} {l : List α} : ∀ n, x ∈ rotG n l → x ∈ l
  | 0, h => h
  | n + 1, h => rotG_mem n (rot1G_mem h)
theorem visG_bound {step : Nat} {l : List (α × Nat)} (h0 : ∀ p ∈ l, p.2 = 0) : ∀ k, ∀ p ∈ visG step k l, p.2 ≤ k * k
  | 0, p, hp => by rw [h0 p hp]; exact Nat.zero_le _
  | k + 1, p, hp => by
    have hp := rotG_mem _ hp
    have ih := visG_bound (step := step) h0 k
    have e : (k + 1) * (k + 1) = k * k + k + k + 1 := by rw [Nat.add_mul, Nat.mul_add]; omega
    generalize visG step k l = v at hp ih
    cases v with
    | nil => exact absurd hp (List.not_mem_nil)
    | cons a r =>
      simp only [markG, List.mem_append, List.mem_singleton] at hp
      rcases hp with hp | rfl
      · have := ih p (List.mem_cons_of_mem _ hp); omega
      · have := ih a List.mem_cons_self; simp only; omega
end
noncomputable def cN (size step visits : Nat) : Nat := ((-(visits : Int) * step).fmod size).toNat
noncomputable def startA (size : Nat) : List (Nat × Nat) := (List.range size).map fun j => (j, 0)
noncomputable def endA (size step visits : Nat) : List (Nat × Nat) := rotG (cN size step visits) (visG step visits (startA size))
noncomputable def feetA (size step visits : Nat) : List Int := (fAt size visits (restsF size step visits) visits).2.2
noncomputable def insD (a : Int) : List Int → List Int
  | [] => [a]
  | b :: r => if b < a then a :: b :: r else b :: insD a r
noncomputable def sortD (l : List Int) : List Int := l.foldr insD []
noncomputable def descB : List Int → Bool
  | [] => true
  | [_] => true
  | a :: b :: r => decide (b < a) && descB (b :: r)
noncomputable def sameB (l z : List Int) : Bool := l.all (fun k => z.any (· == k)) && z.all (fun k => l.any (· == k)) && z.length == l.length && descB z && Nat.ble z.length 3
noncomputable def goodB (b : Bool) (ns : List Int) : Bool :=
  (List.range ns.length).all fun i => (fmet ns i).any (· == ns.getD i 0) || tabGood (tabL b (fmet ns i)) (fmet ns i).length (hashInt (ns.getD i 0))
noncomputable def tabB (b : Bool) (ns : List Int) : Bool :=
  goodB b ns && (tabL b (fmet ns ns.length)).plain && ((tabL b (fmet ns ns.length)).led == b) && enumT (tabL b (fmet ns ns.length)) (fmet ns ns.length).length
noncomputable def gapsA (size step visits : Nat) : List Int := gapsOf (stopsOf (feetA size step visits) size ++ [(size : Int)]) visits
noncomputable def zs : List (List Int) := [[5], [4, 1], [3, 1], [2, 1], [1], [3, 2], [6], [5, 1], [4, 2], [2], [3], [7], [6, 1], [5, 2], [4, 3], [3, 2, 1], [8],
  [7, 1], [6, 2], [5, 3], [4], [9], [8, 1], [7, 2], [6, 3], [5, 4], [4, 3, 1], [10], [9, 1], [8, 2], [7, 3], [6, 4],
  [11], [10, 1], [9, 2], [8, 3], [7, 4], [6, 5], [5, 4, 1], [12], [11, 1], [10, 2], [9, 3], [8, 4], [7, 5], [5, 3, 2]]
noncomputable def tripB (size step visits : Nat) : Bool :=
  Nat.ble visits size && ((endA size step visits).map (·.1) == List.range size) && ((endA size step visits).map (fun p => (p.2 : Int)) == feetA size step visits) &&
  ((List.range visits).all fun k => decide (0 ≤ (fAt size visits (restsF size step visits) k).1) && decide ((fAt size visits (restsF size step visits) k).1 < size)) &&
  ((stopsOf (feetA size step visits) size).length == visits) && tabB true (gapsA size step visits) && tabB false (gapsA size step visits) && sameB (fmet (gapsA size step visits) visits) (sortD (fmet (gapsA size step visits) visits)) && zs.contains (sortD (fmet (gapsA size step visits) visits))
noncomputable def allB (size : Nat) : Bool := (List.range size).all fun s => (List.range (perN size (s + 1))).all fun v => tripB size (s + 1) (v + 1)
end Mine
end
section
open PySem PySem.W PySem.Calls PyProof.Rows PySem.Spec
set_option maxRecDepth 100000
set_option maxHeartbeats 1000000
namespace Mine
theorem all_5 : allB 5 = true := by decide +kernel
theorem all_6 : allB 6 = true := by decide +kernel
theorem all_7 : allB 7 = true := by decide +kernel
theorem all_8 : allB 8 = true := by decide +kernel
theorem all_9 : allB 9 = true := by decide +kernel
theorem all_10 : allB 10 = true := by decide +kernel
theorem lo_11 : ((List.range 6).all fun s => (List.range (perN 11 (s + 1))).all fun v => tripB 11 (s + 1) (v + 1)) = true := by decide +kernel
theorem hi_11 : ([6, 7, 8, 9, 10].all fun s => (List.range (perN 11 (s + 1))).all fun v => tripB 11 (s + 1) (v + 1)) = true := by decide +kernel
theorem all_11 : allB 11 = true := by
  unfold allB
  rw [show List.range 11 = List.range 6 ++ [6, 7, 8, 9, 10] from rfl, List.all_append, lo_11, hi_11]; rfl
theorem lo_12 : ((List.range 6).all fun s => (List.range (perN 12 (s + 1))).all fun v => tripB 12 (s + 1) (v + 1)) = true := by decide +kernel
theorem hi_12 : ([6, 7, 8, 9, 10, 11].all fun s => (List.range (perN 12 (s + 1))).all fun v => tripB 12 (s + 1) (v + 1)) = true := by decide +kernel
theorem all_12 : allB 12 = true := by
  unfold allB
  rw [show List.range 12 = List.range 6 ++ [6, 7, 8, 9, 10, 11] from rfl, List.all_append, lo_12, hi_12]; rfl
theorem all_n : ∀ n, n < 8 → allB (5 + n) = true
  | 0, _ => all_5
  | 1, _ => all_6
  | 2, _ => all_7
  | 3, _ => all_8
  | 4, _ => all_9
  | 5, _ => all_10
  | 6, _ => all_11
  | 7, _ => all_12
  | n + 8, h => absurd h (Nat.not_lt.mpr (Nat.le_add_left 8 n))
theorem trip_ok {size step visits : Nat} (hz : 5 ≤ size ∧ size ≤ 12) (hs : 1 ≤ step ∧ step ≤ size) (h1 : 1 ≤ visits) (h2 : visits ≤ perN size step) : tripB size step visits = true := by
  have key : allB size = true := by
    have := all_n (size - 5) (by omega)
    rwa [Nat.add_sub_cancel' hz.1] at this
  have k1 := List.all_eq_true.mp key (step - 1) (List.mem_range.mpr (by omega))
  have k2 := List.all_eq_true.mp k1 (visits - 1) (List.mem_range.mpr (by have : step - 1 + 1 = step := by omega
                                                                         rw [this]; omega))
  have e1 : step - 1 + 1 = step := by omega
  have e2 : visits - 1 + 1 = visits := by omega
  rw [e1, e2] at k2
  exact k2
theorem any_iff {l : List Int} {k : Int} : l.any (· == k) = true ↔ k ∈ l := by
  rw [List.any_eq_true]
  exact ⟨fun ⟨x, hx, e⟩ => by rw [← beq_iff_eq.mp e]; exact hx, fun h => ⟨k, h, by simp⟩⟩
theorem desc2 {p1 p2 q1 q2 : Int} (d : p2 < p1) (s : q1 ≤ q2) (h1 : p1 = q1 ∨ p1 = q2) (h2 : p2 = q1 ∨ p2 = q2) : q1 = p2 ∧ q2 = p1 := by
  rcases h1 with rfl | rfl
  · rcases h2 with rfl | rfl
    · exact absurd d (Int.lt_irrefl _)
    · exact absurd d (Int.not_lt.mpr s)
  · rcases h2 with rfl | rfl
    · exact ⟨rfl, rfl⟩
    · exact absurd d (Int.lt_irrefl _)
theorem desc3 {p1 p2 p3 q1 q2 q3 : Int} (d1 : p2 < p1) (d2 : p3 < p2) (s1 : q1 ≤ q2) (s2 : q2 ≤ q3) (h1 : p1 = q1 ∨ p1 = q2 ∨ p1 = q3) (h2 : p2 = q1 ∨ p2 = q2 ∨ p2 = q3) (h3 : p3 = q1 ∨ p3 = q2 ∨ p3 = q3) : q1 = p3 ∧ q2 = p2 ∧ q3 = p1 := by
  have d3 : p3 < p1 := Int.lt_trans d2 d1
  have s3 : q1 ≤ q3 := Int.le_trans s1 s2
  have n1 := Int.not_lt.mpr s1
  have n2 := Int.not_lt.mpr s2
  have n3 := Int.not_lt.mpr s3
  rcases h1 with rfl | rfl | rfl
  · rcases h2 with rfl | rfl | rfl
    · exact absurd d1 (Int.lt_irrefl _)
    · exact absurd d1 n1
    · exact absurd d1 n3
  · rcases h2 with rfl | rfl | rfl
    · rcases h3 with rfl | rfl | rfl
      · exact absurd d2 (Int.lt_irrefl _)
      · exact absurd d2 n1
      · exact absurd d2 n3
    · exact absurd d1 (Int.lt_irrefl _)
    · exact absurd d1 n2
  · rcases h2 with rfl | rfl | rfl
    · rcases h3 with rfl | rfl | rfl
      · exact absurd d2 (Int.lt_irrefl _)
      · exact absurd d2 n1
      · exact absurd d2 n3
    · rcases h3 with rfl | rfl | rfl
      · exact ⟨rfl, rfl, rfl⟩
      · exact absurd d2 (Int.lt_irrefl _)
      · exact absurd d2 n2
    · exact absurd d1 (Int.lt_irrefl _)
theorem mem2 {k a b : Int} (h : k ∈ [a, b]) : k = a ∨ k = b := by
  rcases List.mem_cons.mp h with h | h
  · exact .inl h
  · exact .inr (List.mem_singleton.mp h)
theorem mem3 {k a b c : Int} (h : k ∈ [a, b, c]) : k = a ∨ k = b ∨ k = c := by
  rcases List.mem_cons.mp h with h | h
  · exact .inl h
  · exact .inr (mem2 h)
theorem pair3 {a b c : Int} (h : [a, b, c].Pairwise (· ≤ ·)) : a ≤ b ∧ b ≤ c := by
  rw [List.pairwise_cons, List.pairwise_cons] at h
  exact ⟨h.1 b List.mem_cons_self, h.2.1 c List.mem_cons_self⟩
theorem len2 : ∀ {l : List Int}, l.length = 2 → ∃ a b, l = [a, b]
  | a :: l, h => by
    obtain ⟨b, rfl⟩ := List.length_eq_one_iff.mp (Nat.succ.inj h)
    exact ⟨a, b, rfl⟩
theorem len3 : ∀ {l : List Int}, l.length = 3 → ∃ a b c, l = [a, b, c]
  | a :: l, h => by
    obtain ⟨b, c, rfl⟩ := len2 (Nat.succ.inj h)
    exact ⟨a, b, c, rfl⟩
theorem desc_eq (z ms : List Int) (hl : ms.length = z.length) (he : z.length ≤ 3) (d : descB z = true) (hp : ms.Pairwise (· ≤ ·)) (hm : ∀ k, k ∈ z → k ∈ ms) : ms = z.reverse := by
  rcases z with _ | ⟨p1, _ | ⟨p2, _ | ⟨p3, _ | ⟨p4, z⟩⟩⟩⟩
  · exact List.length_eq_zero_iff.mp hl
  · obtain ⟨q, rfl⟩ := List.length_eq_one_iff.mp hl
    rw [List.mem_singleton.mp (hm p1 List.mem_cons_self)]; rfl
  · obtain ⟨q1, q2, rfl⟩ := len2 hl
    unfold descB at d
    rw [Bool.and_eq_true, decide_eq_true_eq] at d
    rw [List.pairwise_cons] at hp
    obtain ⟨rfl, rfl⟩ := desc2 d.1 (hp.1 q2 List.mem_cons_self) (mem2 (hm p1 List.mem_cons_self)) (mem2 (hm p2 (List.mem_cons_of_mem _ List.mem_cons_self)))
    rfl
  · obtain ⟨q1, q2, q3, rfl⟩ := len3 hl
    unfold descB at d
    rw [Bool.and_eq_true, decide_eq_true_eq] at d
    have d2 := d.2
    unfold descB at d2
    rw [Bool.and_eq_true, decide_eq_true_eq] at d2
    have hp := pair3 hp
    obtain ⟨rfl, rfl, rfl⟩ := desc3 d.1 d2.1 hp.1 hp.2 (mem3 (hm p1 List.mem_cons_self)) (mem3 (hm p2 (List.mem_cons_of_mem _ List.mem_cons_self))) (mem3 (hm p3 (List.mem_cons_of_mem _ (List.mem_cons_of_mem _ List.mem_cons_self))))
    rfl
  · exact absurd he (Nat.not_le.mpr (Nat.le_add_left 4 z.length))
theorem same_srt {l z : List Int} (h : sameB l z = true) : ∀ ms : List Int, ms.Pairwise (· ≤ ·) → ms.length = l.length → (∀ k, k ∈ ms ↔ l.any (· == k) = true) → ms = z.reverse := by
  unfold sameB at h
  simp only [Bool.and_eq_true] at h
  obtain ⟨⟨⟨⟨a, b⟩, c⟩, d⟩, e⟩ := h
  intro ms hp hl hm
  have hm' : ∀ k, k ∈ z → k ∈ ms := fun k q => (hm k).mpr (List.all_eq_true.mp b k q)
  have hc : z.length = l.length := beq_iff_eq.mp c
  have he : z.length ≤ 3 := Nat.le_of_ble_eq_true e
  rw [← hc] at hl
  clear a b c e hm hc
  exact desc_eq z ms hl he d hp hm'
noncomputable def txtB (ks : List Str) : Bool :=
  JoinOk tick ks && txtOk (Txt.join tick ks) && !parB (Txt.join tick ks) && Nat.ble (Txt.splitMax (Txt.join tick ks) tick 2).length 1000 && Nat.ble ks.length 3 &&
  (match ks with
  | [K1, K2, K3] => (Txt.splitMax (Txt.join tick ks) tick 2 == [K1, K2, K3]) && Nat.ble K1.length 12 && Nat.ble K2.length 12 && Nat.ble K3.length 12 && PyData.strOk K1 && PyData.strOk K2 && PyData.strOk K3 && PyData.strOk (K3 ++ tick ++ K1) && Nat.ble (Txt.join tick ks).length 60 &&
    txtOk (Txt.join tick ks ++ tick ++ K1) && (Txt.splitMax (Txt.join tick ks ++ tick ++ K1) tick 2 == [K1, K2, K3 ++ tick ++ K1]) &&
    Nat.ble (Txt.replace (K2 ++ K3) (Str.ofString "(") (Str.ofString ")")).length 60 && txtOk (Txt.replace (K2 ++ K3) (Str.ofString "(") (Str.ofString ")") ++ K1) && txtOk (K1 ++ Txt.replace (K2 ++ K3) (Str.ofString "(") (Str.ofString ")")) &&
    !parB (Txt.replace (K2 ++ K3) (Str.ofString "(") (Str.ofString ")") ++ K1) && parB (K1 ++ Txt.replace (K2 ++ K3) (Str.ofString "(") (Str.ofString ")"))
  | _ => Nat.ble (Txt.splitMax (Txt.join tick ks) tick 2).length 2)
theorem txt_ok {ks : List Str} (h : txtB ks = true) : ThreeTxt ks := by
  unfold txtB at h
  simp only [Bool.and_eq_true, Bool.not_eq_true'] at h
  obtain ⟨⟨⟨⟨⟨a, b⟩, c⟩, d⟩, e⟩, f⟩ := h
  refine ⟨a, b, c, Nat.le_of_ble_eq_true d, fun hl => ?_, Nat.le_of_ble_eq_true e, ?_⟩
  · match ks, hl with
    | [], _ => exact Nat.le_of_ble_eq_true f
    | [_], _ => exact Nat.le_of_ble_eq_true f
    | [_, _], _ => exact Nat.le_of_ble_eq_true f
  · rintro K1 K2 K3 rfl
    simp only [Bool.and_eq_true, Bool.not_eq_true'] at f
    obtain ⟨⟨⟨⟨⟨⟨⟨⟨⟨⟨⟨⟨⟨⟨⟨f1, f2⟩, f3⟩, f4⟩, f5⟩, f6⟩, f7⟩, f8⟩, f9⟩, f10⟩, f11⟩, f12⟩, f13⟩, f14⟩, f15⟩, f16⟩ := f
    exact ⟨beq_iff_eq.mp f1, Nat.le_of_ble_eq_true f2, Nat.le_of_ble_eq_true f3, Nat.le_of_ble_eq_true f4, f5, f6, f7, f8, Nat.le_of_ble_eq_true f9, f10, beq_iff_eq.mp f11, _, rfl, Nat.le_of_ble_eq_true f12, f13, f14, f15, f16⟩
noncomputable def zB (z : List Int) : Bool := txtB (z.map rep) && z.all fun a => decide (0 ≤ a) && decide (a ≤ 12)
theorem zs_ok : zs.all zB = true := by decide +kernel
end Mine
end
section
open PySem PySem.W PySem.Calls PyProof.Rows PySem.Spec
set_option maxRecDepth 100000
set_option maxHeartbeats 1000000
namespace Mine
theorem good_of {b : Bool} {ns : List Int} (h : goodB b ns = true) : setGood b ns := by
  intro i hi hn
  have := List.all_eq_true.mp h i (List.mem_range.mpr hi)
  rw [hn, Bool.false_or] at this
  exact this
theorem gaps_len (st : List Int) (n : Nat) : (gapsOf st n).length = n := by simp [gapsOf]
theorem three_ok {b : Bool} {ns : List Int} (hl : ns.length ≤ 12) (ht : tabB b ns = true) (hs : sameB (fmet ns ns.length) (sortD (fmet ns ns.length)) = true) (hz : zs.contains (sortD (fmet ns ns.length)) = true) :
    ThreeOk b ns (sortD (fmet ns ns.length)) ((sortD (fmet ns ns.length)).map rep) := by
  unfold tabB at ht
  simp only [Bool.and_eq_true] at ht
  obtain ⟨⟨⟨a, p⟩, l⟩, e⟩ := ht
  have hm : sortD (fmet ns ns.length) ∈ zs := List.contains_iff_mem.mp hz
  have hzb := List.all_eq_true.mp zs_ok _ hm
  unfold zB at hzb
  rw [Bool.and_eq_true] at hzb
  have hl3 : (fmet ns ns.length).length ≤ 3 := by
    unfold sameB at hs
    simp only [Bool.and_eq_true] at hs
    have h1 := beq_iff_eq.mp hs.1.1.2
    have h2 := Nat.le_of_ble_eq_true hs.2
    omega
  exact ⟨by omega, good_of a, p, beq_iff_eq.mp l, e, same_srt hs, by omega, fun x hx => by
    have := List.all_eq_true.mp hzb.2 x hx
    rw [Bool.and_eq_true, decide_eq_true_eq, decide_eq_true_eq] at this
    exact this, rfl, txt_ok hzb.1⟩
structure TripOk (size step visits : Nat) : Prop where
  vis : visits ≤ size
  idx : (endA size step visits).map (·.1) = List.range size
  ft : (endA size step visits).map (fun p => (p.2 : Int)) = feetA size step visits
  hp : ∀ k, k < visits → 0 ≤ (fAt size visits (restsF size step visits) k).1 ∧ (fAt size visits (restsF size step visits) k).1 < size
  stl : (stopsOf (feetA size step visits) size).length = visits
  three : ∀ b, ∃ z ks, ThreeOk b (gapsA size step visits) z ks
theorem trip_all {size step visits : Nat} (hz : 5 ≤ size ∧ size ≤ 12) (hs : 1 ≤ step ∧ step ≤ size) (h1 : 1 ≤ visits) (h2 : visits ≤ perN size step) : TripOk size step visits := by
  have h := trip_ok hz hs h1 h2
  unfold tripB at h
  simp only [Bool.and_eq_true] at h
  obtain ⟨⟨⟨⟨⟨⟨⟨⟨a, i⟩, f⟩, p⟩, l⟩, tt⟩, tf⟩, sb⟩, zc⟩ := h
  have hv := Nat.le_of_ble_eq_true a
  have gl : (gapsA size step visits).length = visits := gaps_len _ _
  refine ⟨hv, beq_iff_eq.mp i, beq_iff_eq.mp f, fun k hk => ?_, beq_iff_eq.mp l, fun b => ?_⟩
  · have := List.all_eq_true.mp p k (List.mem_range.mpr hk)
    rw [Bool.and_eq_true, decide_eq_true_eq, decide_eq_true_eq] at this
    exact this
  · refine ⟨_, _, three_ok (by omega) ?_ (by rw [gl]; exact sb) (by rw [gl]; exact zc)⟩
    cases b
    · exact tf
    · exact tt
end Mine
end
section
open PySem PySem.W PySem.Calls PyProof.Rows PySem.Spec
set_option maxRecDepth 100000
set_option maxHeartbeats 1000000
namespace Mine
theorem sx {a b : Str} (h : a.cps.toList = b.cps.toList) : a = b := by
  cases a; cases b; simp only at h; congr; exact Array.toList_inj.mp h
theorem tl_app (a b : Str) : (a ++ b).cps.toList = a.cps.toList ++ b.cps.toList := by
  show (a.cps ++ b.cps).toList = _
  simp
noncomputable def escL (y : Nat) : Nat → List Nat → List Nat
  | _, [] => []
  | k, c :: r => (if ((y : Int) + (k : Int)).fmod 3 = 0 then [92, c] else [c]) ++ escL y (k + 1) r
theorem escL_app (y : Nat) (b : List Nat) : ∀ (a : List Nat) (k : Nat), escL y k (a ++ b) = escL y k a ++ escL y (k + a.length) b
  | [], k => rfl
  | c :: a, k => by
    show _ ++ escL y (k + 1) (a ++ b) = (_ ++ escL y (k + 1) a) ++ _
    rw [escL_app y b a (k + 1), List.append_assoc, List.length_cons, show k + 1 + a.length = k + (a.length + 1) by omega]
theorem item_l {W : Str} {k : Nat} (h : k < W.cps.toList.length) : (Txt.item W (k : Int)).cps.toList = [W.cps.toList[k]] := by
  have h' : k < W.cps.size := by simpa using h
  have hl : W.length = W.cps.size := rfl
  have e : Txt.charAt W (k : Int) = some (W.cps.toList[k]) := by
    unfold Txt.charAt
    have : seqIndex? (k : Int) W.length = some k := by
      unfold seqIndex?
      simp only [hl]
      have h1 : ¬ ((k : Int) < 0) := by omega
      simp [h1, h']
    rw [this]
    simp [h']
  unfold Txt.item
  rw [e]; rfl
theorem cardT_l (W : Str) (y : Nat) : ∀ k, k ≤ W.cps.toList.length → (cardT W y k).cps.toList = escL y 0 (W.cps.toList.take k)
  | 0, _ => rfl
  | k + 1, h => by
    have hk : k < W.cps.toList.length := h
    have ih := cardT_l W y k (by omega)
    have ht : W.cps.toList.take (k + 1) = W.cps.toList.take k ++ [W.cps.toList[k]] := by rw [List.take_add_one, List.getElem?_eq_getElem hk]; rfl
    rw [ht, escL_app, cardT, tl_app, ih]
    have hlen : (W.cps.toList.take k).length = k := by rw [List.length_take]; omega
    rw [hlen, Nat.zero_add]
    congr 1
    show _ = _ ++ escL y (k + 1) []
    rw [show escL y (k + 1) [] = [] from rfl, List.append_nil]
    split
    · rw [tl_app, item_l hk]; rfl
    · rw [item_l hk]
noncomputable abbrev S (l : List Nat) : Str := ⟨l.toArray⟩
theorem S_step (t : Str) (c : Nat) (w : List Nat) : t ++ ⟨#[c]⟩ ++ S w = t ++ S (c :: w) := by
  apply sx; simp only [tl_app, List.append_assoc]; rfl
theorem S_nil (t : Str) : t ++ S [] = t := by apply sx; simp [tl_app]
theorem goSstop {stop : Nat → Bool} {t : Str} {c : Nat} {r : List Nat} (h : stop c = true) : goS stop t (c :: r) = (t, r) := by
  cases r <;> simp [goS, h]
theorem goSesc {stop : Nat → Bool} {t : Str} {d : Nat} {r : List Nat} (h : stop 92 = false) : goS stop t (92 :: d :: r) = goS stop (t ++ ⟨#[d]⟩) r := by
  simp [goS, h]
theorem goSother {stop : Nat → Bool} {t : Str} {c : Nat} {r : List Nat} (h : stop c = false) (h2 : c ≠ 92) : goS stop t (c :: r) = goS stop (t ++ ⟨#[c]⟩) r := by
  cases r <;> simp [goS, h, h2]
theorem goS_word {stop : Nat → Bool} (h92 : stop 92 = false) (y : Nat) (r : List Nat) : ∀ (w : List Nat) (k : Nat) (t : Str), (∀ c ∈ w, stop c = false ∧ c ≠ 92) → goS stop t (escL y k w ++ r) = goS stop (t ++ S w) r
  | [], k, t, _ => by rw [S_nil]; rfl
  | c :: w, k, t, h => by
    have hc := h c List.mem_cons_self
    have ih := goS_word h92 y r w (k + 1) (t ++ ⟨#[c]⟩) (fun d hd => h d (List.mem_cons_of_mem _ hd))
    rw [S_step] at ih
    unfold escL
    split
    · simp only [List.cons_append, List.nil_append]
      rw [goSesc h92]; exact ih
    · simp only [List.cons_append, List.nil_append]
      rw [goSother hc.1 hc.2]; exact ih
noncomputable def plainC (c : Nat) : Bool := !blank c && !(c == 34) && !(c == 92) && !inB1 c
theorem plainC_iff {c : Nat} (h : plainC c = true) : blank c = false ∧ c ≠ 34 ∧ c ≠ 92 ∧ inB1 c = false := by
  unfold plainC at h
  simp only [Bool.and_eq_true, Bool.not_eq_true', beq_eq_false_iff_ne] at h
  exact ⟨h.1.1.1, h.1.1.2, h.1.2, h.2⟩
noncomputable def cardL (y : Nat) (w : List Nat) : List Nat := if (y : Int).fmod 2 = 1 then 34 :: (escL y 0 w ++ [34]) else escL y 0 w
theorem e_nil : Str.ofString "" = S [] := by rfl
theorem nil_app (t : Str) : S [] ++ t = t := by apply sx; simp [tl_app]
theorem goO_card {y : Nat} {w : List Nat} (h0 : w ≠ []) (hw : ∀ c ∈ w, plainC c = true) :
    goO (Str.ofString "") (cardL y w) = (S w, []) ∧ ∀ sep r, blank sep = true → ∃ r', goO (Str.ofString "") (cardL y w ++ sep :: r) = (S w, r') ∧ goO (Str.ofString "") r' = goO (Str.ofString "") r := by
  have hb : ∀ c ∈ w, blank c = false ∧ c ≠ 92 := fun c hc => ⟨(plainC_iff (hw c hc)).1, (plainC_iff (hw c hc)).2.2.1⟩
  have hq : ∀ c ∈ w, quoteQ c = false ∧ c ≠ 92 := fun c hc => ⟨beq_false_of_ne (plainC_iff (hw c hc)).2.1, (plainC_iff (hw c hc)).2.2.1⟩
  by_cases hy : (y : Int).fmod 2 = 1
  · have key : ∀ rest, goO (Str.ofString "") (cardL y w ++ rest) = (S w, rest) := fun rest => by
      unfold cardL
      rw [if_pos hy, List.cons_append, goO_quote _ _ _ (by decide) rfl, List.append_assoc, goS_word (by decide) y _ w 0 _ hq, e_nil, nil_app]
      exact goSstop (by decide)
    refine ⟨by have := key []; rwa [List.append_nil] at this, fun sep r hs => ⟨sep :: r, key _, goO_blank _ _ _ hs⟩⟩
  · have key : ∀ rest, goO (Str.ofString "") (cardL y w ++ rest) = goS blank (S w) rest := fun rest => by
      unfold cardL
      rw [if_neg hy]
      cases w with
      | nil => exact absurd rfl h0
      | cons c w =>
        have hc := plainC_iff (hw c List.mem_cons_self)
        have ht : goS blank (Str.ofString "" ++ ⟨#[c]⟩) (escL y (0 + 1) w ++ rest) = goS blank (S (c :: w)) rest := by
          rw [goS_word (by decide) y _ w _ _ (fun d hd => hb d (List.mem_cons_of_mem _ hd)), S_step, e_nil, nil_app]
        unfold escL
        split
        · simp only [List.cons_append, List.nil_append]
          rw [goO_esc _ _ _ _ (by decide) rfl]; exact ht
        · simp only [List.cons_append, List.nil_append]
          rw [goO_other _ _ _ hc.1 hc.2.1 hc.2.2.1]; exact ht
    refine ⟨by have := key []; rw [List.append_nil] at this; rw [this]; rfl, fun sep r hs => ⟨r, ?_, rfl⟩⟩
    rw [key, goSstop hs]
end Mine
end
section
open PySem PySem.W PySem.Calls PyProof.Rows PySem.Spec
set_option maxRecDepth 100000
set_option maxHeartbeats 1000000
namespace Mine
theorem goO_Lx {r r' : List Nat} (h : goO (Str.ofString "") r = goO (Str.ofString "") r') : ∀ {xs : List Str}, Lx r xs → Lx r' xs
  | [], q => q
  | [x], q => by
    obtain ⟨a, b⟩ := q
    exact ⟨h ▸ a, b⟩
  | x :: y :: q', q => by
    obtain ⟨a, b, c, d⟩ := q
    exact ⟨h ▸ a, b, c, h ▸ d⟩
theorem sep_l (y : Nat) : ∃ c, blank c = true ∧ (Txt.item (Str.ofString " \n\t\r") (((y : Int).fdiv 2).fmod 4)).cps.toList = [c] := by
  have hb := fm_b ((y : Int).fdiv 2) 4 (by decide)
  generalize ((y : Int).fdiv 2).fmod 4 = i at hb
  have : i = 0 ∨ i = 1 ∨ i = 2 ∨ i = 3 := by omega
  rcases this with rfl | rfl | rfl | rfl
  · exact ⟨32, by decide, by decide +kernel⟩
  · exact ⟨10, by decide, by decide +kernel⟩
  · exact ⟨9, by decide, by decide +kernel⟩
  · exact ⟨13, by decide, by decide +kernel⟩
theorem cardS_l (m x y : Nat) : ∃ c, blank c = true ∧ (cardS m x y).cps.toList = cardL y (cardW m x).cps.toList ++ [c] := by
  obtain ⟨c, hc, e⟩ := sep_l y
  refine ⟨c, hc, ?_⟩
  unfold cardS
  rw [tl_app, e]
  congr 1
  have hl : (cardW m x).length = (cardW m x).cps.toList.length := by simp [Str.length]
  have hT := cardT_l (cardW m x) y (cardW m x).length (by omega)
  have htk : (cardW m x).cps.toList.take (cardW m x).length = (cardW m x).cps.toList := by rw [hl, List.take_length]
  rw [htk] at hT
  unfold cardL
  split
  · rw [tl_app, tl_app, hT]; rfl
  · exact hT
theorem join_l : ∀ cs : List Str, (Txt.join (Str.ofString "") cs).cps.toList = cs.flatMap fun c => c.cps.toList := by
  intro cs
  show (Builtin.Str.glued (Str.ofString "") cs).cps.toList = _
  rw [StrLaws.glued_eq_join]
  induction cs with
  | nil => rfl
  | cons a r ih =>
    cases r with
    | nil => simp [Str.join]
    | cons b r =>
      show (a ++ Str.ofString "" ++ Str.join (Str.ofString "") (b :: r)).cps.toList = _
      rw [tl_app, tl_app, ih, List.flatMap_cons]
      congr 1
      rw [e_nil]; simp
theorem joinedS_l (cs : List Str) (h : 1 ≤ (Txt.join (Str.ofString "") cs).cps.toList.length) : (joinedS cs).cps.toList = (cs.flatMap fun c => c.cps.toList).dropLast := by
  unfold joinedS
  rw [← join_l]
  generalize Txt.join (Str.ofString "") cs = X at h
  show (StrLaws.sliceText X none (some (-1))).cps.toList = _
  have hl : X.length = X.cps.toList.length := by simp [Str.length]
  rw [StrLaws.sliceText_to_neg (by decide) (by rw [hl]; omega)]
  rw [List.drop_zero, List.dropLast_eq_take, hl]
  show X.cps.toList.take _ = _
  congr 1
  omega
end Mine
end
section
open PySem PySem.W PySem.Calls PyProof.Rows PySem.Spec
set_option maxRecDepth 100000
set_option maxHeartbeats 1000000
namespace Mine
structure WordOk (W : Str) (m : Nat) : Prop where
  ne : W.cps.toList ≠ []
  len : W.cps.toList.length ≤ 3
  pl : ∀ c ∈ W.cps.toList, plainC c = true
  fo : ∀ c ∈ W.cps.toList, lookL b3L (c : Int) = none → c < 128
  jo : JoinOk (Str.ofString "") (W.cps.toList.map b3fn) = true
  nm : numB (Txt.join (Str.ofString "") (W.cps.toList.map b3fn)) = m
noncomputable def wordB (W : Str) (m : Nat) : Bool :=
  !W.cps.toList.isEmpty && Nat.ble W.cps.toList.length 3 && W.cps.toList.all (fun c => plainC c && (Nat.blt c 128 || (lookL b3L (c : Int)).isSome)) && JoinOk (Str.ofString "") (W.cps.toList.map b3fn) && (numB (Txt.join (Str.ofString "") (W.cps.toList.map b3fn)) == (m : Int))
theorem word_of {W : Str} {m : Nat} (h : wordB W m = true) : WordOk W m := by
  unfold wordB at h
  simp only [Bool.and_eq_true] at h
  obtain ⟨⟨⟨⟨a, b⟩, c⟩, d⟩, e⟩ := h
  refine ⟨fun q => ?_, Nat.le_of_ble_eq_true b, fun c' hc => ?_, fun c' hc hn => ?_, d, beq_iff_eq.mp e⟩
  · rw [q] at a; cases a
  · have := List.all_eq_true.mp c c' hc
    rw [Bool.and_eq_true] at this
    exact this.1
  · have := List.all_eq_true.mp c c' hc
    rw [Bool.and_eq_true, hn] at this
    have h2 := this.2
    rw [Option.isSome_none, Bool.or_false] at h2
    exact Nat.blt_eq.mp h2
theorem low_words0 : ((List.range 12).all fun i => wordB (signsL.getD (0 + i) ⟨#[]⟩) (208 + i)) = true := by kernel_rfl
theorem low_words1 : ((List.range 12).all fun i => wordB (signsL.getD (12 + i) ⟨#[]⟩) (220 + i)) = true := by kernel_rfl
theorem low_words2 : ((List.range 12).all fun i => wordB (signsL.getD (24 + i) ⟨#[]⟩) (232 + i)) = true := by kernel_rfl
theorem low_words3 : ((List.range 12).all fun i => wordB (signsL.getD (36 + i) ⟨#[]⟩) (244 + i)) = true := by kernel_rfl
theorem high_words0 : (((startsL.drop 0).take 3).all fun a => (List.range 12).all fun k => wordB ⟨#[(a + ((256 + k : Nat) : Int) - 256).toNat]⟩ (256 + k)) = true := by kernel_rfl
theorem high_words1 : (((startsL.drop 3).take 3).all fun a => (List.range 12).all fun k => wordB ⟨#[(a + ((256 + k : Nat) : Int) - 256).toNat]⟩ (256 + k)) = true := by kernel_rfl
theorem high_words2 : (((startsL.drop 6).take 3).all fun a => (List.range 12).all fun k => wordB ⟨#[(a + ((256 + k : Nat) : Int) - 256).toNat]⟩ (256 + k)) = true := by kernel_rfl
theorem high_words3 : (((startsL.drop 9).take 3).all fun a => (List.range 12).all fun k => wordB ⟨#[(a + ((256 + k : Nat) : Int) - 256).toNat]⟩ (256 + k)) = true := by kernel_rfl
theorem sh12 {m b c : Nat} (h : b ≤ m) (e : b - 208 = c) (h2 : 208 ≤ b) : c + (m - b) = m - 208 := by omega
theorem low_at {m : Nat} (h1 : 208 ≤ m) (h2 : m < 256) : wordB (signsL.getD (m - 208) ⟨#[]⟩) m = true := by
  by_cases c1 : m < 220
  · have := List.all_eq_true.mp low_words0 (m - 208) (List.mem_range.mpr (Nat.sub_lt_left_of_lt_add h1 c1))
    rwa [Nat.add_sub_cancel' h1, Nat.zero_add] at this
  by_cases c2 : m < 232
  · have b := Nat.le_of_not_lt c1
    have := List.all_eq_true.mp low_words1 (m - 220) (List.mem_range.mpr (Nat.sub_lt_left_of_lt_add b c2))
    rwa [Nat.add_sub_cancel' b, sh12 b rfl (by decide)] at this
  by_cases c3 : m < 244
  · have b := Nat.le_of_not_lt c2
    have := List.all_eq_true.mp low_words2 (m - 232) (List.mem_range.mpr (Nat.sub_lt_left_of_lt_add b c3))
    rwa [Nat.add_sub_cancel' b, sh12 b rfl (by decide)] at this
  · have b := Nat.le_of_not_lt c3
    have := List.all_eq_true.mp low_words3 (m - 244) (List.mem_range.mpr (Nat.sub_lt_left_of_lt_add b h2))
    rwa [Nat.add_sub_cancel' b, sh12 b rfl (by decide)] at this
theorem starts_split : startsL = (startsL.drop 0).take 3 ++ ((startsL.drop 3).take 3 ++ ((startsL.drop 6).take 3 ++ (startsL.drop 9).take 3)) := by decide
theorem high_at {a : Int} {m : Nat} (ha : a ∈ startsL) (h1 : 256 ≤ m) (h2 : m ≤ 267) : wordB ⟨#[(a + (m : Int) - 256).toNat]⟩ m = true := by
  have key : ((List.range 12).all fun k => wordB ⟨#[(a + ((256 + k : Nat) : Int) - 256).toNat]⟩ (256 + k)) = true := by
    rw [starts_split, List.mem_append, List.mem_append, List.mem_append] at ha
    rcases ha with q | q | q | q
    · exact List.all_eq_true.mp high_words0 a q
    · exact List.all_eq_true.mp high_words1 a q
    · exact List.all_eq_true.mp high_words2 a q
    · exact List.all_eq_true.mp high_words3 a q
  have := List.all_eq_true.mp key (m - 256) (List.mem_range.mpr (Nat.sub_lt_left_of_lt_add h1 (Nat.lt_succ_of_le h2)))
  rwa [Nat.add_sub_cancel' h1] at this
theorem cardW_ok {m x : Nat} (h1 : 208 ≤ m) (h2 : m ≤ 267) : WordOk (cardW m x) m := by
  unfold cardW
  split
  · rename_i h
    exact word_of (low_at h1 h)
  · rename_i h
    have hb := fm_b (x : Int) 12 (by decide)
    have hk : ((x : Int).fmod 12).toNat < startsL.length := by rw [starts_len]; omega
    have hm : startsL.getD ((x : Int).fmod 12).toNat 0 ∈ startsL := by
      rw [List.getD_eq_getElem?_getD, List.getElem?_eq_getElem hk]
      exact List.getElem_mem hk
    exact word_of (high_at hm (Nat.le_of_not_lt h) h2)
theorem end_word : JoinOk (Str.ofString "") [] = true ∧ numB (Txt.join (Str.ofString "") []) = 0 := ⟨by decide +kernel, by decide +kernel⟩
end Mine
end
section
open PySem PySem.W PySem.Calls PyProof.Rows PySem.Spec
set_option maxRecDepth 100000
set_option maxHeartbeats 1000000
namespace Mine
structure IsW (w : List Nat) (n : Int) : Prop where
  len : w.length ≤ 3
  fo : ∀ c ∈ w, lookL b3L (c : Int) = none → c < 128
  jo : JoinOk (Str.ofString "") (w.map b3fn) = true
  nm : numB (Txt.join (Str.ofString "") (w.map b3fn)) = n
theorem isW_word {W : Str} {m : Nat} (h : WordOk W m) : IsW W.cps.toList m := ⟨h.len, h.fo, h.jo, h.nm⟩
theorem isW_end : IsW [] 0 := ⟨by decide, fun c hc => absurd hc (List.not_mem_nil), end_word.1, end_word.2⟩
noncomputable def abs (y : Str) : List Nat × Nat := (y.cps.toList.filter fun c => !inB1 c, footN y)
theorem part_len (p : Nat → Bool) (l : List Nat) : l.length = (l.filter p).length + (l.filter fun c => !p c).length := by
  induction l with
  | nil => rfl
  | cons a l ih =>
    cases h : p a
    · simp [h]; omega
    · simp [h]; omega
theorem abs_size (y : Str) : y.cps.size = (abs y).2 + (abs y).1.length := by
  have := part_len inB1 y.cps.toList
  rw [← Array.length_toList, this]; rfl
theorem num_of {y : Str} {w : List Nat} {n : Int} (hw : IsW w n) (h : (abs y).1 = w) (hs : (abs y).2 ≤ 900) : numOk y ∧ numOf y = n := by
  have hf : folded y = w.map b3fn := by rw [← h]; rfl
  have hz := abs_size y
  rw [h] at hz
  have hl := hw.len
  refine ⟨⟨by omega, fun c hc hb hn => ?_, by rw [hf]; exact hw.jo⟩, by unfold numOf; rw [hf]; exact hw.nm⟩
  refine hw.fo c ?_ hn
  rw [← h]
  exact List.mem_filter.mpr ⟨hc, by rw [hb]; rfl⟩
theorem abs_plain {W : Str} {m : Nat} (h : WordOk W m) : abs W = (W.cps.toList, 0) := by
  have h1 : ∀ c ∈ W.cps.toList, inB1 c = false := fun c hc => (plainC_iff (h.pl c hc)).2.2.2
  unfold abs footN
  congr 1
  · exact List.filter_eq_self.mpr fun c hc => by rw [h1 c hc]; rfl
  · rw [List.filter_eq_nil_iff.mpr fun c hc => by rw [h1 c hc]; exact Bool.false_ne_true]; rfl
theorem rep_fold (c : Nat) : ∀ (k : Nat) (a : Array Nat), ((List.replicate k #[c]).foldl (· ++ ·) a).toList = a.toList ++ List.replicate k c
  | 0, a => by simp
  | k + 1, a => by
    rw [List.replicate_succ, List.foldl_cons, rep_fold c k]
    simp [List.replicate_succ]
theorem mul_l (c : Nat) (i : Nat) : (Txt.mul ⟨#[c]⟩ ((i : Int) + 1)).cps.toList = List.replicate (i + 1) c := by
  unfold Txt.mul
  rw [if_neg (by omega)]
  split
  · rename_i h
    have : i = 0 := by
      simp only [Bool.or_eq_true, beq_iff_eq] at h
      rcases h with h | h
      · omega
      · exact absurd (show (1 : Nat) = 0 from h) (by decide)
    subst this; rfl
  · show ((List.replicate ((i : Int) + 1).toNat #[c]).foldl (· ++ ·) #[]).toList = _
    rw [rep_fold, show ((i : Int) + 1).toNat = i + 1 by omega]; rfl
theorem unseen_b1 : ∀ n ∈ unseenL, inB1 n.toNat = true := by decide
theorem markS_l (x i : Nat) : ∃ c, inB1 c = true ∧ (markS x i).cps.toList = List.replicate (i + 1) c := by
  refine ⟨_, ?_, mul_l _ i⟩
  have hb := fm_b ((x : Int) + i) 27 (by decide)
  have hk : (((x : Int) + i).fmod 27).toNat < unseenL.length := by rw [unseen_len]; omega
  refine unseen_b1 _ ?_
  rw [List.getD_eq_getElem?_getD, List.getElem?_eq_getElem hk]
  exact List.getElem_mem hk
theorem abs_mark (a : Str) (x i : Nat) : abs (a ++ markS x i) = ((abs a).1, (abs a).2 + i + 1) := by
  obtain ⟨c, hc, e⟩ := markS_l x i
  unfold abs footN
  rw [tl_app, e, List.filter_append, List.filter_append]
  congr 1
  · rw [List.filter_eq_nil_iff (l := List.replicate (i + 1) c) |>.mpr fun d hd => by rw [(List.mem_replicate.mp hd).2, hc]; exact Bool.false_ne_true]
    simp
  · rw [List.filter_eq_self (l := List.replicate (i + 1) c) |>.mpr fun d hd => by rw [(List.mem_replicate.mp hd).2, hc], List.length_append, List.length_replicate]
    omega
theorem rotL_G : ∀ l : List Str, rotL l = rot1G l
  | [] => rfl
  | _ :: _ => rfl
theorem rotN_G (n : Nat) (l : List Str) : rotN n l = rotG n l := by
  induction n with
  | zero => rfl
  | succ n ih => rw [rotN, rotL_G, ih]; rfl
theorem markHead_abs (x i : Nat) : ∀ l : List Str, (markHead x i l).map abs = markG i (l.map abs)
  | [] => rfl
  | a :: r => by simp [markHead, markG, abs_mark]
theorem visN_abs (x step : Nat) (l : List Str) : ∀ k, (visN x step k l).map abs = visG step k (l.map abs)
  | 0 => rfl
  | k + 1 => by rw [visN, rotN_G, rotG_map, markHead_abs, visN_abs x step l k]; rfl
theorem start_abs {size : Nat} (h : 1 ≤ size) {f : Nat → Str} {m : Nat → Nat} (hf : ∀ j, j < size - 1 → WordOk (f j) (m j)) :
    ((List.range (size - 1)).map f ++ [S []]).map abs = (startA size).map fun p => ((if p.1 < size - 1 then (f p.1).cps.toList else []), p.2) := by
  have hz : size = (size - 1) + 1 := by omega
  unfold startA
  rw [List.map_map]
  conv => rhs; rw [hz, List.range_succ]
  rw [List.map_append, List.map_append, List.map_map]
  congr 1
  · refine List.map_congr_left fun j hj => ?_
    have hj := List.mem_range.mp hj
    show abs (f j) = _
    rw [abs_plain (hf j hj)]
    show _ = ((if j < size - 1 + 1 - 1 then (f j).cps.toList else []), 0)
    rw [if_pos (by omega)]
  · show [abs (S [])] = [((if size - 1 < size - 1 + 1 - 1 then (f (size - 1)).cps.toList else []), 0)]
    rw [if_neg (by omega)]
    rfl
end Mine
end
section
open PySem PySem.W PySem.Calls PyProof.Rows PySem.Spec
set_option maxRecDepth 100000
set_option maxHeartbeats 1000000
namespace Mine
theorem S_id (W : Str) : S W.cps.toList = W := sx rfl
theorem num_plain {W : Str} {m : Nat} (h : WordOk W m) : numOk W ∧ numOf W = m := num_of (isW_word h) (by rw [abs_plain h]) (by rw [abs_plain h]; exact Nat.zero_le _)
theorem num_end : numOk (S []) ∧ numOf (S []) = 0 := num_of (y := S []) isW_end rfl (Nat.zero_le _)
theorem lx_cards : ∀ T : List (Nat × Nat × Nat), T ≠ [] → (∀ t ∈ T, 208 ≤ t.1 ∧ t.1 ≤ 267) →
    Lx ((T.flatMap fun t => (cardS t.1 t.2.1 t.2.2).cps.toList).dropLast) (T.map (fun t => cardW t.1 t.2.1) ++ [S []])
  | [], h, _ => absurd rfl h
  | [t], _, hT => by
    have ht := hT t List.mem_cons_self
    have hw := cardW_ok (x := t.2.1) ht.1 ht.2
    obtain ⟨c, hc, e⟩ := cardS_l t.1 t.2.1 t.2.2
    have hg := (goO_card (y := t.2.2) hw.ne hw.pl).1
    have hn := num_plain hw
    show Lx (((cardS t.1 t.2.1 t.2.2).cps.toList ++ []).dropLast) [cardW t.1 t.2.1, S []]
    rw [List.append_nil, e, List.dropLast_concat]
    refine ⟨by rw [hg], hn.1, by rw [hn.2]; omega, ?_⟩
    rw [hg]
    exact ⟨rfl, num_end.1, num_end.2⟩
  | t :: t' :: T, _, hT => by
    have ht := hT t List.mem_cons_self
    have hw := cardW_ok (x := t.2.1) ht.1 ht.2
    obtain ⟨c, hc, e⟩ := cardS_l t.1 t.2.1 t.2.2
    have ih := lx_cards (t' :: T) (by simp) (fun u hu => hT u (List.mem_cons_of_mem _ hu))
    have hn := num_plain hw
    have hne : ((t' :: T).flatMap fun t => (cardS t.1 t.2.1 t.2.2).cps.toList) ≠ [] := by
      obtain ⟨c', _, e'⟩ := cardS_l t'.1 t'.2.1 t'.2.2
      rw [List.flatMap_cons, e']
      simp
    rw [List.flatMap_cons, List.dropLast_append_of_ne_nil hne, e, List.append_assoc]
    obtain ⟨r', hg, hr⟩ := (goO_card (y := t.2.2) hw.ne hw.pl).2 c ((((t' :: T).flatMap fun t => (cardS t.1 t.2.1 t.2.2).cps.toList).dropLast)) hc
    refine ⟨by rw [List.singleton_append, hg], hn.1, by rw [hn.2]; omega, ?_⟩
    rw [List.singleton_append, hg]
    exact goO_Lx hr.symm ih
theorem escL_len (y : Nat) : ∀ (w : List Nat) (k : Nat), w.length ≤ (escL y k w).length ∧ (escL y k w).length ≤ 2 * w.length
  | [], _ => ⟨Nat.le_refl _, Nat.le_refl _⟩
  | c :: w, k => by
    have ih := escL_len y w (k + 1)
    show _ ≤ (_ ++ escL y (k + 1) w).length ∧ (_ ++ escL y (k + 1) w).length ≤ _
    rw [List.length_append, List.length_cons]
    split
    · simp only [List.length_cons, List.length_nil]; omega
    · simp only [List.length_cons, List.length_nil]; omega
theorem cardS_len {m x y : Nat} (h1 : 208 ≤ m) (h2 : m ≤ 267) : 2 ≤ (cardS m x y).cps.toList.length ∧ (cardS m x y).cps.toList.length ≤ 9 := by
  have hw := cardW_ok (x := x) h1 h2
  obtain ⟨c, hc, e⟩ := cardS_l m x y
  have h3 := hw.len
  have h4 := List.length_pos_iff.mpr hw.ne
  have h5 := escL_len y (cardW m x).cps.toList 0
  rw [e, List.length_append]
  unfold cardL
  split
  · simp only [List.length_cons, List.length_append, List.length_nil]; omega
  · simp only [List.length_cons, List.length_nil]; omega
theorem flat_len {α : Type} (f : α → List Nat) : ∀ l : List α, (∀ a ∈ l, 2 ≤ (f a).length ∧ (f a).length ≤ 9) → 2 * l.length ≤ (l.flatMap f).length ∧ (l.flatMap f).length ≤ 9 * l.length
  | [], _ => ⟨Nat.le_refl _, Nat.le_refl _⟩
  | a :: l, h => by
    have ih := flat_len f l (fun b hb => h b (List.mem_cons_of_mem _ hb))
    have ha := h a List.mem_cons_self
    rw [List.flatMap_cons, List.length_append, List.length_cons]
    omega
theorem sum_le9 {α : Type} (f : α → Nat) : ∀ l : List α, (∀ a ∈ l, f a ≤ 9) → (l.map f).sum ≤ 9 * l.length
  | [], _ => Nat.le_refl _
  | a :: l, h => by
    have ih := sum_le9 f l (fun b hb => h b (List.mem_cons_of_mem _ hb))
    have ha := h a List.mem_cons_self
    rw [List.map_cons, List.sum_cons, List.length_cons]
    omega
theorem cN_eq (size step visits : Nat) (h : 5 ≤ size) : ((cN size step visits : Nat) : Int) = (-(visits : Int) * step).fmod size := by
  have hb := fm_b (-(visits : Int) * step) (size : Int) (by omega)
  unfold cN
  omega
theorem b267 {base size k : Nat} (hb : 208 ≤ base ∧ base ≤ 257) (hz : 5 ≤ size ∧ size ≤ 12) (hk : k < size - 1) : 208 ≤ base + k ∧ base + k ≤ 267 := by omega
theorem pred_eq {size : Nat} (hz : 5 ≤ size ∧ size ≤ 12) : size - 1 + 1 = size := by omega
theorem le12 {size k visits : Nat} (hz : 5 ≤ size ∧ size ≤ 12) (h : visits ≤ size) (hk : k < visits) : k ≤ 12 := by omega
theorem small147 {a b n : Nat} (h : a ≤ 144 ∧ b ≤ 3) (e : n = a + b) : n < 1000 := by omega
theorem flat_b {f n : Nat} (hz : 5 ≤ n ∧ n ≤ 12) (h : 2 * (n - 1) ≤ f ∧ f ≤ 9 * (n - 1)) : 1 ≤ f ∧ f ≤ 900 ∧ f - 1 < 1000 ∧ n ≤ f - 1 + 1 := by omega
theorem sum_b {f n : Nat} (hz : 5 ≤ n ∧ n ≤ 12) (h : f ≤ 9 * (n - 1)) : f + (n - 1) ≤ 1048576 := by omega
theorem hpure (b : Bool) (rs : List Int) (size step visits base : Nat) (_ : RowOk rs) (hz : 5 ≤ size ∧ size ≤ 12) (hs : 1 ≤ step ∧ step ≤ size) (h1 : 1 ≤ visits) (h2 : visits ≤ perN size step) (hb : 208 ≤ base ∧ base ≤ 257) : LawOk b rs size step visits base := by
  have T := trip_all hz hs h1 h2
  have hcm : ∀ c ∈ cardsL rs base (size - 1), 2 ≤ c.cps.toList.length ∧ c.cps.toList.length ≤ 9 := fun c hc => by
    obtain ⟨k, hk, rfl⟩ := List.mem_map.mp hc
    have hk := List.mem_range.mp hk
    exact cardS_len (b267 hb hz hk).1 (b267 hb hz hk).2
  have hcl : (cardsL rs base (size - 1)).length = size - 1 := by simp [cardsL]
  have hflat := flat_len (fun c : Str => c.cps.toList) _ hcm
  rw [hcl] at hflat
  have hsum := sum_le9 (fun c : Str => c.length) (cardsL rs base (size - 1)) (fun c hc => by have := (hcm c hc).2; simpa [Str.length] using this)
  have hjl := join_l (cardsL rs base (size - 1))
  have hjn : (Txt.join (Str.ofString "") (cardsL rs base (size - 1))).length = (Txt.join (Str.ofString "") (cardsL rs base (size - 1))).cps.toList.length := by simp [Str.length]
  have hds := joinedS_l (cardsL rs base (size - 1)) (by rw [hjl]; exact (flat_b hz hflat).1)
  have hdl : (joinedS (cardsL rs base (size - 1))).cps.size = ((cardsL rs base (size - 1)).flatMap fun c => c.cps.toList).length - 1 := by
    rw [← Array.length_toList, hds, List.length_dropLast]
  have hword : ∀ j, j < size - 1 → WordOk (cardW (base + j) (rs.getD (4 + j) 0).toNat) (base + j) := fun j hj => cardW_ok (b267 hb hz hj).1 (b267 hb hz hj).2
  have hst := start_abs (size := size) (by omega) hword
  generalize hxs : (List.range (size - 1)).map (fun j => cardW (base + j) (rs.getD (4 + j) 0).toNat) ++ [S []] = xs at hst
  generalize hwv : (fun j : Nat => if j < size - 1 then (cardW (base + j) (rs.getD (4 + j) 0).toNat).cps.toList else []) = wv at *
  have hst' : xs.map abs = (startA size).map fun p => (wv p.1, p.2) := by rw [hst, ← hwv]
  have hwl : ∀ j, (wv j).length ≤ 3 := fun j => by
    rw [← hwv]
    show (if j < size - 1 then (cardW (base + j) (rs.getD (4 + j) 0).toNat).cps.toList else []).length ≤ 3
    split
    · exact (hword j ‹_›).len
    · exact Nat.zero_le _
  have hxl : xs.length = size := by rw [← hxs, List.length_append, List.length_map, List.length_range, List.length_singleton]; exact pred_eq hz
  have hst0 : ∀ p ∈ startA size, p.2 = 0 := fun p hp => by obtain ⟨j, _, rfl⟩ := List.mem_map.mp hp; rfl
  have hvk : ∀ k, (visN (rs.getD 26 0).toNat step k xs).map abs = (visG step k (startA size)).map fun p => (wv p.1, p.2) := fun k => by rw [visN_abs, hst', visG_map]
  have hvb : ∀ k, k ≤ 12 → ∀ y ∈ visN (rs.getD 26 0).toNat step k xs, (abs y).2 ≤ 144 ∧ (abs y).1.length ≤ 3 := fun k hk y hy => by
    have hm := List.mem_map_of_mem (f := abs) hy
    rw [hvk k] at hm
    obtain ⟨p, hp, e⟩ := List.mem_map.mp hm
    rw [← e]
    refine ⟨?_, hwl _⟩
    have := visG_bound hst0 k p hp
    have := Nat.mul_le_mul hk hk
    simp only; omega
  have hend : (rotN (cN size step visits) (visN (rs.getD 26 0).toNat step visits xs)).map abs = (endA size step visits).map fun p => (wv p.1, p.2) := by
    rw [rotN_G, rotG_map, hvk]
    unfold endA
    rw [rotG_map]
  have hvis := T.vis
  have hisw : ∀ j, j < size → IsW (wv j) (if j < size - 1 then ((base + j : Nat) : Int) else 0) := fun j hj => by
    rw [← hwv]
    by_cases h : j < size - 1
    · simp only [if_pos h]; exact isW_word (hword j h)
    · simp only [if_neg h]; exact isW_end
  have hmem : ∀ y ∈ rotN (cN size step visits) (visN (rs.getD 26 0).toNat step visits xs), (abs y).2 ≤ 144 := fun y hy => by
    rw [rotN_G] at hy
    exact (hvb visits (by omega) y (rotG_mem _ hy)).1
  refine ⟨T.vis, joinOk_of_weight (by rw [hcl]; rw [hcl] at hsum; exact sum_b hz hsum) (by decide), by rw [hjn, hjl]; exact (flat_b hz hflat).2.1, by rw [hdl]; exact (flat_b hz hflat).2.2.1, ?_, T.hp⟩
  obtain ⟨z, ks, hth⟩ := T.three b
  refine ⟨xs, cN size step visits, z, ks, ?_, hxl, ?_, cN_eq _ _ _ hz.1, fun k hk y hy => ?_, ?_, fun y hy => ?_, ?_, ?_, ?_, hth⟩
  · rw [hds]
    have hl := lx_cards ((List.range (size - 1)).map fun k => (base + k, (rs.getD (4 + k) 0).toNat, (rs.getD (15 + k) 0).toNat)) (by
      intro q
      have := congrArg List.length q
      rw [List.length_map, List.length_range, List.length_nil] at this
      omega) (fun t ht => by
      obtain ⟨k, hk, rfl⟩ := List.mem_map.mp ht
      have hk := List.mem_range.mp hk
      exact b267 hb hz hk)
    rw [List.flatMap_map, List.map_map] at hl
    rw [← hxs]
    unfold cardsL
    rw [List.flatMap_map]
    exact hl
  · rw [hxl]
    show size ≤ (joinedS (cardsL rs base (size - 1))).cps.size + 1
    rw [hdl]; exact (flat_b hz hflat).2.2.2
  · exact small147 (hvb k (le12 hz hvis hk) y hy) (abs_size y)
  · rw [rotN_length, visN_length, hxl]
  · have hm := List.mem_map_of_mem (f := abs) hy
    rw [hend] at hm
    obtain ⟨p, hp, e⟩ := List.mem_map.mp hm
    have hj : p.1 ∈ (endA size step visits).map (·.1) := List.mem_map_of_mem hp
    rw [T.idx] at hj
    have hj := List.mem_range.mp hj
    exact (num_of (hisw p.1 hj) (by rw [← e]) (Nat.le_trans (hmem y hy) (by decide))).1
  · have e : ((rotN (cN size step visits) (visN (rs.getD 26 0).toNat step visits xs)).map fun y => (footN y : Int)) = ((rotN (cN size step visits) (visN (rs.getD 26 0).toNat step visits xs)).map abs).map fun q => (q.2 : Int) := by
      rw [List.map_map]; rfl
    rw [e, hend, List.map_map]
    exact T.ft
  · have e : (rotN (cN size step visits) (visN (rs.getD 26 0).toNat step visits xs)).map numOf = ((rotN (cN size step visits) (visN (rs.getD 26 0).toNat step visits xs)).map abs).map fun q => numB (Txt.join (Str.ofString "") (q.1.map b3fn)) := by
      rw [List.map_map]; rfl
    have e2 : ((endA size step visits).map fun p => (wv p.1, p.2)).map (fun q => numB (Txt.join (Str.ofString "") (q.1.map b3fn))) = ((endA size step visits).map (·.1)).map fun j => numB (Txt.join (Str.ofString "") ((wv j).map b3fn)) := by
      rw [List.map_map, List.map_map]; rfl
    rw [e, hend, e2, T.idx]
    have e3 : (List.range size).map (fun j => numB (Txt.join (Str.ofString "") ((wv j).map b3fn))) = (List.range size).map fun j => if j < size - 1 then ((base + j : Nat) : Int) else 0 :=
      List.map_congr_left fun j hj => (hisw j (List.mem_range.mp hj)).nm
    rw [e3]
    have hz1 : size = (size - 1) + 1 := (pred_eq hz).symm
    conv => lhs; rw [hz1, List.range_succ]
    rw [List.map_append]
    congr 1
    · refine List.map_congr_left fun j hj => ?_
      have hj := List.mem_range.mp hj
      rw [if_pos (show j < size - 1 + 1 - 1 from hj)]
    · rw [List.map_singleton, if_neg (show ¬ (size - 1 < size - 1 + 1 - 1) from Nat.lt_irrefl _)]
  · rw [List.length_append, List.length_singleton]
    have := T.stl
    unfold feetA at this
    rw [this]
end Mine
end
set_option maxRecDepth 100000 in
theorem PySem.Challenge.cw_sn0082_01_holds : PySem.Challenge.rw_sn0082_01.Holds := by
  exact Mine.head0 (fun hdef => Mine.walk0 Mine.hpure hdef)
