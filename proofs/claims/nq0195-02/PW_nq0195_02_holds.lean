import PyProof.Rows.All
import Wide.All
import OpenK.AllK
import Wide.FinOn
import Lean
import PySem.Challenge.RW_nq0195_02
set_option Elab.async false
set_option linter.all false

noncomputable section
open PySem PySem.W PyProof.Rows
namespace Mine
noncomputable def keepL (is : List Nat) (l : List Stmt) : List Stmt := is.filterMap fun i => l[i]?
abbrev p02 : Program := PySem.Challenge.rw_nq0195_02.row.prog
noncomputable def q02 : Program := { p02 with main := { p02.main with body := keepL [0, 2, 3, 4, 5, 6, 8, 11, 12, 13, 14, 16, 17, 18, 19, 20, 21] p02.main.body } }
noncomputable def loose02 : List Str := ["_NodeInfo", "_initial_missing", "reduce"]
noncomputable def xt02 (s : Shared) : Bool := xlAt q02 [] s && recOk (RowW.records PySem.Challenge.rw_nq0195_02.row.toRowW) s
theorem left_of {p q : Program} {loose : List Str} {Xt : Shared → Bool} {α : Type} {Yf : Shared → α} {Ya : World → α} {N : Nat} (a : ∀ w, (openEnds treeTable p w N).map (openSeen q loose (importedModules p.main.body) Xt true) = some (openGood q loose))
    (b : ∀ w, (openEnds treeTable p w N).map Yf = some (Ya w)) : LeftO p q loose Xt Yf Ya N := by
  intro w
  obtain ⟨s, e1, e2⟩ := Option.map_eq_some_iff.mp (a w)
  obtain ⟨s', e3, e4⟩ := Option.map_eq_some_iff.mp (b w)
  rw [e1] at e3
  cases e3
  rw [e1]
  show some (_, _) = _
  rw [e2, e4]
theorem hook_k {K : Params → Frag} {as : List Addr} {e : ∀ P, as = (K P).map (·.1)} {ts : List Addr} {f : World → Option Shared} (n : Nat) (a : ∀ w, (f w).map (fun s => (as.take n).map s.heap.get?) = some (((K w.params).take n).map fun p => some p.2))
    (b : ∀ w, (f w).map (fun s => ((as.drop n).map s.heap.get?, ts.map s.heap.get?)) = some (((K w.params).drop n).map fun p => some p.2, ts.map fun _ => some (tabObj #[]))) : ∀ w, (f w).map (Hook.obs (kmHook K as e ts)) = some (Hook.val (kmHook K as e ts) w) := by
  intro w
  have a := a w
  have b := b w
  obtain ⟨s, e1, e2⟩ := Option.map_eq_some_iff.mp a
  rw [e1] at b ⊢
  have b := Option.some.inj b
  obtain ⟨b1, b2⟩ := Prod.mk.inj b
  show some (as.map s.heap.get?, ts.map s.heap.get?) = some ((K w.params).map (fun p => some p.2), ts.map fun _ => some (tabObj #[]))
  rw [b2, ← List.take_append_drop n as, ← List.take_append_drop n (K w.params), List.map_append, List.map_append, e2, b1]
theorem seen_split {A B C R : Type} {f : World → Option Shared} {S : Shared → A × B × C × R} {G : A × B × C × R} (a : ∀ w, (f w).map (fun s => ((S s).1, (S s).2.1, (S s).2.2.1)) = some (G.1, G.2.1, G.2.2.1)) (b : ∀ w, (f w).map (fun s => (S s).2.2.2) = some G.2.2.2) : ∀ w, (f w).map S = some G := by
  intro w
  have a := a w
  have b := b w
  obtain ⟨s, e1, e2⟩ := Option.map_eq_some_iff.mp a
  rw [e1] at b ⊢
  have b := Option.some.inj b
  obtain ⟨h1, h2⟩ := Prod.mk.inj e2
  obtain ⟨h2, h3⟩ := Prod.mk.inj h2
  exact congrArg some (Prod.ext h1 (Prod.ext h2 (Prod.ext h3 b)))
theorem split2 {A B C : Prop} (f : A → B → C) (h : A ∧ B) : C := f h.1 h.2
set_option maxRecDepth 100000 in
theorem left02a : ∀ w, (openEnds treeTable p02 w 2996).map (fun s => ((openSeen q02 loose02 (importedModules p02.main.body) xt02 true s).1, (openSeen q02 loose02 (importedModules p02.main.body) xt02 true s).2.1, (openSeen q02 loose02 (importedModules p02.main.body) xt02 true s).2.2.1)) = some ((openGood q02 loose02).1, (openGood q02 loose02).2.1, (openGood q02 loose02).2.2.1) := by intro w; kernel_rfl
set_option maxRecDepth 100000 in
theorem left02b : ∀ w, (openEnds treeTable p02 w 2996).map (fun s => (openSeen q02 loose02 (importedModules p02.main.body) xt02 true s).2.2.2) = some (openGood q02 loose02).2.2.2 := by intro w; kernel_rfl
theorem left02 : ∀ w, (openEnds treeTable p02 w 2996).map (openSeen q02 loose02 (importedModules p02.main.body) xt02 true) = some (openGood q02 loose02) := seen_split left02a left02b
noncomputable def d02 : DefRec × List (Str × Expr) := (defOf q02 "law").get (by kernel_rfl)
local macro_rules | `(tactic| o_law) => `(tactic| refine holds_law (by kernel_rfl) fun said => ?_)
local macro_rules | `(tactic| o_head $H) => `(tactic| refine split2 (A := ∀ w, (openEnds treeTable p02 w 2996).map (Hook.obs $H) = some (Hook.val $H w)) (B := WalkO q02 loose02 (XL q02 []) (Hook.says $H) PySem.Challenge.rw_nq0195_02.row.toRowW d02.1 d02.2 fun f vs => PySem.call f vs) (fun hook b => holds_open (d := d02.1) (kwd := d02.2) (q := q02) (loose := loose02) (Xt := xt02) (XP := XL q02 []) (Yf := Hook.obs $H) (Ya := Hook.val $H) (YP := Hook.says $H) (N := 2996) (left_of left02 hook) (Hook.of $H) (Hook.keeps $H) (fun s e => xl_of s (Bool.and_eq_true_iff.mp e).1) XL.keeps (by rfl) (by rfl) (by rfl) (fun s e => recFacts_of (Bool.and_eq_true_iff.mp e).2) (by rfl) (by assumption) (by decide +kernel) ⟨rfl, rfl, rfl, rfl, rfl, by decide +kernel⟩ ?hw b) ?hc)
set_option maxRecDepth 100000 in
set_option maxHeartbeats 8000000 in
open_top hd02 for PySem.Challenge.rw_nq0195_02
noncomputable def as02 : List Addr := [2, 3, 15, 17, 18, 20, 21, 29, 30, 32, 33, 35, 36, 37, 39, 40, 41, 42, 43, 46, 53, 54, 55, 56, 66, 67, 69, 70, 72, 73, 74, 76, 77, 79, 80, 81, 83, 84, 86, 87, 88, 91, 92, 93, 95, 96, 98, 99, 100, 102, 103, 105, 106, 107, 109, 110, 112, 113, 114, 116, 117, 119, 120, 121, 123, 124, 126, 127, 128, 130, 131, 133, 134, 135, 136, 137, 138, 139, 142, 143, 144, 146, 147, 149, 150, 151, 153, 154, 156, 157, 158, 160, 161, 163, 164, 165, 167, 168, 170, 171, 172, 174, 175, 177, 178, 179, 182, 183, 184, 186, 187, 189, 190, 191, 193, 194, 196, 197, 198, 201, 202, 203, 206, 207, 208, 211, 212]
set_option maxRecDepth 100000 in
theorem hook02a : ∀ w, (openEnds treeTable p02 w 2996).map (fun s => (as02.take 64).map s.heap.get?) = some (((hd02.heap_1 w.params).take 64).map fun p => some p.2) := by intro w; kernel_rfl
set_option maxRecDepth 100000 in
theorem hook02b : ∀ w, (openEnds treeTable p02 w 2996).map (fun s => ((as02.drop 64).map s.heap.get?, ([192] : List Addr).map s.heap.get?)) = some (((hd02.heap_1 w.params).drop 64).map fun p => some p.2, ([192] : List Addr).map fun _ => some (tabObj #[])) := by intro w; kernel_rfl
end Mine
end

noncomputable section
open PySem PySem.W PyProof.Rows
namespace Mine

inductive V where
  | none
  | bool (b : Bool)
  | int (i : Int)
  | str (s : Str)
  | tup (xs : List V)
  | ref (a : Addr)
  | con (v : Value)

mutual
noncomputable def VR (h : Heap) : V → Value → Prop
  | .none, v => v = .none
  | .bool b, v => v = .bool b
  | .int i, v => ∃ t, v = .int i t
  | .str s, v => ∃ t, v = .str s t
  | .ref a, v => v = .ref a
  | .con c, v => v = c
  | .tup xs, v => ∃ a vs n, v = .ref a ∧ IsT h a vs.toArray n ∧ VRs h xs vs
noncomputable def VRs (h : Heap) : List V → List Value → Prop
  | [], vs => vs = []
  | x :: xs, vs => ∃ v r, vs = v :: r ∧ VR h x v ∧ VRs h xs r
end

theorem VR.mkInt (h : Heap) (i : Int) (t : Tok) : VR h (.int i) (.int i t) := by simp [VR]
theorem VR.mkBool (h : Heap) (b : Bool) : VR h (.bool b) (.bool b) := by simp [VR]
theorem VR.mkNone (h : Heap) : VR h .none .none := by simp [VR]
theorem VR.mkRef (h : Heap) (a : Addr) : VR h (.ref a) (.ref a) := by simp [VR]
theorem VR.mkCon (h : Heap) (v : Value) : VR h (.con v) v := by simp [VR]
theorem VR.mkStr (h : Heap) (x : Str) (t : Tok) : VR h (.str x) (.str x t) := by simp [VR]
theorem VR.unInt {h : Heap} {i : Int} {v : Value} (e : VR h (.int i) v) : ∃ t, v = .int i t := by simpa [VR] using e
theorem VR.unBool {h : Heap} {b : Bool} {v : Value} (e : VR h (.bool b) v) : v = .bool b := by simpa [VR] using e
theorem VR.unNone {h : Heap} {v : Value} (e : VR h .none v) : v = .none := by simpa [VR] using e
theorem VR.unRef {h : Heap} {a : Addr} {v : Value} (e : VR h (.ref a) v) : v = .ref a := by simpa [VR] using e
theorem VR.unCon {h : Heap} {c v : Value} (e : VR h (.con c) v) : v = c := by simpa [VR] using e
theorem VR.unTup {h : Heap} {xs : List V} {v : Value} (e : VR h (.tup xs) v) : ∃ a vs n, v = .ref a ∧ IsT h a vs.toArray n ∧ VRs h xs vs := by simpa [VR] using e
theorem VR.mkTup {h : Heap} {xs : List V} {a : Addr} {vs : List Value} {n : Nat} (e : IsT h a vs.toArray n) (f : VRs h xs vs) : VR h (.tup xs) (.ref a) := by simp only [VR]; exact ⟨a, vs, n, rfl, e, f⟩

noncomputable def TK (h h' : Heap) : Prop := ∀ b items n, IsT h b items n → IsT h' b items n
theorem TK.trans {a b c : Heap} (x : TK a b) (y : TK b c) : TK a c := fun i j n z => y i j n (x i j n z)

mutual
theorem VR.mono {h h' : Heap} (k : TK h h') : ∀ {x : V} {v : Value}, VR h x v → VR h' x v
  | .none, _, e => by simpa [VR] using e
  | .bool _, _, e => by simpa [VR] using e
  | .int _, _, e => by simpa [VR] using e
  | .str _, _, e => by simpa [VR] using e
  | .ref _, _, e => by simpa [VR] using e
  | .con _, _, e => by simpa [VR] using e
  | .tup xs, _, e => by
    simp only [VR] at e ⊢
    obtain ⟨a, vs, n, e1, e2, e3⟩ := e
    exact ⟨a, vs, n, e1, k _ _ _ e2, VRs.mono k e3⟩
theorem VRs.mono {h h' : Heap} (k : TK h h') : ∀ {xs : List V} {vs : List Value}, VRs h xs vs → VRs h' xs vs
  | [], _, e => by simpa [VRs] using e
  | x :: xs, _, e => by
    simp only [VRs] at e ⊢
    obtain ⟨v, r, e1, e2, e3⟩ := e
    exact ⟨v, r, e1, VR.mono k e2, VRs.mono k e3⟩
end

theorem VRs.length {h : Heap} : ∀ {xs : List V} {vs : List Value}, VRs h xs vs → vs.length = xs.length
  | [], _, e => by simp [VRs] at e; simp [e]
  | x :: xs, _, e => by
    simp only [VRs] at e
    obtain ⟨v, r, rfl, _, e3⟩ := e
    simp [e3.length]
theorem VRs.get {h : Heap} : ∀ {xs : List V} {vs : List Value} {i : Nat} {x : V}, VRs h xs vs → xs[i]? = some x → ∃ v, vs[i]? = some v ∧ VR h x v
  | [], _, _, _, _, hx => by simp at hx
  | y :: xs, _, i, x, e, hx => by
    simp only [VRs] at e
    obtain ⟨v, r, rfl, e2, e3⟩ := e
    cases i with
    | zero => simp at hx; subst hx; exact ⟨v, by simp, e2⟩
    | succ j => simp at hx; obtain ⟨v', h1, h2⟩ := e3.get hx; exact ⟨v', by simpa using h1, h2⟩
theorem VRs.append {h : Heap} : ∀ {xs : List V} {vs : List Value} {ys : List V} {us : List Value}, VRs h xs vs → VRs h ys us → VRs h (xs ++ ys) (vs ++ us)
  | [], _, _, _, e, f => by simp [VRs] at e; subst e; simpa using f
  | x :: xs, _, _, _, e, f => by
    simp only [VRs] at e
    obtain ⟨v, r, rfl, e2, e3⟩ := e
    simp only [List.cons_append, VRs]
    exact ⟨v, _, rfl, e2, e3.append f⟩
theorem VRs.one {h : Heap} {x : V} {v : Value} (e : VR h x v) : VRs h [x] [v] := by simp only [VRs]; exact ⟨v, [], rfl, e, rfl⟩
theorem VRs.nil {h : Heap} : VRs h [] [] := by simp [VRs]
theorem VRs.cons {h : Heap} {x : V} {v : Value} {xs : List V} {vs : List Value} (e : VR h x v) (f : VRs h xs vs) : VRs h (x :: xs) (v :: vs) := by
  simp only [VRs]; exact ⟨v, vs, rfl, e, f⟩
theorem VRs.set {h : Heap} : ∀ {xs : List V} {vs : List Value} {i : Nat} {x : V} {v : Value}, VRs h xs vs → VR h x v → VRs h (xs.set i x) (vs.set i v)
  | [], _, _, _, _, e, _ => by simp [VRs] at e; subst e; simp [VRs]
  | y :: xs, _, i, x, v, e, hv => by
    simp only [VRs] at e
    obtain ⟨w, r, rfl, e2, e3⟩ := e
    cases i with
    | zero => simp only [List.set_cons_zero]; exact VRs.cons hv e3
    | succ j => simp only [List.set_cons_succ]; exact VRs.cons e2 (e3.set hv)

inductive O where
  | list (xs : List V)
  | dict (kvs : List (Int × V)) (ep : Nat)
  | set (ks : List Int)
  | inst (C dx : Addr) (os : List (Option V))
  | adict (fs : List (Str × V))
  | liter (l : Addr) (i : Nat)
  | nextm (it : Addr)
  | raw (ob : Obj)
  | dead

inductive SlR (h : Heap) : List (Option V) → List (Option Value) → Prop
  | nil : SlR h [] []
  | free {os sl} : SlR h os sl → SlR h (none :: os) (none :: sl)
  | held {os sl v rv} : VR h v rv → SlR h os sl → SlR h (some v :: os) (some rv :: sl)
theorem SlR.mono {h h' : Heap} (k : TK h h') {os : List (Option V)} {sl : List (Option Value)} (x : SlR h os sl) : SlR h' os sl := by
  induction x with
  | nil => exact .nil
  | free _ ih => exact .free ih
  | held v _ ih => exact .held (v.mono k) ih
theorem SlR.length {h : Heap} {os : List (Option V)} {sl : List (Option Value)} (x : SlR h os sl) : sl.length = os.length := by
  induction x with
  | nil => rfl
  | free _ ih => simp [ih]
  | held _ _ ih => simp [ih]
theorem SlR.get {h : Heap} {os : List (Option V)} {sl : List (Option Value)} (x : SlR h os sl) {i : Nat} {v : V} (e : (os[i]?).join = some v) : ∃ rv, (sl[i]?).join = some rv ∧ VR h v rv := by
  induction x generalizing i with
  | nil => simp at e
  | free _ ih =>
    cases i with
    | zero => simp at e
    | succ j => simp at e ⊢; exact ih (by simpa using e)
  | held w _ ih =>
    cases i with
    | zero => simp at e ⊢; subst e; exact w
    | succ j => simp at e ⊢; exact ih (by simpa using e)
theorem SlR.pad {h : Heap} {os : List (Option V)} {sl : List (Option Value)} (x : SlR h os sl) (n : Nat) : SlR h (os ++ List.replicate n none) (sl ++ List.replicate n none) := by
  induction x with
  | nil =>
    induction n with
    | zero => exact .nil
    | succ n ih => exact .free ih
  | free _ ih => exact .free ih
  | held v _ ih => exact .held v ih
theorem SlR.set {h : Heap} {os : List (Option V)} {sl : List (Option Value)} (x : SlR h os sl) {i : Nat} {v : V} {rv : Value} (e : VR h v rv) : SlR h (os.set i (some v)) (sl.set i (some rv)) := by
  induction x generalizing i with
  | nil => exact .nil
  | free y ih =>
    cases i with
    | zero => exact .held e y
    | succ j => exact .free ih
  | held w y ih =>
    cases i with
    | zero => exact .held e y
    | succ j => exact .held w ih

abbrev IsLI (h : Heap) (a l : Addr) (i : Nat) : Prop := h.get? a = some { cls := .type "list_iterator", dict := none, data := .fields #[.ref l, .int i 0], slots := #[] }
theorem IsLI.li {h : Heap} {a l : Addr} {i : Nat} (x : IsLI h a l i) : h.IsListIter a l i := ⟨_, x, rfl, rfl⟩
set_option genInjectivity false in
set_option genSizeOf false in
structure Cx where
  prog : Program
  w : World
  h₀ : Heap

abbrev Hp := Addr → Option O
noncomputable def Hp.set (hp : Hp) (a : Addr) (o : O) : Hp := fun b => if b = a then some o else hp b
theorem Hp.set_self (hp : Hp) (a : Addr) (o : O) : hp.set a o a = some o := by simp [Hp.set]
theorem Hp.set_ne (hp : Hp) {a b : Addr} (o : O) (h : b ≠ a) : hp.set a o b = hp b := by simp [Hp.set, h]

noncomputable def OAt (X : Cx) (h : Heap) (a : Addr) : O → Prop
  | .list xs => ∃ vs : List Value, h.PlainList a vs.toArray ∧ VRs h xs vs
  | .dict kvs ep => ∃ rk : List (Int × Value), h.DictAt (intKind X.prog X.w) a rk ep ∧ rk.map (·.1) = kvs.map (·.1) ∧ VRs h (kvs.map (·.2)) (rk.map (·.2))
  | .set ks => h.SetOf (intKind X.prog X.w) a (fun k => ks.contains k) ks.length
  | .inst C dx os => ∃ sl : List (Option Value), h.get? a = some ⟨.ref C, some dx, .plain, sl.toArray⟩ ∧ SlR h os sl
  | .adict fs => ∃ es n, h.get? a = some (dictOf es n) ∧ es.length ≤ fs.length ∧ (∀ x, fs.lookup x = none → getL x es = some none) ∧ ∀ x v, fs.lookup x = some v → ∃ rv, getL x es = some (some rv) ∧ VR h v rv
  | .liter l i => h.get? a = some { cls := .type "list_iterator", dict := none, data := .fields #[.ref l, .int i 0], slots := #[] }
  | .nextm it => h.get? a = some { cls := .type "method-wrapper", dict := none, data := .fields #[.builtin "list_iterator.__next__", .ref it], slots := #[] }
  | .raw ob => h.get? a = some ob ∧ ∀ items n, ob ≠ { cls := .type "tuple", dict := none, data := .seq items n, slots := #[] }
  | .dead => ∃ ob, h.get? a = some ob ∧ ∀ items n, ob ≠ { cls := .type "tuple", dict := none, data := .seq items n, slots := #[] }

end Mine
end

noncomputable section
open PySem PySem.W PyProof.Rows
namespace Mine

noncomputable def NotTup (o : Obj) : Prop := ∀ items n, o ≠ { cls := .type "tuple", dict := none, data := .seq items n, slots := #[] }
theorem NotTup.of_cls {o : Obj} {c : Value} (h : o.cls = c) (hc : c ≠ .type "tuple") : NotTup o := by rintro i n rfl; exact hc h.symm
theorem NotTup.of_dict {o : Obj} {es n} (h : o.data = .dict es n) : NotTup o := by rintro i n rfl; cases h
theorem NotTup.of_cell {o : Obj} {v} (h : o.data = .cell v) : NotTup o := by rintro i n rfl; cases h

theorem OAt.alive {X : Cx} {h : Heap} {a : Addr} : ∀ {o : O}, OAt X h a o → ∃ ob, h.get? a = some ob ∧ NotTup ob
  | .list xs, e => by obtain ⟨vs, ⟨n, e⟩, _⟩ := e; exact ⟨_, e, NotTup.of_cls rfl (by simp)⟩
  | .dict kvs ep, e => by obtain ⟨vs, ⟨o, es, e, c, _⟩, _⟩ := e; exact ⟨_, e, NotTup.of_cls c.1 (by simp)⟩
  | .set ks, e => by obtain ⟨o, es, ep, t, e, c, _⟩ := e; exact ⟨_, e, NotTup.of_cls c.1 (by simp)⟩
  | .inst C dx os, e => by obtain ⟨sl, e, _⟩ := e; exact ⟨_, e, NotTup.of_cls rfl (by simp)⟩
  | .adict fs, e => by obtain ⟨es, n, e, _⟩ := e; exact ⟨_, e, NotTup.of_cls rfl (by simp)⟩
  | .liter l i, e => ⟨_, e, NotTup.of_cls rfl (by simp)⟩
  | .nextm _, e => ⟨_, e, NotTup.of_cls rfl (by simp)⟩
  | .raw _, e => ⟨_, e.1, e.2⟩
  | .dead, e => e

theorem OAt.keep {X : Cx} {h h' : Heap} {a : Addr} (k : ∀ ob, h.get? a = some ob → h'.get? a = some ob) (t : TK h h') : ∀ {o : O}, OAt X h a o → OAt X h' a o
  | .list xs, e => by obtain ⟨vs, e, f⟩ := e; exact ⟨vs, e.at k, f.mono t⟩
  | .dict kvs ep, e => by obtain ⟨rk, e, g, f⟩ := e; exact ⟨rk, e.at' k, g, f.mono t⟩
  | .set ks, e => by obtain ⟨o, es, ep, t, e, c⟩ := e; exact ⟨o, es, ep, t, k _ e, c⟩
  | .inst C dx os, e => by obtain ⟨sl, e, f⟩ := e; exact ⟨sl, k _ e, f.mono t⟩
  | .adict fs, e => by
    obtain ⟨es, n, e, l, nn, f⟩ := e
    exact ⟨es, n, k _ e, l, nn, fun x v hx => by obtain ⟨rv, g, q⟩ := f x v hx; exact ⟨rv, g, q.mono t⟩⟩
  | .liter l i, e => k _ e
  | .nextm _, e => k _ e
  | .raw _, e => ⟨k _ e.1, e.2⟩
  | .dead, e => by obtain ⟨ob, e, n⟩ := e; exact ⟨ob, k _ e, n⟩

structure RH (X : Cx) (hp : Hp) (s : Shared) : Prop where
  base : ∀ b o, X.h₀.get? b = some o → s.heap.get? b = some o
  bfree : ∀ b o, X.h₀.get? b = some o → hp b = none
  own : ∀ a o, hp a = some o → OAt X s.heap a o

structure Ev (pv fr : List Addr) (hp : Hp) (s : Shared) (hp' : Hp) (s' : Shared) : Prop where
  keep : ∀ b o, s.heap.get? b = some o → hp b = none → b ∉ pv → b ∉ fr → s'.heap.get? b = some o
  slots : ∀ b o, s.heap.get? b = some o → hp b = none → b ∉ pv → b ∈ fr → ∃ sl, s'.heap.get? b = some { o with slots := sl }
  sub : ∀ b o, s.heap.get? b = some o → hp b = none → hp' b = none
  alive : ∀ b o, s.heap.get? b = some o → ∃ o', s'.heap.get? b = some o'
  rest : ∃ h' tk, s' = { s with heap := h', toks := tk }

theorem Ev.refl {pv fr : List Addr} {hp : Hp} {s : Shared} : Ev pv fr hp s hp s := ⟨fun _ _ e _ _ _ => e, fun _ o e _ _ _ => ⟨o.slots, e⟩, fun _ _ _ e => e, fun _ _ e => ⟨_, e⟩, ⟨s.heap, s.toks, rfl⟩⟩
theorem Ev.trans {pv fr : List Addr} {hp hp' hp'' : Hp} {s s' s'' : Shared} (x : Ev pv fr hp s hp' s') (y : Ev pv fr hp' s' hp'' s'') : Ev pv fr hp s hp'' s'' := by
  refine ⟨fun b o e n p q => y.keep b o (x.keep b o e n p q) (x.sub b o e n) p q, fun b o e n p q => ?_, fun b o e n => ?_, fun b o e => ?_, ?_⟩
  · obtain ⟨sl, e1⟩ := x.slots b o e n p q
    obtain ⟨sl', e2⟩ := y.slots b _ e1 (x.sub b o e n) p q
    exact ⟨sl', e2⟩
  · obtain ⟨o', e'⟩ := x.alive b o e
    exact y.sub b o' e' (x.sub b o e n)
  · obtain ⟨o', e'⟩ := x.alive b o e
    exact y.alive b o' e'
  · obtain ⟨h1, t1, rfl⟩ := x.rest
    obtain ⟨h2, t2, rfl⟩ := y.rest
    exact ⟨h2, t2, rfl⟩
theorem Ev.weaken {pv fr : List Addr} {hp hp' : Hp} {s s' : Shared} (x : Ev [] [] hp s hp' s') : Ev pv fr hp s hp' s' := ⟨fun b o e n _ _ => x.keep b o e n (by simp) (by simp), fun b o e n _ _ => ⟨o.slots, x.keep b o e n (by simp) (by simp)⟩, x.sub, x.alive, x.rest⟩
theorem Ev.wpv {pv fr : List Addr} {hp hp' : Hp} {s s' : Shared} (x : Ev [] fr hp s hp' s') : Ev pv fr hp s hp' s' := ⟨fun b o e n _ q => x.keep b o e n (by simp) q, fun b o e n _ q => x.slots b o e n (by simp) q, x.sub, x.alive, x.rest⟩
theorem Ev.wfr {pv fr : List Addr} {hp hp' : Hp} {s s' : Shared} (x : Ev pv [] hp s hp' s') : Ev pv fr hp s hp' s' := ⟨fun b o e n p _ => x.keep b o e n p (by simp), fun b o e n p _ => ⟨o.slots, x.keep b o e n p (by simp)⟩, x.sub, x.alive, x.rest⟩
theorem Ev.toks {pv fr : List Addr} {hp : Hp} {s : Shared} (t : Nat) : Ev pv fr hp s hp { s with toks := t } := ⟨fun _ _ e _ _ _ => e, fun _ o e _ _ _ => ⟨o.slots, e⟩, fun _ _ _ e => e, fun _ _ e => ⟨_, e⟩, ⟨s.heap, t, rfl⟩⟩
theorem Ev.keepD {pv fr : List Addr} {hp hp' : Hp} {s s' : Shared} (x : Ev pv fr hp s hp' s') {b : Addr} {o : Obj} (e : s.heap.get? b = some o) (n : hp b = none) (p : b ∉ pv) : ∃ sl, s'.heap.get? b = some { o with slots := sl } := by
  by_cases q : b ∈ fr
  · exact x.slots b o e n p q
  · exact ⟨o.slots, x.keep b o e n p q⟩

theorem RH.notTup {X : Cx} {hp : Hp} {s : Shared} (H : RH X hp s) {b : Addr} {items n} (t : IsT s.heap b items n) : hp b = none := by
  cases e : hp b with
  | none => rfl
  | some o =>
    obtain ⟨ob, e1, e2⟩ := (H.own b o e).alive
    have t' : s.heap.get? b = _ := t
    rw [e1] at t'
    exact absurd (Option.some.inj t') (e2 _ _)
theorem Ev.tk {X : Cx} {pv fr : List Addr} {hp hp' : Hp} {s s' : Shared} (x : Ev pv fr hp s hp' s') (H : RH X hp s) (P : ∀ b ∈ pv, ∀ o, s.heap.get? b = some o → NotTup o) (Q : ∀ b ∈ fr, ∀ o, s.heap.get? b = some o → NotTup o) : TK s.heap s'.heap := by
  intro b items m t
  exact x.keep b _ t (H.notTup t) (fun hb => P b hb _ t _ _ rfl) fun hb => Q b hb _ t _ _ rfl
theorem Ev.tk0 {X : Cx} {hp hp' : Hp} {s s' : Shared} (x : Ev [] [] hp s hp' s') (H : RH X hp s) : TK s.heap s'.heap := x.tk H (by simp) (by simp)
noncomputable def FrsOk (X : Cx) (fr : List Addr) (hp : Hp) (h : Heap) : Prop := ∀ b ∈ fr, hp b = none ∧ X.h₀.get? b = none ∧ ∃ o es ep, h.get? b = some o ∧ o.data = .dict es ep
theorem FrsOk.not {X : Cx} {fr : List Addr} {hp : Hp} {h : Heap} (x : FrsOk X fr hp h) : ∀ b ∈ fr, ∀ o, h.get? b = some o → NotTup o := by
  intro b hb o e
  obtain ⟨_, _, o', es, ep, e', d⟩ := x b hb
  rw [e] at e'; cases e'; exact .of_dict d
theorem FrsOk.ev {X : Cx} {fr fr' : List Addr} {hp hp' : Hp} {s s' : Shared} (x : FrsOk X fr hp s.heap) (v : Ev [] fr' hp s hp' s') : FrsOk X fr hp' s'.heap := by
  intro b hb
  obtain ⟨n, n0, o, es, ep, e, d⟩ := x b hb
  obtain ⟨sl, e'⟩ := v.keepD e n (by simp)
  exact ⟨v.sub b o e n, n0, _, es, ep, e', d⟩

set_option genInjectivity false in
set_option genSizeOf false in
structure St where
  lo : Nat → Option V
  hp : Hp
noncomputable def setLo (lo : Nat → Option V) (i : Nat) (v : V) : Nat → Option V := fun j => if j = i then some v else lo j
noncomputable def St.setL (st : St) (i : Nat) (v : V) : St := ⟨setLo st.lo i v, st.hp⟩
noncomputable def St.setH (st : St) (a : Addr) (o : O) : St := ⟨st.lo, st.hp.set a o⟩

set_option genInjectivity false in
set_option genSizeOf false in
structure Fx where
  env : Env
  nm : List Str
  pv : List Addr
  fr : List Addr

noncomputable def VarAt (env : Env) (h : Heap) (x : Str) (rv : Value) : Prop := match env.kindOf x with
  | some .local => ∃ m, h.Ns env.locals m ∧ m x = some rv
  | some .cell => ∃ c, env.cells.lookup x = some c ∧ h.IsCell c (some rv)
  | some .free => ∃ c, env.cells.lookup x = some c ∧ h.IsCell c (some rv)
  | _ => False

structure FOk (F : Fx) : Prop where
  kind : F.env.scope.kind = .function
  glob : F.env.globals = mainGlobals
  blt : F.env.builtins = builtinsNs
  nodup : F.nm.Nodup
  loc : F.env.locals ∈ F.pv
  apart : ∀ x y c, F.env.cells.lookup x = some c → F.env.cells.lookup y = some c → x = y
  locNe : ∀ x c, F.env.cells.lookup x = some c → c ≠ F.env.locals

structure RL (X : Cx) (F : Fx) (lo : Nat → Option V) (hp : Hp) (h : Heap) : Prop where
  ns : ∃ m, h.Ns F.env.locals m
  var : ∀ i x v, F.nm[i]? = some x → lo i = some v → ∃ rv, VarAt F.env h x rv ∧ VR h v rv
  cell : ∀ x c, F.env.cells.lookup x = some c → (∃ ov, h.IsCell c ov) ∧ hp c = none
  pv : ∀ b ∈ F.pv, hp b = none ∧ X.h₀.get? b = none ∧ ∃ o, h.get? b = some o ∧ NotTup o

structure R (X : Cx) (F : Fx) (st : St) (s : Shared) : Prop where
  ok : FOk F
  H : RH X st.hp s
  L : RL X F st.lo st.hp s.heap
  fr : FrsOk X F.fr st.hp s.heap

theorem RL.pvNot {X : Cx} {F : Fx} {lo : Nat → Option V} {hp : Hp} {h : Heap} (L : RL X F lo hp h) : ∀ b ∈ F.pv, ∀ o, h.get? b = some o → NotTup o := by
  intro b hb o e
  obtain ⟨_, _, o', e', n⟩ := L.pv b hb
  rw [e] at e'; cases e'; exact n
theorem R.tk {X : Cx} {F : Fx} {st : St} {s s' : Shared} {hp' : Hp} (r : R X F st s) (x : Ev F.pv F.fr st.hp s hp' s') : TK s.heap s'.heap := x.tk r.H r.L.pvNot r.fr.not

theorem ns_sl {h h' : Heap} {a : Addr} {m : Str → Option Value} (x : h.Ns a m) (k : ∀ o, h.get? a = some o → ∃ sl, h'.get? a = some { o with slots := sl }) : h'.Ns a m := by
  obtain ⟨o, es, ep, e, d, r⟩ := x
  obtain ⟨sl, e'⟩ := k o e
  exact ⟨_, es, ep, e', d, r⟩
theorem cell_sl {h h' : Heap} {a : Addr} {v : Option Value} (x : h.IsCell a v) (k : ∀ o, h.get? a = some o → ∃ sl, h'.get? a = some { o with slots := sl }) : h'.IsCell a v := by
  obtain ⟨o, e, d⟩ := x
  obtain ⟨sl, e'⟩ := k o e
  exact ⟨_, e', d⟩
theorem not_sl {o : Obj} {es ep} {sl} (d : o.data = .dict es ep) : NotTup { o with slots := sl } := .of_dict (es := es) (n := ep) d
theorem VarAt.keep {env : Env} {h h' : Heap} {x : Str} {rv : Value} (v : VarAt env h x rv) (k : ∀ o, h.get? env.locals = some o → ∃ sl, h'.get? env.locals = some { o with slots := sl })
    (kc : ∀ c, env.cells.lookup x = some c → ∀ o, h.get? c = some o → ∃ sl, h'.get? c = some { o with slots := sl }) : VarAt env h' x rv := by
  unfold VarAt at v ⊢
  split at v
  · obtain ⟨m, n, e⟩ := v; exact ⟨m, ns_sl n k, e⟩
  · obtain ⟨c, e, hc⟩ := v; exact ⟨c, e, cell_sl hc (kc c e)⟩
  · obtain ⟨c, e, hc⟩ := v; exact ⟨c, e, cell_sl hc (kc c e)⟩
  · exact v

theorem RL.ev {X : Cx} {F : Fx} {fr : List Addr} {lo : Nat → Option V} {hp hp' : Hp} {s s' : Shared} (ok : FOk F) (L : RL X F lo hp s.heap) (H : RH X hp s) (O : FrsOk X fr hp s.heap) (x : Ev [] fr hp s hp' s') : RL X F lo hp' s'.heap := by
  have tk := x.tk H (by simp) O.not
  have kl : ∀ o, s.heap.get? F.env.locals = some o → ∃ sl, s'.heap.get? F.env.locals = some { o with slots := sl } := fun o e => x.keepD e (L.pv _ ok.loc).1 (by simp)
  have kc : ∀ y c, F.env.cells.lookup y = some c → ∀ o, s.heap.get? c = some o → ∃ sl, s'.heap.get? c = some { o with slots := sl } := fun y c hc o e => x.keepD e (L.cell y c hc).2 (by simp)
  refine ⟨?_, fun i y v hi hv => ?_, fun y c hc => ?_, fun b hb => ?_⟩
  · obtain ⟨m, n⟩ := L.ns; exact ⟨m, ns_sl n kl⟩
  · obtain ⟨rv, a, b⟩ := L.var i y v hi hv
    exact ⟨rv, a.keep kl (kc y), b.mono tk⟩
  · obtain ⟨⟨ov, hcc⟩, n⟩ := L.cell y c hc
    obtain ⟨o, e, _⟩ := id hcc
    exact ⟨⟨ov, cell_sl hcc (kc y c hc)⟩, x.sub c o e n⟩
  · obtain ⟨n, n0, o, e, d⟩ := L.pv b hb
    refine ⟨x.sub b o e n, n0, ?_⟩
    by_cases q : b ∈ fr
    · obtain ⟨_, _, o2, es, ep, e2, d2⟩ := O b q
      obtain ⟨sl, e'⟩ := x.slots b o2 e2 n (by simp) q
      exact ⟨_, e', not_sl d2⟩
    · exact ⟨o, x.keep b o e n (by simp) q, d⟩
theorem R.evF {X : Cx} {F : Fx} {st : St} {s s' : Shared} {hp' : Hp} (r : R X F st s) (x : Ev [] F.fr st.hp s hp' s') (H' : RH X hp' s') : R X F ⟨st.lo, hp'⟩ s' := ⟨r.ok, H', r.L.ev r.ok r.H r.fr x, r.fr.ev x⟩
theorem R.ev {X : Cx} {F : Fx} {st : St} {s s' : Shared} {hp' : Hp} (r : R X F st s) (x : Ev [] [] st.hp s hp' s') (H' : RH X hp' s') : R X F ⟨st.lo, hp'⟩ s' := r.evF x.weaken H'
theorem RH.toks {X : Cx} {hp : Hp} {s : Shared} (H : RH X hp s) (t : Nat) : RH X hp { s with toks := t } := ⟨H.base, H.bfree, H.own⟩
theorem R.toks {X : Cx} {F : Fx} {st : St} {s : Shared} (r : R X F st s) (t : Nat) : R X F st { s with toks := t } := ⟨r.ok, r.H.toks t, r.L, r.fr⟩

theorem RH.push {X : Cx} {hp : Hp} {s : Shared} (H : RH X hp s) (o : Obj) : RH X hp { s with heap := s.heap.push o } :=
  ⟨fun b ob e => Heap.get?_push_of_some o (H.base b ob e), H.bfree, fun a ob e => (H.own a ob e).keep (fun _ e => Heap.get?_push_of_some o e) fun _ _ _ t => t.push o⟩
theorem Ev.push {pv fr : List Addr} {hp : Hp} {s : Shared} (o : Obj) : Ev pv fr hp s hp { s with heap := s.heap.push o } :=
  ⟨fun _ _ e _ _ _ => Heap.get?_push_of_some o e, fun _ ob e _ _ _ => ⟨ob.slots, Heap.get?_push_of_some o e⟩, fun _ _ _ e => e, fun _ _ e => ⟨_, Heap.get?_push_of_some o e⟩, ⟨_, s.toks, rfl⟩⟩

theorem get_size {h : Heap} : h.get? h.objs.size = none := by
  cases e : h.get? h.objs.size with
  | none => rfl
  | some o => exact absurd (Heap.lt_size e) (Nat.lt_irrefl _)
theorem RH.sizeFree {X : Cx} {hp : Hp} {s : Shared} (H : RH X hp s) : hp s.heap.objs.size = none := by
  cases e : hp s.heap.objs.size with
  | none => rfl
  | some o =>
    obtain ⟨ob, e1, _⟩ := (H.own _ o e).alive
    rw [get_size] at e1; cases e1
theorem RH.alloc {X : Cx} {hp : Hp} {s : Shared} (H : RH X hp s) (ob : Obj) (o : O) (ho : OAt X (s.heap.push ob) s.heap.objs.size o) : RH X (hp.set s.heap.objs.size o) { s with heap := s.heap.push ob } := by
  refine ⟨(H.push ob).base, fun b q e => ?_, fun a q e => ?_⟩
  · have := Heap.lt_size (H.base b q e)
    rw [Hp.set_ne _ _ (Nat.ne_of_lt this)]; exact H.bfree b q e
  · by_cases ha : a = s.heap.objs.size
    · subst ha; rw [Hp.set_self] at e; cases e; exact ho
    · rw [Hp.set_ne _ _ ha] at e; exact (H.push ob).own a q e
theorem Ev.alloc {pv fr : List Addr} {hp : Hp} {s : Shared} (ob : Obj) (o : O) : Ev pv fr hp s (hp.set s.heap.objs.size o) { s with heap := s.heap.push ob } :=
  ⟨fun _ _ e _ _ _ => Heap.get?_push_of_some ob e, fun _ q e _ _ _ => ⟨q.slots, Heap.get?_push_of_some ob e⟩, fun b q e n => by rw [Hp.set_ne _ _ (Nat.ne_of_lt (Heap.lt_size e))]; exact n, fun _ _ e => ⟨_, Heap.get?_push_of_some ob e⟩, ⟨_, s.toks, rfl⟩⟩

theorem RH.write {X : Cx} {hp : Hp} {s : Shared} {a : Addr} {o o' : O} {h' : Heap} {t : Nat} (H : RH X hp s) (ha : hp a = some o) (sb : Heap.SameBut a s.heap h') (ho : TK s.heap h' → OAt X h' a o') : RH X (hp.set a o') { s with heap := h', toks := t } := by
  have tk : TK s.heap h' := by
    intro b items m hb
    have n := H.notTup hb
    exact (sb.2 b fun e => by subst e; rw [n] at ha; cases ha).trans hb
  refine ⟨fun b q e => ?_, fun b q e => ?_, fun b q e => ?_⟩
  · have n := H.bfree b q e
    exact (sb.2 b fun e => by subst e; rw [n] at ha; cases ha).trans (H.base b q e)
  · have n := H.bfree b q e
    rw [Hp.set_ne _ _ fun e => by subst e; rw [n] at ha; cases ha]; exact n
  · by_cases hb : b = a
    · subst hb; rw [Hp.set_self] at e; cases e; exact ho tk
    · rw [Hp.set_ne _ _ hb] at e
      exact (H.own b q e).keep (fun ob e => (sb.2 b hb).trans e) tk
theorem Ev.write {pv fr : List Addr} {hp : Hp} {s : Shared} {a : Addr} {o o' : O} {h' : Heap} {t : Nat} (ha : hp a = some o) (sb : Heap.SameBut a s.heap h') (al : ∃ ob, h'.get? a = some ob) : Ev pv fr hp s (hp.set a o') { s with heap := h', toks := t } := by
  have kk : ∀ b q, s.heap.get? b = some q → hp b = none → h'.get? b = some q := fun b q e n => (sb.2 b fun e => by subst e; rw [n] at ha; cases ha).trans e
  refine ⟨fun b q e n _ _ => kk b q e n, fun b q e n _ _ => ⟨q.slots, kk b q e n⟩, fun b q e n => ?_, fun b q e => ?_, ⟨h', t, rfl⟩⟩
  · rw [Hp.set_ne _ _ fun e => by subst e; rw [n] at ha; cases ha]; exact n
  · by_cases hb : b = a
    · subst hb; exact al
    · exact ⟨q, (sb.2 b hb).trans e⟩

end Mine
end

noncomputable section
open PySem PySem.W PyProof.Rows
namespace Mine

abbrev MM (X : Cx) : Model := model X.prog X.w
abbrev WE := St → (V → St → Prop) → Prop
abbrev WB := St → (Bool → St → Prop) → Prop
abbrev WH := Hp → (V → Hp → Prop) → Prop
inductive Fl where
  | next | brk | cont
  | ret (v : V)
abbrev WS := St → (Fl → St → Prop) → Prop
noncomputable def FR (h : Heap) : Fl → Flow → Prop
  | .next, f => f = .next
  | .brk, f => f = .brk
  | .cont, f => f = .cont
  | .ret v, f => ∃ rv, f = .ret rv ∧ VR h v rv

noncomputable def SE (X : Cx) (A : Around) (F : Fx) (e : Expr) (W : WE) : Prop := ∀ st s, R X F st s → ∀ P, W st P → ∀ (Q : Value → Shared → Prop) (E : Value → Shared → Prop),
  (∀ v st' rv s', R X F st' s' → Ev F.pv F.fr st.hp s st'.hp s' → VR s'.heap v rv → P v st' → Q rv s') → wpAny (MM X) A (eval e F.env) Q E s
noncomputable def SB (X : Cx) (A : Around) (F : Fx) (e : Expr) (W : WB) : Prop := ∀ st s, R X F st s → ∀ P, W st P → ∀ (Q : Bool → Shared → Prop) (E : Value → Shared → Prop),
  (∀ b st' s', R X F st' s' → Ev F.pv F.fr st.hp s st'.hp s' → P b st' → Q b s') → wpAny (MM X) A (isTrue e F.env (eval e F.env)) Q E s
noncomputable def SS (X : Cx) (A : Around) (F : Fx) (c : Stmt) (W : WS) : Prop := ∀ st s, R X F st s → ∀ P, W st P → ∀ (Q : Flow → Shared → Prop) (E : Value → Shared → Prop),
  (∀ f st' rf s', R X F st' s' → Ev F.pv F.fr st.hp s st'.hp s' → FR s'.heap f rf → P f st' → Q rf s') → wpAny (MM X) A (exec c F.env) Q E s
noncomputable def SL (X : Cx) (A : Around) (F : Fx) (c : List Stmt) (W : WS) : Prop := ∀ st s, R X F st s → ∀ P, W st P → ∀ (Q : Flow → Shared → Prop) (E : Value → Shared → Prop),
  (∀ f st' rf s', R X F st' s' → Ev F.pv F.fr st.hp s st'.hp s' → FR s'.heap f rf → P f st' → Q rf s') → wpAny (MM X) A (execs c F.env) Q E s
noncomputable def SO (X : Cx) (A : Around) (t : Sem Value) (hp : Hp) (s : Shared) (w : (V → Hp → Prop) → Prop) : Prop := ∀ P, w P → ∀ (Q : Value → Shared → Prop) (E : Value → Shared → Prop),
  (∀ v hp' rv s', RH X hp' s' → Ev [] [] hp s hp' s' → VR s'.heap v rv → P v hp' → Q rv s') → wpAny (MM X) A t Q E s

theorem ns_uniq {h : Heap} {a : Addr} {m m' : Str → Option Value} (x : h.Ns a m) (y : h.Ns a m') : m = m' := by
  obtain ⟨o, es, ep, e, d, _, f⟩ := x
  obtain ⟨o', es', ep', e', d', _, f'⟩ := y
  rw [e] at e'; cases e'
  rw [d] at d'; cases d'
  funext n
  rw [← f n, ← f' n]
theorem ns_not {h : Heap} {a : Addr} {m : Str → Option Value} (x : h.Ns a m) : ∃ o, h.get? a = some o ∧ NotTup o := let ⟨o, _, _, e, d, _⟩ := x; ⟨o, e, .of_dict d⟩

theorem nodup_get {l : List Str} (hn : l.Nodup) {i j : Nat} {x : Str} (hi : l[i]? = some x) (hj : l[j]? = some x) : i = j := by
  obtain ⟨h1, e1⟩ := List.getElem?_eq_some_iff.mp hi
  obtain ⟨h2, e2⟩ := List.getElem?_eq_some_iff.mp hj
  rcases Nat.lt_trichotomy i j with h | h | h
  · exact absurd (e1.trans e2.symm) (List.pairwise_iff_getElem.mp hn i j h1 h2 h)
  · exact h
  · exact absurd (e2.trans e1.symm) (List.pairwise_iff_getElem.mp hn j i h2 h1 h)

section
variable {X : Cx} {A : Around} {F : Fx} {st : St} {s : Shared}

theorem R.storeLocal {i : Nat} {x : Str} {v : V} {rv : Value} {m : Str → Option Value} {h' : Heap} {t : Nat} (r : R X F st s) (hi : F.nm[i]? = some x) (hk : F.env.kindOf x = some .local) (hv : VR s.heap v rv)
    (hm : s.heap.Ns F.env.locals m) (hn : h'.Ns F.env.locals (fun y => if y = x then some rv else m y)) (sb : Heap.SameBut F.env.locals s.heap h') :
    R X F (st.setL i v) { s with heap := h', toks := t } ∧ Ev F.pv F.fr st.hp s st.hp { s with heap := h', toks := t } := by
  have ev : Ev F.pv F.fr st.hp s st.hp { s with heap := h', toks := t } := by
    refine ⟨fun b o e n p _ => (sb.2 b fun q => p (q ▸ r.ok.loc)).trans e, fun b o e n p _ => ⟨o.slots, (sb.2 b fun q => p (q ▸ r.ok.loc)).trans e⟩, fun _ _ _ e => e, fun b o e => ?_, ⟨h', t, rfl⟩⟩
    by_cases hb : b = F.env.locals
    · subst hb; obtain ⟨o', e', _⟩ := ns_not hn; exact ⟨o', e'⟩
    · exact ⟨o, (sb.2 b hb).trans e⟩
  have tk := r.tk ev
  refine ⟨⟨r.ok, ⟨fun b o e => ?_, r.H.bfree, fun a o e => ?_⟩, ⟨⟨_, hn⟩, fun j y u hj hu => ?_, fun y c hc => ?_, fun b hb => ?_⟩, fun b hb => ?_⟩, ev⟩
  · have := (r.L.pv _ r.ok.loc).2.1
    exact (sb.2 b fun q => by subst q; rw [e] at this; cases this).trans (r.H.base b o e)
  · refine (r.H.own a o e).keep (fun ob q => (sb.2 a fun z => ?_).trans q) tk
    have e' : st.hp a = some o := e
    have := (r.L.pv _ r.ok.loc).1
    rw [z, this] at e'; cases e'
  · by_cases hij : j = i
    · subst hij
      simp only [St.setL, setLo, if_true] at hu
      rw [hi] at hj; cases hj; cases hu
      refine ⟨rv, ?_, hv.mono tk⟩
      unfold VarAt; rw [hk]; exact ⟨_, hn, by simp⟩
    · simp only [St.setL, setLo, if_neg hij] at hu
      have hyx : y ≠ x := fun e => hij (nodup_get r.ok.nodup hj (e ▸ hi))
      obtain ⟨ru, a, b⟩ := r.L.var j y u hj hu
      refine ⟨ru, ?_, b.mono tk⟩
      unfold VarAt at a ⊢
      split at a
      · obtain ⟨m', hm', e⟩ := a
        rw [ns_uniq hm' hm] at e
        exact ⟨_, hn, by simpa [hyx] using e⟩
      · obtain ⟨c, e, hc⟩ := a; exact ⟨c, e, hc.sameBut sb (r.ok.locNe _ _ e)⟩
      · obtain ⟨c, e, hc⟩ := a; exact ⟨c, e, hc.sameBut sb (r.ok.locNe _ _ e)⟩
      · exact a
  · obtain ⟨⟨ov, hc'⟩, n⟩ := r.L.cell y c hc
    exact ⟨⟨ov, hc'.sameBut sb (r.ok.locNe _ _ hc)⟩, n⟩
  · obtain ⟨n, n0, o, e, d⟩ := r.L.pv b hb
    refine ⟨n, n0, ?_⟩
    by_cases hbl : b = F.env.locals
    · subst hbl; exact ns_not hn
    · exact ⟨o, (sb.2 b hbl).trans e, d⟩
  · obtain ⟨n, n0, o, es, ep, e, d⟩ := r.fr b hb
    refine ⟨n, n0, ?_⟩
    by_cases hbl : b = F.env.locals
    · subst hbl; obtain ⟨o', es', ep', e', d', _⟩ := hn; exact ⟨o', es', ep', e', d'⟩
    · exact ⟨o, es, ep, (sb.2 b hbl).trans e, d⟩

theorem R.storeCell {i : Nat} {x : Str} {v : V} {rv : Value} {c : Addr} {h' : Heap} {t : Nat} (r : R X F st s) (hi : F.nm[i]? = some x) (hk : F.env.kindOf x = some .cell) (hc : F.env.cells.lookup x = some c) (hp : c ∈ F.pv) (hv : VR s.heap v rv)
    (hn : h'.IsCell c (some rv)) (sb : Heap.SameBut c s.heap h') :
    R X F (st.setL i v) { s with heap := h', toks := t } ∧ Ev F.pv F.fr st.hp s st.hp { s with heap := h', toks := t } := by
  have al : ∃ o, h'.get? c = some o ∧ NotTup o := let ⟨o, e, d⟩ := hn; ⟨o, e, .of_cell d⟩
  have hcl : c ≠ F.env.locals := r.ok.locNe _ _ hc
  have ev : Ev F.pv F.fr st.hp s st.hp { s with heap := h', toks := t } := by
    refine ⟨fun b o e n p _ => (sb.2 b fun q => p (q ▸ hp)).trans e, fun b o e n p _ => ⟨o.slots, (sb.2 b fun q => p (q ▸ hp)).trans e⟩, fun _ _ _ e => e, fun b o e => ?_, ⟨h', t, rfl⟩⟩
    by_cases hb : b = c
    · subst hb; obtain ⟨o', e', _⟩ := al; exact ⟨o', e'⟩
    · exact ⟨o, (sb.2 b hb).trans e⟩
  have tk := r.tk ev
  refine ⟨⟨r.ok, ⟨fun b o e => ?_, r.H.bfree, fun a o e => ?_⟩, ⟨?_, fun j y u hj hu => ?_, fun y c' hc' => ?_, fun b hb => ?_⟩, fun b hb => ?_⟩, ev⟩
  · have := (r.L.pv _ hp).2.1
    exact (sb.2 b fun q => by subst q; rw [e] at this; cases this).trans (r.H.base b o e)
  · refine (r.H.own a o e).keep (fun ob q => (sb.2 a fun z => ?_).trans q) tk
    have e' : st.hp a = some o := e
    have := (r.L.pv _ hp).1
    rw [z, this] at e'; cases e'
  · obtain ⟨m, hm⟩ := r.L.ns; exact ⟨m, hm.sameBut sb (Ne.symm hcl)⟩
  · by_cases hij : j = i
    · subst hij
      simp only [St.setL, setLo, if_true] at hu
      rw [hi] at hj; cases hj; cases hu
      refine ⟨rv, ?_, hv.mono tk⟩
      unfold VarAt; rw [hk]; exact ⟨c, hc, hn⟩
    · simp only [St.setL, setLo, if_neg hij] at hu
      have hyx : y ≠ x := fun e => hij (nodup_get r.ok.nodup hj (e ▸ hi))
      obtain ⟨ru, a, b⟩ := r.L.var j y u hj hu
      refine ⟨ru, ?_, b.mono tk⟩
      unfold VarAt at a ⊢
      split at a
      · obtain ⟨m', hm', e⟩ := a; exact ⟨m', hm'.sameBut sb (Ne.symm hcl), e⟩
      · obtain ⟨d, e, hd⟩ := a; exact ⟨d, e, hd.sameBut sb fun q => hyx (r.ok.apart _ _ _ (q ▸ e) hc)⟩
      · obtain ⟨d, e, hd⟩ := a; exact ⟨d, e, hd.sameBut sb fun q => hyx (r.ok.apart _ _ _ (q ▸ e) hc)⟩
      · exact a
  · obtain ⟨⟨ov, hd⟩, n⟩ := r.L.cell y c' hc'
    refine ⟨?_, n⟩
    by_cases q : c' = c
    · subst q; exact ⟨_, hn⟩
    · exact ⟨ov, hd.sameBut sb q⟩
  · obtain ⟨n, n0, o, e, d⟩ := r.L.pv b hb
    refine ⟨n, n0, ?_⟩
    by_cases hbl : b = c
    · subst hbl; exact al
    · exact ⟨o, (sb.2 b hbl).trans e, d⟩
  · obtain ⟨n, n0, o, es, ep, e, d⟩ := r.fr b hb
    refine ⟨n, n0, o, es, ep, (sb.2 b fun hbl => ?_).trans e, d⟩
    subst hbl
    obtain ⟨⟨ov, oc, ec, dc⟩, _⟩ := r.L.cell x b hc
    rw [e] at ec; cases ec; rw [d] at dc; cases dc

noncomputable def StOk (F : Fx) (i : Nat) (x : Str) : Prop := F.nm[i]? = some x ∧ (F.env.kindOf x = some .local ∨ (F.env.kindOf x = some .cell ∧ ∃ c, F.env.cells.lookup x = some c ∧ c ∈ F.pv))
noncomputable def LdOk (F : Fx) (i : Nat) (x : Str) : Prop := F.nm[i]? = some x ∧ (x == ("__debug__" : Str)) = false ∧ (x == ("__classdict__" : Str)) = false

theorem w_store {i : Nat} {x : Str} {v : V} {rv : Value} {Q : Unit → Shared → Prop} {E : Value → Shared → Prop} (hs : StOk F i x) (r : R X F st s) (hv : VR s.heap v rv)
    (h : ∀ s', R X F (st.setL i v) s' → Ev F.pv F.fr st.hp s st.hp s' → Q () s') : wpAny (MM X) A (storeName F.env x rv) Q E s := by
  obtain ⟨hi, hk | ⟨hk, c, hc, hp⟩⟩ := hs
  · obtain ⟨m, hm⟩ := r.L.ns
    refine wpAny_storeName_local hk hm (fun h' hn sb => ?_) (by rw [r.ok.kind]; rfl)
    obtain ⟨a, b⟩ := r.storeLocal (t := s.toks + 1) hi hk hv hm hn sb
    exact h _ a b
  · obtain ⟨⟨ov, ho⟩, _⟩ := r.L.cell x c hc
    refine wpAny_storeName_cell r.ok.kind hk hc ho fun h' hn sb => ?_
    obtain ⟨a, b⟩ := r.storeCell (t := s.toks) hi hk hc hp hv hn sb
    exact h _ a b
theorem w_load {i : Nat} {x : Str} {v : V} {Q : Value → Shared → Prop} {E : Value → Shared → Prop} (hs : LdOk F i x) (r : R X F st s) (hv : st.lo i = some v)
    (h : ∀ rv, VR s.heap v rv → Q rv s) : wpAny (MM X) A (loadName F.env x) Q E s := by
  obtain ⟨hi, _, hd⟩ := hs
  obtain ⟨rv, a, b⟩ := r.L.var i x v hi hv
  unfold VarAt at a
  split at a
  · obtain ⟨m, hm, e⟩ := a; exact wpAny_loadName_local r.ok.kind (by assumption) hm e (h rv b)
  · obtain ⟨c, e, hc⟩ := a; exact wpAny_loadName_cell r.ok.kind (by assumption) e hc (h rv b)
  · obtain ⟨c, e, hc⟩ := a; exact wpAny_loadName_free r.ok.kind (by assumption) e hc (h rv b) hd
  · exact a.elim

theorem se_loc {i : Nat} {x : Str} {pos : Pos} (hs : LdOk F i x) : SE X A F (.Name x pos) (fun st P => ∃ v, st.lo i = some v ∧ P v st) := by
  rintro st s r P ⟨v, hv, hP⟩ Q E h
  exact wpAny_Name (w_load hs r hv fun rv q => h v st rv s r .refl q hP) hs.2.1
theorem se_int {i : Int} {k : Nat} {pos : Pos} : SE X A F (.Constant (.int i) k pos) (fun st P => P (.int i) st) := by
  intro st s r P hP Q E h
  exact wpAny_Constant_int (h _ _ _ _ (r.toks _) (.toks _) (.mkInt _ _ _) hP)
theorem se_bool {b : Bool} {k : Nat} {pos : Pos} : SE X A F (.Constant (.bool b) k pos) (fun st P => P (.bool b) st) := by
  intro st s r P hP Q E h
  exact wpAny_Constant_bool (h (.bool b) _ _ _ r .refl (by simp [VR]) hP)
theorem se_none {k : Nat} {pos : Pos} : SE X A F (.Constant .none k pos) (fun st P => P .none st) := by
  intro st s r P hP Q E h
  exact wpAny_Constant_none (h .none _ _ _ r .refl (by simp [VR]) hP)

end
end Mine
end

noncomputable section
open PySem PySem.W PyProof.Rows
namespace Mine

noncomputable def binI : Operator → Int → Int → (V → Prop) → Prop
  | .Add, a, b, P => P (.int (a + b))
  | .Sub, a, b, P => P (.int (a - b))
  | .Mult, a, b, P => b.natAbs < 2 ^ 63 ∧ P (.int (a * b))
  | .Mod, a, b, P => 0 < b ∧ P (.int (a % b))
  | .FloorDiv, a, b, P => 0 < b ∧ b < 1000000 ∧ P (.int (a / b))
  | .Pow, a, b, P => 0 ≤ b ∧ b ≤ 1000 ∧ a.natAbs < 2 ^ 60 ∧ P (.int (a ^ b.toNat))
  | .RShift, a, b, P => 0 ≤ b ∧ P (.int (a / 2 ^ b.toNat))
  | _, _, _, _ => False
noncomputable def binW (op : Operator) : V → V → Hp → (V → Hp → Prop) → Prop
  | .int a, .int b, hp, P => binI op a b fun v => P v hp
  | .ref a, .ref b, hp, P => op = .Add ∧ ∃ xs ys, hp a = some (.list xs) ∧ hp b = some (.list ys) ∧ xs.length + ys.length < 1000000 ∧ ∀ c, hp c = none → P (.ref c) (hp.set c (.list (xs ++ ys)))
  | .ref a, .int n, hp, P => op = .Mult ∧ ∃ xs, hp a = some (.list xs) ∧ xs.length < 1000 ∧ 0 ≤ n ∧ n < 1000 ∧ ∀ c, hp c = none → P (.ref c) (hp.set c (.list (List.replicate n.toNat xs).flatten))
  | _, _, _, _ => False

section
variable {X : Cx} {A : Around} {hp : Hp} {s : Shared}

theorem fmod_pos {a b : Int} (h : 0 < b) : a.fmod b = a % b := Int.fmod_eq_emod_of_nonneg a (Int.le_of_lt h)
theorem fdiv_pos {a b : Int} (h : 0 < b) : a.fdiv b = a / b := Int.fdiv_eq_ediv_of_nonneg a (Int.le_of_lt h)
theorem bits63 {b : Int} (h : b.natAbs < 2 ^ 63) : Builtin.Int.intBits b ≤ 64 := intBits_le (Nat.lt_trans h (by decide))

theorem so_bin_int {op : Operator} {a b : Int} {ra rb : Value} (H : RH X hp s) (ha : VR s.heap (.int a) ra) (hb : VR s.heap (.int b) rb) : SO X A (binaryOp op ra rb) hp s (binW op (.int a) (.int b) hp) := by
  obtain ⟨t, rfl⟩ := ha.unInt
  obtain ⟨u, rfl⟩ := hb.unInt
  intro P hP Q E h
  have hP : binI op a b fun v => P v hp := hP
  cases op
  case Add => exact add_int (h _ _ _ _ (H.toks _) (.toks _) (.mkInt _ _ _) hP)
  case Sub => exact sub_int (h _ _ _ _ (H.toks _) (.toks _) (.mkInt _ _ _) hP)
  case Mult =>
    have hP : b.natAbs < 2 ^ 63 ∧ _ := hP
    exact mul_int (h _ _ _ _ (H.toks _) (.toks _) (.mkInt _ _ _) hP.2) (.of_right (bits63 hP.1))
  case Mod =>
    have hP : 0 < b ∧ _ := hP
    refine mod_int (by omega) ?_
    rw [fmod_pos hP.1]
    exact h _ _ _ _ (H.toks _) (.toks _) (.mkInt _ _ _) hP.2
  case FloorDiv =>
    have hP : 0 < b ∧ b < 1000000 ∧ _ := hP
    refine floordiv_int (by omega) ?_ (Or.inl (PyProof.noPylong_small (by omega)))
    rw [fdiv_pos hP.1]
    exact h _ _ _ _ (H.toks _) (.toks _) (.mkInt _ _ _) hP.2.2
  case Pow =>
    have hP : 0 ≤ b ∧ b ≤ 1000 ∧ a.natAbs < 2 ^ 60 ∧ _ := hP
    exact pow_int_small hP.1 (by omega) (by omega) (h _ _ _ _ (H.toks _) (.toks _) (.mkInt _ _ _) hP.2.2.2)
  case RShift =>
    have hP : 0 ≤ b ∧ _ := hP
    refine rshift_int hP.1 ?_
    rw [fdiv_pos (Int.pow_pos (by decide))]
    exact h _ _ _ _ (H.toks _) (.toks _) (.mkInt _ _ _) hP.2
  all_goals exact False.elim hP
end

noncomputable def cmpI : CmpOp → Int → Int → Option Bool
  | .Eq, a, b => some (a == b)
  | .NotEq, a, b => some (a != b)
  | .Lt, a, b => some (decide (a < b))
  | .LtE, a, b => some (decide (a ≤ b))
  | .Gt, a, b => some (decide (b < a))
  | .GtE, a, b => some (decide (b ≤ a))
  | _, _, _ => none

theorem w_cmpI {prog : Program} {w : World} {A : Around} {s : Shared} {Q : Value → Shared → Prop} {E : Value → Shared → Prop} {op : CmpOp} {a b : Int} {t u : Tok} {r : Bool} (e : cmpI op a b = some r) (h : Q (.bool r) s) :
    wpAny (model prog w) A (compareOp op (.int a t) (.int b u)) Q E s := by
  cases op <;> simp only [cmpI, Option.some.injEq, reduceCtorEq] at e <;> subst e
  · exact eq_int h
  · exact ne_int h
  · exact lt_int h
  · exact PySem.P.le_int h
  · exact gt_int h
  · exact PySem.P.ge_int h

section
variable {X : Cx} {A : Around} {F : Fx}

theorem ss_nil : SL X A F [] (fun st P => P .next st) := by
  intro st s r P hP Q E h
  exact wpAny_execs_nil (h .next st _ s r .refl rfl hP)
theorem ss_cons {c : Stmt} {cs : List Stmt} {W : WS} {Ws : WS} (h1 : SS X A F c W) (h2 : SL X A F cs Ws) :
    SL X A F (c :: cs) (fun st P => W st fun f st1 => match f with | .next => Ws st1 P | f => P f st1) := by
  intro st s r P hP Q E h
  refine wpAny_execs_cons (h1 st s r _ hP _ _ fun f st1 rf s1 r1 ev1 hf hp1 => ?_)
  cases f with
  | next =>
    have hf' : rf = .next := hf
    subst hf'
    exact h2 st1 s1 r1 P hp1 Q E fun f st2 rf s2 r2 ev2 hf2 hp2 => h f st2 rf s2 r2 (ev1.trans ev2) hf2 hp2
  | brk => have hf' : rf = .brk := hf; subst hf'; exact h .brk st1 _ s1 r1 ev1 rfl hp1
  | cont => have hf' : rf = .cont := hf; subst hf'; exact h .cont st1 _ s1 r1 ev1 rfl hp1
  | ret v =>
    obtain ⟨rv, rfl, hv⟩ := id hf
    exact h (.ret v) st1 _ s1 r1 ev1 hf hp1
theorem ss_break {pos : Pos} : SS X A F (.Break pos) (fun st P => P .brk st) := fun st s r P hP Q E h => wpAny_Break (h .brk st _ s r .refl rfl hP)
theorem ss_continue {pos : Pos} : SS X A F (.Continue pos) (fun st P => P .cont st) := fun st s r P hP Q E h => wpAny_Continue (h .cont st _ s r .refl rfl hP)
theorem ss_return {e : Expr} {pos : Pos} {W : WE} (he : SE X A F e W) : SS X A F (.Return (some e) pos) (fun st P => W st fun v st1 => P (.ret v) st1) := by
  intro st s r P hP Q E h
  exact wpAny_Return_some (he st s r _ hP _ _ fun v st1 rv s1 r1 ev1 hv hp1 => h (.ret v) st1 _ s1 r1 ev1 ⟨rv, rfl, hv⟩ hp1)
theorem ss_if {test : Expr} {body orelse : List Stmt} {pos : Pos} {W : WB} {W1 W2 : WS} (ht : SB X A F test W) (h1 : SL X A F body W1) (h2 : SL X A F orelse W2) :
    SS X A F (.If test body orelse pos) (fun st P => W st fun b st1 => if b then W1 st1 P else W2 st1 P) := by
  intro st s r P hP Q E h
  refine wpAny_If (ht st s r _ hP _ _ fun b st1 s1 r1 ev1 hp1 => ?_)
  cases b with
  | true => exact h1 st1 s1 r1 P hp1 Q E fun f st2 rf s2 r2 ev2 hf2 hp2 => h f st2 rf s2 r2 (ev1.trans ev2) hf2 hp2
  | false => exact h2 st1 s1 r1 P hp1 Q E fun f st2 rf s2 r2 ev2 hf2 hp2 => h f st2 rf s2 r2 (ev1.trans ev2) hf2 hp2
theorem ss_assign {i : Nat} {x : Str} {pos' pos : Pos} {value : Expr} {W : WE} (hs : StOk F i x) (he : SE X A F value W) (hsw : swapsWith value (some (.Name x pos')) pos.line F.env = pure false) :
    SS X A F (.Assign [.Name x pos'] value pos) (fun st P => W st fun v st1 => P .next (st1.setL i v)) := by
  intro st s r P hP Q E h
  refine wpAny_Assign_Name (he st s r _ hP _ _ fun v st1 rv s1 r1 ev1 hv hp1 => w_store hs r1 hv fun s2 r2 ev2 => ?_) hsw
  exact h .next (st1.setL i v) _ s2 r2 (ev1.trans ev2) rfl hp1

theorem ss_while {test : Expr} {body : List Stmt} {pos : Pos} {W : WB} {W1 : WS} (ht : SB X A F test W) (h1 : SL X A F body W1) :
    SS X A F (.While test body [] pos) (fun st P => ∃ (I : Nat → St → Prop), (∃ n, I n st) ∧
      ∀ n st1, I n st1 → W st1 fun b st2 => if b then W1 st2 fun f st3 => match f with
        | .next | .cont => ∃ m, m < n ∧ I m st3
        | .brk => P .next st3
        | .ret v => P (.ret v) st3 else P .next st2) := by
  rintro st s r P ⟨I, ⟨n0, hI0⟩, turn⟩ Q E h
  refine wpAny_While (codeAny_whileLoop (fun n s' => ∃ st', R X F st' s' ∧ Ev F.pv F.fr st.hp s st'.hp s' ∧ I n st') ?_ n0 ⟨st, r, .refl, hI0⟩)
  rintro n s' ⟨st', r', ev', hI⟩
  refine ht st' s' r' _ (turn n st' hI) _ _ fun b st2 s2 r2 ev2 hp2 => ?_
  cases b with
  | true =>
    refine h1 st2 s2 r2 _ hp2 _ _ fun f st3 rf s3 r3 ev3 hf hp3 => ?_
    cases f with
    | next =>
      have hf' : rf = .next := hf
      subst hf'
      obtain ⟨m, hm, hI'⟩ := hp3
      exact ⟨m, hm, st3, r3, (ev'.trans ev2).trans ev3, hI'⟩
    | cont =>
      have hf' : rf = .cont := hf
      subst hf'
      obtain ⟨m, hm, hI'⟩ := hp3
      exact ⟨m, hm, st3, r3, (ev'.trans ev2).trans ev3, hI'⟩
    | brk => have hf' : rf = .brk := hf; subst hf'; exact h .next st3 _ s3 r3 ((ev'.trans ev2).trans ev3) rfl hp3
    | ret v =>
      obtain ⟨rv, rfl, hv⟩ := id hf
      exact h (.ret v) st3 _ s3 r3 ((ev'.trans ev2).trans ev3) hf hp3
  | false => exact wpAny_execs_nil (h .next st2 _ s2 r2 (ev'.trans ev2) rfl hp2)

end
end Mine
end

noncomputable section
open PySem PySem.W PyProof.Rows
namespace Mine

structure AOk (A : Around) (d : Nat) : Prop where
  handled : A.handled = none
  depth : A.depth + d < 900
  units : A.units + 10 * d < 9000
theorem AOk.deeper {A : Around} {d : Nat} (h : AOk A (d + 1)) (env : Env) : AOk (A.deeper env) d := by
  have h1 := h.depth
  have h2 := h.units
  refine ⟨h.handled, ?_, ?_⟩
  · show A.depth + 1 + d < 900; omega
  · show A.units + 3 + 10 * d < 9000; omega
theorem AOk.mono {A : Around} {d d' : Nat} (h : AOk A d) (hd : d' ≤ d) : AOk A d' := by
  have h1 := h.depth
  have h2 := h.units
  exact ⟨h.handled, by omega, by omega⟩
noncomputable def EnvsAre : List Env → List Addr → Prop
  | [], [] => True
  | e :: es, a :: as => e.scope.kind = .function ∧ e.frame = some a ∧ EnvsAre es as
  | _, _ => False
noncomputable def AFr (A : Around) (fr : List Addr) : Prop := ∃ envs, A.frames = some envs ∧ EnvsAre envs fr

noncomputable def SF (X : Cx) (f : Addr) (d : Nat) (W : List V → WH) : Prop := ∀ A fr, AOk A d → AFr A fr → ∀ hp s, RH X hp s → FrsOk X fr hp s.heap → ∀ args vs, VRs s.heap args vs → ∀ P, W args hp P → ∀ (R0 : Result → Shared → Prop),
  (∀ v hp' rv s', RH X hp' s' → Ev [] fr hp s hp' s' → VR s'.heap v rv → P v hp' → R0 (.ok (.ret rv)) s') → codeAny (MM X) A (.call (.ref f) ⟨vs, []⟩) R0 s
theorem SF.call {X : Cx} {f : Addr} {d : Nat} {W : List V → WH} (h : SF X f d W) {A : Around} {fr : List Addr} (hA : AOk A d) (hF : AFr A fr) {hp : Hp} {s : Shared} (H : RH X hp s) (O : FrsOk X fr hp s.heap) {args : List V} {vs : List Value} (hv : VRs s.heap args vs) {P : V → Hp → Prop} (hP : W args hp P) {Q : Value → Shared → Prop} {E : Value → Shared → Prop}
    (k : ∀ v hp' rv s', RH X hp' s' → Ev [] fr hp s hp' s' → VR s'.heap v rv → P v hp' → Q rv s') : wpAny (MM X) A (call (.ref f) vs) Q E s :=
  wpAny_call (h A fr hA hF hp s H O args vs hv P hP _ fun v hp' rv s' a b c d => k v hp' rv s' a b c d)

noncomputable def BindS (X : Cx) (fd : FuncData) (ps : List Str) (args vals : List V) : Prop := ∀ A hp s vs, RH X hp s → VRs s.heap args vs → ∀ (Q : List (Str × Value) → Shared → Prop) (E : Value → Shared → Prop),
  (∀ rvs s', RH X hp s' → Ev [] [] hp s hp s' → VRs s'.heap vals rvs → Q (ps.zip rvs) s') → wpAny (MM X) A (bindArgs fd ⟨vs, []⟩) Q E s
theorem bind_pos {X : Cx} {fd : FuncData} {ps : List Str} {args : List V} (h : ∀ vs : List Value, vs.length = args.length → bindArgs fd ⟨vs, []⟩ = pure (ps.zip vs)) : BindS X fd ps args args := by
  intro A hp s vs H hv Q E k
  rw [h vs hv.length]
  exact wpAny_pure (k vs s H .refl hv)

theorem bindL_get {kindOf : Str → Option NameKind} : ∀ {ps : List Str} {rvs : List Value} {m : Str → Option Value} {i : Nat} {x : Str} {v : Value}, ps.Nodup → ps[i]? = some x → rvs[i]? = some v → kindOf x = some .local → bindL kindOf (ps.zip rvs) m x = some v := by
  have keep : ∀ {ps : List Str} {rvs : List Value} {m : Str → Option Value} {x : Str}, x ∉ ps → bindL kindOf (ps.zip rvs) m x = m x := by
    intro ps
    induction ps with
    | nil => intro rvs m x _; rfl
    | cons p ps ih =>
      intro rvs m x hx
      cases rvs with
      | nil => rfl
      | cons r rvs =>
        simp only [List.mem_cons, not_or] at hx
        rw [List.zip_cons_cons, bindL, ih hx.2]
        split
        · simp [hx.1]
        · rfl
  intro ps
  induction ps with
  | nil => intro rvs m i x v _ h; simp at h
  | cons p ps ih =>
    intro rvs m i x v hn hx hv hk
    cases rvs with
    | nil => simp at hv
    | cons r rvs =>
      rw [List.zip_cons_cons, bindL]
      have hn' := List.nodup_cons.mp hn
      cases i with
      | zero =>
        simp at hx hv; subst hx; subst hv
        rw [keep hn'.1, if_pos hk]; simp
      | succ j =>
        simp at hx hv
        exact ih hn'.2 hx hv hk
theorem bindC_get {kindOf : Str → Option NameKind} : ∀ {ps : List Str} {rvs : List Value} {m : Str → Option Value} {i : Nat} {x : Str} {v : Value}, ps.Nodup → ps[i]? = some x → rvs[i]? = some v → kindOf x ≠ some .local → bindC kindOf (ps.zip rvs) m x = some v := by
  have keep : ∀ {ps : List Str} {rvs : List Value} {m : Str → Option Value} {x : Str}, x ∉ ps → bindC kindOf (ps.zip rvs) m x = m x := by
    intro ps
    induction ps with
    | nil => intro rvs m x _; rfl
    | cons p ps ih =>
      intro rvs m x hx
      cases rvs with
      | nil => rfl
      | cons r rvs =>
        simp only [List.mem_cons, not_or] at hx
        rw [List.zip_cons_cons, bindC, ih hx.2]
        split
        · rfl
        · simp [hx.1]
  intro ps
  induction ps with
  | nil => intro rvs m i x v _ h; simp at h
  | cons p ps ih =>
    intro rvs m i x v hn hx hv hk
    cases rvs with
    | nil => simp at hv
    | cons r rvs =>
      rw [List.zip_cons_cons, bindC]
      have hn' := List.nodup_cons.mp hn
      cases i with
      | zero =>
        simp at hx hv; subst hx; subst hv
        rw [keep hn'.1, if_neg hk]; simp
      | succ j =>
        simp at hx hv
        exact ih hn'.2 hx hv hk

structure FnAt (X : Cx) (f : Addr) (fd : FuncData) (body : List Stmt) : Prop where
  at0 : ∃ o, X.h₀.get? f = some o ∧ o.data = .func fd
  lim : X.h₀.NoLimit
  code : X.h₀.CodeRec fd.code fd.qualname
  body : fd.body = .stmts body
  clo : fd.closure = []
  glob : fd.globals = mainGlobals
  blt : fd.builtins = builtinsNs
  kind : fd.scope.kind = .function
  co : fd.scope.isCoroutine = false
  gen : fd.scope.isGenerator = false

noncomputable def fnFx (fd : FuncData) (f : Addr) (nm : List Str) (fr : List Addr) (L : Addr) : Fx := ⟨callEnvC fd L f, nm, L :: fd.scope.names.filterMap fun p => (cellsFrom (L + 1) fd.scope.names []).lookup p.1, L :: fr⟩

theorem RH.keeps {X : Cx} {hp : Hp} {s s' : Shared} (H : RH X hp s) (k : ∀ b o, s.heap.get? b = some o → s'.heap.get? b = some o) : RH X hp s' :=
  ⟨fun b o e => k b o (H.base b o e), H.bfree, fun a o e => (H.own a o e).keep (k a) fun b i n t => k b _ t⟩
theorem Ev.keeps {pv fr : List Addr} {hp : Hp} {s s' : Shared} (k : ∀ b o, s.heap.get? b = some o → s'.heap.get? b = some o) (r : ∃ h' tk, s' = { s with heap := h', toks := tk }) : Ev pv fr hp s hp s' :=
  ⟨fun b o e _ _ _ => k b o e, fun b o e _ _ _ => ⟨o.slots, k b o e⟩, fun _ _ _ e => e, fun b o e => ⟨o, k b o e⟩, r⟩
theorem RH.newFree {X : Cx} {hp : Hp} {s : Shared} (H : RH X hp s) {c : Addr} (hc : s.heap.objs.size ≤ c) : hp c = none := by
  cases e : hp c with
  | none => rfl
  | some o =>
    obtain ⟨ob, e1, _⟩ := (H.own c o e).alive
    exact absurd (Heap.lt_size e1) (Nat.not_lt.mpr hc)
theorem RH.newBase {X : Cx} {hp : Hp} {s : Shared} (H : RH X hp s) {c : Addr} (hc : s.heap.objs.size ≤ c) : X.h₀.get? c = none := by
  cases e : X.h₀.get? c with
  | none => rfl
  | some o => exact absurd (Heap.lt_size (H.base c o e)) (Nat.not_lt.mpr hc)
theorem NotTup.of_isCell {h : Heap} {c : Addr} {v : Option Value} (x : h.IsCell c v) : ∃ o, h.get? c = some o ∧ NotTup o := let ⟨o, e, d⟩ := x; ⟨o, e, .of_cell d⟩

theorem R.enter {X : Cx} {fd : FuncData} {f : Addr} {body : List Stmt} {nm ps : List Str} {hp : Hp} {s s' : Shared} {vals : List V} {rvs : List Value} {fr : List Addr} (H : RH X hp s) (O : FrsOk X fr hp s.heap) (N : FnAt X f fd body) (hnm : nm.Nodup) (hps : ps.Nodup) (hpn : ∀ (i : Nat) x, nm[i]? = some x → i < vals.length → ps[i]? = some x)
    (hv : VRs s.heap vals rvs) (hkind : ∀ x ∈ ps, fd.scope.names.lookup x = some .local ∨ (fd.scope.names.lookup x = some .cell ∧ ((cellsFrom (s.heap.objs.size + 1) fd.scope.names []).lookup x).isSome = true))
    (I : InCallC s (callEnvC fd s.heap.objs.size f).locals (bindL (callEnvC fd s.heap.objs.size f).kindOf (ps.zip rvs) fun _ => none) (callEnvC fd s.heap.objs.size f).cells (bindC (callEnvC fd s.heap.objs.size f).kindOf (ps.zip rvs) fun _ => none) s') :
    R X (fnFx fd f nm fr s.heap.objs.size) ⟨fun i => vals[i]?, hp⟩ s' ∧ Ev [] [] hp s hp s' := by
  have k := I.toInCall.keep
  have tk : TK s.heap s'.heap := fun b i n t => k b _ t
  have lookup_mem : ∀ {x c}, (cellsFrom (s.heap.objs.size + 1) fd.scope.names []).lookup x = some c → s.heap.objs.size ≤ c := fun {x c} e => Nat.le_of_lt (I.above x c (mem_of_lookup e))
  refine ⟨⟨⟨N.kind, N.glob, N.blt, hnm, by simp [fnFx, callEnvC, newEnv], fun x y c h1 h2 => ?_, fun x c h => ?_⟩, H.keeps k, ⟨⟨_, I.toInCall.ns⟩, fun i x v hi hvv => ?_, fun x c h => ?_, fun b hb => ?_⟩, fun b hb => ?_⟩, .keeps k I.toInCall.same⟩
  · exact name_of_addr I.apart (mem_of_lookup h1) (mem_of_lookup h2)
  · exact Nat.ne_of_gt (I.above x c (mem_of_lookup h))
  · have hvv' : vals[i]? = some v := hvv
    obtain ⟨hil, _⟩ := List.getElem?_eq_some_iff.mp hvv'
    obtain ⟨rv, e1, e2⟩ := hv.get hvv'
    have hpi := hpn i x hi hil
    refine ⟨rv, ?_, e2.mono tk⟩
    rcases hkind x (List.mem_of_getElem? hpi) with hl | ⟨hl, hc⟩
    · have hl' : (fnFx fd f nm fr s.heap.objs.size).env.kindOf x = some .local := hl
      unfold VarAt
      rw [hl']
      exact ⟨_, I.toInCall.ns, bindL_get hps hpi e1 hl⟩
    · have hl' : (fnFx fd f nm fr s.heap.objs.size).env.kindOf x = some .cell := hl
      unfold VarAt
      rw [hl']
      obtain ⟨c, hc⟩ := Option.isSome_iff_exists.mp hc
      refine ⟨c, hc, ?_⟩
      have := I.cell x c hc
      rw [bindC_get hps hpi e1 (by rw [show (callEnvC fd s.heap.objs.size f).kindOf x = some .cell from hl]; simp)] at this
      exact this
  · exact ⟨⟨_, I.cell x c h⟩, H.newFree (lookup_mem h)⟩
  · rcases List.mem_cons.mp hb with rfl | hb
    · exact ⟨H.newFree (Nat.le_refl _), H.newBase (Nat.le_refl _), ns_not I.toInCall.ns⟩
    · obtain ⟨p, hm, hl⟩ := List.mem_filterMap.mp hb
      exact ⟨H.newFree (lookup_mem hl), H.newBase (lookup_mem hl), NotTup.of_isCell (I.cell p.1 b hl)⟩
  · rcases List.mem_cons.mp hb with rfl | hb
    · obtain ⟨o, es, ep, e, d, _⟩ := I.toInCall.ns
      exact ⟨H.newFree (Nat.le_refl _), H.newBase (Nat.le_refl _), o, es, ep, e, d⟩
    · obtain ⟨n, n0, o, es, ep, e, d⟩ := O b hb
      exact ⟨n, n0, o, es, ep, k b o e, d⟩

theorem mem_of_lookup_fst {α : Type} {l : List (Str × α)} {x : Str} {k : α} (h : l.lookup x = some k) : ∃ p ∈ l, p.1 = x := ⟨_, mem_of_lookup h, rfl⟩
theorem st_local {fd : FuncData} {f : Addr} {nm : List Str} {fr : List Addr} {L : Addr} {i : Nat} {x : Str} (hi : nm[i]? = some x) (hk : fd.scope.names.lookup x = some .local) : StOk (fnFx fd f nm fr L) i x := ⟨hi, .inl hk⟩
theorem st_cell {fd : FuncData} {f : Addr} {nm : List Str} {fr : List Addr} {L : Addr} {i : Nat} {x : Str} (hi : nm[i]? = some x) (hk : fd.scope.names.lookup x = some .cell) (hc : ((cellsFrom (L + 1) fd.scope.names []).lookup x).isSome = true) : StOk (fnFx fd f nm fr L) i x := by
  obtain ⟨c, hc⟩ := Option.isSome_iff_exists.mp hc
  obtain ⟨p, hp, rfl⟩ := mem_of_lookup_fst hk
  exact ⟨hi, .inr ⟨hk, c, hc, List.mem_cons_of_mem _ (List.mem_filterMap.mpr ⟨p, hp, hc⟩)⟩⟩

noncomputable def finW (P : V → Hp → Prop) : Fl → St → Prop
  | .ret v, st => P v st.hp
  | .next, st => P .none st.hp
  | _, _ => False

noncomputable def AFx (A : Around) (F : Fx) : Prop := ∃ envs fr L, A.frames = some (F.env :: envs) ∧ F.env.frame = some L ∧ F.fr = L :: fr ∧ EnvsAre envs fr ∧ F.env.scope.kind = .function
theorem AFx.afr {A : Around} {F : Fx} (h : AFx A F) : AFr A F.fr := by
  obtain ⟨envs, fr, L, h1, h2, h3, h4, h5⟩ := h
  rw [h3]
  exact ⟨_, h1, h5, h2, h4⟩
theorem AFr.deeperX {A : Around} {fr : List Addr} {F : Fx} {L : Addr} (h : AFr A fr) (hk : F.env.scope.kind = .function) (hf : F.env.frame = some L) (hfr : F.fr = L :: fr) : AFx (A.deeper F.env) F := by
  obtain ⟨envs, e, h⟩ := h
  exact ⟨envs, fr, L, by show A.frames.map _ = _; rw [e]; rfl, hf, hfr, h, hk⟩
theorem sf_def {X : Cx} {fd : FuncData} {f : Addr} {body : List Stmt} {nm ps : List Str} {d : Nat} {Wb : WS} (N : FnAt X f fd body) (hnm : nm.Nodup) (hps : ps.Nodup) (hpn : ∀ (i : Nat) x, nm[i]? = some x → i < ps.length → ps[i]? = some x)
    (hkind : ∀ L, ∀ x ∈ ps, fd.scope.names.lookup x = some .local ∨ (fd.scope.names.lookup x = some .cell ∧ ((cellsFrom (L + 1) fd.scope.names []).lookup x).isSome = true))
    (hb : ∀ L fr A, AOk A d → AFx A (fnFx fd f nm fr L) → SL X A (fnFx fd f nm fr L) body Wb) :
    SF X f (d + 1) (fun args hp P => ∃ vals, BindS X fd ps args vals ∧ vals.length = ps.length ∧ Wb ⟨fun i => vals[i]?, hp⟩ (finW P)) := by
  rintro A fr hA hF hp s H O args vs hv P ⟨vals, B, hlen, hW⟩ R0 h
  obtain ⟨o, ho, hd⟩ := N.at0
  have hroom : A.depth < recursionLimit := by have := hA.depth; show A.depth < 1000; omega
  have hcd : s.heap.CodeRec fd.code fd.qualname := N.code.keeps H.base
  refine codeAny_call_function hroom (H.base _ _ ho) hd N.co N.gen N.body hcd ?_
  refine B A.in1 hp s vs H hv _ _ fun rvs s1 H1 ev1 hv1 => ?_
  rw [N.clo]
  refine wpAny_newFunctionEnv_cells N.kind (fun x hx => hkind _ x.1 (List.of_mem_zip (a := x.1) (b := x.2) hx).1) fun env he s2 I => ?_
  subst he
  obtain ⟨r, ev2⟩ := R.enter (f := f) (nm := nm) (fr := fr) H1 (O.ev ev1) N hnm hps (fun i x hx hi => hpn i x hx (hlen ▸ hi)) hv1 (hkind _) I
  refine ⟨(N.lim.keeps H1.base).keeps I.toInCall.keep, codeAny_func ?_⟩
  refine hb _ fr _ (hA.deeper _) (hF.deeperX N.kind rfl rfl) _ s2 r _ hW _ _ fun fl st' rf s3 r3 ev3 hf hp3 => ?_
  have ev3' : Ev [] fr hp s1 st'.hp s3 := by
    have e3 := ev2.weaken.trans ev3
    have np : ∀ b o, s1.heap.get? b = some o → b ∉ (fnFx fd f nm fr s1.heap.objs.size).pv := by
      intro b o e hb
      rcases List.mem_cons.mp hb with rfl | hb
      · rw [get_size] at e; cases e
      · obtain ⟨p, hm, hl⟩ := List.mem_filterMap.mp hb
        have := I.above p.1 b (mem_of_lookup hl)
        exact absurd (Heap.lt_size e) (Nat.not_lt.mpr (Nat.le_of_lt this))
    refine ⟨fun b o e n _ q => e3.keep b o e n (np b o e) fun hb => ?_, fun b o e n _ q => e3.slots b o e n (np b o e) (List.mem_cons_of_mem _ q), e3.sub, e3.alive, e3.rest⟩
    rcases List.mem_cons.mp hb with rfl | hb
    · rw [get_size] at e; cases e
    · exact q hb
  cases fl with
  | next => have hf' : rf = .next := hf; subst hf'; exact h _ _ _ _ r3.H (ev1.weaken.trans ev3') (.mkNone _) hp3
  | brk => exact hp3.elim
  | cont => exact hp3.elim
  | ret v =>
    obtain ⟨rv, rfl, hvv⟩ := hf
    exact h _ _ _ _ r3.H (ev1.weaken.trans ev3') hvv hp3

end Mine
end

noncomputable section
open PySem PySem.W PyProof.Rows
namespace Mine

noncomputable def lexLt : List Int → List Int → Bool
  | a :: as, b :: bs => if a = b then lexLt as bs else decide (a < b)
  | _, _ => false

inductive Ints : List Value → List Int → Prop
  | nil : Ints [] []
  | cons {i t vs is} : Ints vs is → Ints (.int i t :: vs) (i :: is)
theorem VRs.ints {h : Heap} : ∀ {is : List Int} {vs : List Value}, VRs h (is.map .int) vs → Ints vs is
  | [], _, e => by simp [VRs] at e; subst e; exact .nil
  | i :: is, _, e => by
    simp only [List.map_cons, VRs] at e
    obtain ⟨v, r, rfl, e1, e2⟩ := e
    obtain ⟨t, rfl⟩ := e1.unInt
    exact .cons e2.ints

section
variable {prog : Program} {w : World} {A : Around} {E : Value → Shared → Prop} {s : Shared}

theorem tuple_lt_tree {a b : Addr} {xs ys : List Value} {n m : Nat} {is js : List Int} {P : Fin → Shared → Prop} (ha : IsT s.heap a xs.toArray n) (hb : IsT s.heap b ys.toArray m) (hi : Ints xs is) (hj : Ints ys js) (hl : is.length = js.length)
    (h : P (.done (.ret (.bool (lexLt is js)))) s) : wpAny (model prog w) A (Builtin.«tuple.__lt__» ⟨[.ref a, .ref b], []⟩) P E s := by
  have hTb : s.TypeIs (.ref b) "tuple" := ⟨_, hb, rfl⟩
  show wpAny _ _ (isInstance (.ref b) (.type "tuple") >>= _) _ _ s
  refine wpAny_bind (wpAny_isInstance hTb isSubtype_tuple_tuple ?_)
  simp only [Bool.not_true, Bool.false_eq_true, if_false]
  refine wpAny_bind (wpAny_tupleItemsOf ha rfl ?_)
  refine wpAny_bind (wpAny_tupleItemsOf hb rfl ?_)
  refine wpAny_bind ?_
  refine wpAny_forIn_list _ (fun rest r s' => r.1 = none ∧ s' = s ∧ ∃ xs' ys' is' js', rest = List.zip xs' ys' ∧ Ints xs' is' ∧ Ints ys' js' ∧ is'.length = js'.length ∧ lexLt is' js' = lexLt is js) _ ?_ ?_ _ _ ⟨rfl, rfl, xs, ys, is, js, rfl, hi, hj, hl, rfl⟩
  · rintro ⟨u, v⟩ rest r s' ⟨hr, rfl, xs', ys', is', js', hz, hx', hy', hlen, hlex⟩
    cases hx' with
    | nil => simp at hz
    | @cons i t xs'' is'' hx'' =>
      cases hy' with
      | nil => simp at hz
      | @cons j t' ys'' js'' hy'' =>
        simp only [List.zip_cons_cons, List.cons.injEq, Prod.mk.injEq] at hz
        obtain ⟨⟨rfl, rfl⟩, rfl⟩ := hz
        refine wpAny_bind (wpAny_eqBool_int ?_)
        by_cases hk : i = j
        · subst hk
          simp only [beq_self_eq_true, Bool.not_true, Bool.false_eq_true, if_false]
          refine wpAny_pure ⟨rfl, rfl, _, _, _, _, rfl, hx'', hy'', by simpa using hlen, ?_⟩
          rw [← hlex]; simp [lexLt]
        · simp only [beq_eq_false_iff_ne.mpr hk, Bool.not_false, if_true]
          rw [← hlex] at h
          simp only [lexLt, hk, if_false] at h
          refine wpAny_bind (wpAny_rule (wpAny_bind ?_))
          show wpAny _ _ (compareOp .Lt (.int i t) (.int j t')) _ _ _
          refine wpAny_lt_int ?_
          exact wpAny_bind (wpAny_pure (wpAny_pure (wpAny_pure h)))
  · rintro ⟨r1, r2⟩ s' ⟨hr, rfl, xs', ys', is', js', hz, hx', hy', hlen, hlex⟩
    simp only at hr
    subst hr
    refine wpAny_pure ?_
    show P (.done (.ret (.bool (decide (xs.toArray.size < ys.toArray.size))))) s'
    have e1 : ∀ {vs : List Value} {is : List Int}, Ints vs is → vs.length = is.length := by
      intro vs is h
      induction h with
      | nil => rfl
      | cons _ ih => simp [ih]
    have hxy : xs.length = ys.length := by rw [e1 hi, e1 hj, hl]
    have hl2 : lexLt is' js' = false := by
      cases hx' with
      | nil => simp [lexLt]
      | cons _ =>
        cases hy' with
        | nil => simp [lexLt]
        | cons _ => simp at hz
    rw [← hlex, hl2] at h
    simpa [hxy] using h
theorem w_tupLt {a b : Addr} {xs ys : List Value} {n m : Nat} {is js : List Int} {Q : Value → Shared → Prop} (hu : A.units < cLine) (ha : IsT s.heap a xs.toArray n) (hb : IsT s.heap b ys.toArray m) (hi : Ints xs is) (hj : Ints ys js) (hl : is.length = js.length)
    (h : Q (.bool (lexLt is js)) s) : wpAny (model prog w) A (compareOp .Lt (.ref a) (.ref b)) Q E s := by
  show wpAny _ _ (richCompare .Lt (.ref a) (.ref b)) Q E s
  have hTa : s.TypeIs (.ref a) "tuple" := ⟨_, ha, rfl⟩
  have hTb : s.TypeIs (.ref b) "tuple" := ⟨_, hb, rfl⟩
  exact wpAny_richCompare_same_room (op := .Lt) hTa hTb F.slot_tuple_lt (wpAny_call_entry F.slot_tuple_lt hTa F.entry_tuple_lt (tuple_lt_tree ha hb hi hj hl ⟨_, rfl, (fun e => nomatch e), h⟩) (F.args_tuple_lt_2 _ _)) hu
end
end Mine
end

noncomputable section
open PySem PySem.W PyProof.Rows
namespace Mine

noncomputable def GlobAt (X : Cx) (x : Str) (v : Value) : Prop := (∃ mg, X.h₀.Ns mainGlobals mg ∧ mg x = some v) ∨ (∃ mg mb, X.h₀.Ns mainGlobals mg ∧ mg x = none ∧ X.h₀.Ns builtinsNs mb ∧ mb x = some v)

section
variable {X : Cx} {A : Around} {F : Fx}

theorem se_glob {x : Str} {v : Value} {pos : Pos} (hg : GlobAt X x v) (hk : F.env.kindOf x = some .globalImplicit) (hd : (x == ("__debug__" : Str)) = false) :
    SE X A F (.Name x pos) (fun st P => P (.con v) st) := by
  intro st s r P hP Q E h
  refine Calls.Name_function_global r.ok.kind hk ?_ hd
  rcases hg with ⟨mg, hn, hv⟩ | ⟨mg, mb, hn, hm, hb, hv⟩
  · exact Calls.loadGlobal_global (by rw [r.ok.glob]; exact hn.keeps r.H.base) hv (h _ _ _ _ r .refl (.mkCon _ _) hP)
  · exact Calls.loadGlobal_builtin (by rw [r.ok.glob]; exact hn.keeps r.H.base) hm (by rw [r.ok.blt]; exact hb.keeps r.H.base) hv (h _ _ _ _ r .refl (.mkCon _ _) hP)

theorem R.so {st : St} {s : Shared} {t : Sem Value} {w : (V → Hp → Prop) → Prop} (r : R X F st s) (so : SO X A t st.hp s w) {P : V → St → Prop} (hw : w fun v hp' => P v ⟨st.lo, hp'⟩) {Q : Value → Shared → Prop} {E : Value → Shared → Prop}
    (h : ∀ v st' rv s', R X F st' s' → Ev F.pv F.fr st.hp s st'.hp s' → VR s'.heap v rv → P v st' → Q rv s') : wpAny (MM X) A t Q E s :=
  so _ hw Q E fun v hp' rv s' H' ev hv hp => h v ⟨st.lo, hp'⟩ rv s' (r.ev ev H') ev.weaken hv hp

theorem lookup_rel {h : Heap} : ∀ {kvs : List (Int × V)} {rk : List (Int × Value)} {k : Int} {v : V}, rk.map (·.1) = kvs.map (·.1) → VRs h (kvs.map (·.2)) (rk.map (·.2)) → kvs.lookup k = some v → ∃ rv, valueAt rk k = some rv ∧ VR h v rv
  | [], _, _, _, _, _, e => by simp at e
  | (k0, v0) :: kvs, rk, k, v, hk, hv, e => by
    cases rk with
    | nil => simp at hk
    | cons q rk =>
      obtain ⟨k1, v1⟩ := q
      simp only [List.map_cons, List.cons.injEq] at hk
      obtain ⟨rfl, hk⟩ := hk
      simp only [List.map_cons, VRs] at hv
      obtain ⟨w, r, e1, hv1, hv⟩ := hv
      simp only [List.cons.injEq] at e1
      obtain ⟨rfl, rfl⟩ := e1
      rw [List.lookup_cons] at e
      by_cases q : k = k1
      · subst q
        simp only [beq_self_eq_true, Option.some.injEq] at e
        subst e
        exact ⟨v1, by simp [valueAt], hv1⟩
      · have q' : (k == k1) = false := beq_eq_false_iff_ne.mpr q
        rw [q'] at e
        obtain ⟨rv, a, b⟩ := lookup_rel hk hv e
        refine ⟨rv, ?_, b⟩
        have q'' : ¬ k1 = k := fun z => q z.symm
        simpa [valueAt, List.find?_cons, q''] using a
theorem lookup_none {h : Heap} : ∀ {kvs : List (Int × V)} {rk : List (Int × Value)} {k : Int}, rk.map (·.1) = kvs.map (·.1) → kvs.lookup k = none → valueAt rk k = none
  | [], rk, _, hk, _ => by simp at hk; subst hk; rfl
  | (k0, v0) :: kvs, rk, k, hk, e => by
    cases rk with
    | nil => simp at hk
    | cons q rk =>
      obtain ⟨k1, v1⟩ := q
      simp only [List.map_cons, List.cons.injEq] at hk
      obtain ⟨rfl, hk⟩ := hk
      rw [List.lookup_cons] at e
      by_cases q : k = k1
      · subst q; simp at e
      · have q' : (k == k1) = false := beq_eq_false_iff_ne.mpr q
        rw [q'] at e
        have := lookup_none (h := h) hk e
        have q'' : ¬ k1 = k := fun z => q z.symm
        simpa [valueAt, List.find?_cons, q''] using this

inductive EqR (hp : Hp) : Nat → V → V → Bool → Prop
  | int {n : Nat} {a b : Int} : EqR hp n (.int a) (.int b) (a == b)
  | bool {n : Nat} {a b : Bool} : EqR hp n (.bool a) (.bool b) (a == b)
  | lists {n : Nat} {a b : Addr} {xs ys : List V} (e : Nat → Bool) : a ≠ b → hp a = some (.list xs) → hp b = some (.list ys) → xs.length = ys.length → (∀ (j : Nat) x y, xs[j]? = some x → ys[j]? = some y → EqR hp n x y (e j)) → EqR hp (n + 1) (.ref a) (.ref b) ((List.range xs.length).all e)
  | listsLen {n : Nat} {a b : Addr} {xs ys : List V} : a ≠ b → hp a = some (.list xs) → hp b = some (.list ys) → xs.length ≠ ys.length → EqR hp n (.ref a) (.ref b) false
  | dicts {n : Nat} {a b : Addr} {ks ls : List (Int × V)} {m l : Nat} (f : Int → V) : a ≠ b → hp a = some (.dict ks m) → hp b = some (.dict ls l) → ks.length = ls.length → (∀ k x, (k, x) ∈ ks → ls.lookup k = some (f k)) → (∀ k x, (k, x) ∈ ks → EqR hp n x (f k) true) → EqR hp (n + 1) (.ref a) (.ref b) true

inductive CmpR (X : Cx) (hp : Hp) : CmpOp → V → V → Bool → Prop
  | int {op : CmpOp} {a b : Int} {r : Bool} : cmpI op a b = some r → CmpR X hp op (.int a) (.int b) r
  | isNone {r : Bool} {v : V} : (v = .none ∧ r = true) ∨ ((∃ i, v = .int i) ∨ (∃ a o, v = .ref a ∧ hp a = some o)) ∧ r = false → CmpR X hp .Is v .none r
  | isNotNone {r : Bool} {v : V} : (v = .none ∧ r = false) ∨ ((∃ i, v = .int i) ∨ (∃ a o, v = .ref a ∧ hp a = some o)) ∧ r = true → CmpR X hp .IsNot v .none r
  | isInt {i : Int} {m : Addr} : CmpR X hp .Is (.int i) (.con (.ref m)) false
  | isRef {a m : Addr} {o : O} {ob : Obj} : hp a = some o → X.h₀.get? m = some ob → ob.cls ≠ .type "tuple" → CmpR X hp .Is (.ref a) (.con (.ref m)) false
  | tupLt {is js : List Int} : is.length = js.length → CmpR X hp .Lt (.tup (is.map .int)) (.tup (js.map .int)) (lexLt is js)
  | eqRef {a b : Addr} {r : Bool} : EqR hp 8 (.ref a) (.ref b) r → CmpR X hp .Eq (.ref a) (.ref b) r
  | neList {a b : Addr} {xs ys : List V} (e : Nat → Bool) : hp a = some (.list xs) → hp b = some (.list ys) → xs.length = ys.length → (∀ (j : Nat) x y, xs[j]? = some x → ys[j]? = some y → EqR hp 8 x y (e j)) → CmpR X hp .NotEq (.ref a) (.ref b) (!(List.range xs.length).all e)
  | eqTup {xs ys : List V} (e : Nat → Bool) : xs.length = ys.length → (∀ (j : Nat) x y, xs[j]? = some x → ys[j]? = some y → EqR hp 8 x y (e j)) → CmpR X hp .Eq (.tup xs) (.tup ys) ((List.range xs.length).all e)
  | inDict {d : Addr} {kvs : List (Int × V)} {ep : Nat} {k : Int} : hp d = some (.dict kvs ep) → CmpR X hp .In (.int k) (.ref d) (kvs.lookup k).isSome
  | inSet {d : Addr} {ks : List Int} {k : Int} : hp d = some (.set ks) → CmpR X hp .In (.int k) (.ref d) (ks.contains k)
  | notInInts {l : Addr} {is : List Int} {k : Int} : hp l = some (.list (is.map .int)) → CmpR X hp .NotIn (.int k) (.ref l) (!is.contains k)
  | inBools {l : Addr} {bs : List Bool} {b : Bool} : hp l = some (.list (bs.map .bool)) → CmpR X hp .In (.bool b) (.ref l) (bs.contains b)
  | inNil {l c : Addr} {as : List Addr} (g : Addr → List V) : hp l = some (.list (as.map .ref)) → hp c = some (.list []) → c ∉ as → (∀ a ∈ as, hp a = some (.list (g a))) → CmpR X hp .In (.ref c) (.ref l) (as.any fun a => (g a).isEmpty)

theorem pairs_any {p p' : Program} {w w' : World} {es : List DictEntry} {kvs : List (Int × Value)} (h : Pairs (intKind p w) es kvs) : Pairs (intKind p' w') es kvs := by
  induction h with
  | nil => exact .nil
  | cons h1 h2 _ ih => exact .cons h1 h2 ih
theorem dictOf_any {p p' : Program} {w w' : World} {h : Heap} {a : Addr} {kvs : List (Int × Value)} (x : h.DictOf (intKind p w) a kvs) : h.DictOf (intKind p' w') a kvs := by
  obtain ⟨o, es, ep, ho, hc, hd, hk, hp, hn⟩ := x
  exact ⟨o, es, ep, ho, hc, hd, hk, pairs_any hp, hn⟩

structure COk (X : Cx) : Prop where
  mods : ∃ o, X.h₀.get? sysModules = some o
theorem RH.notMods {hp : Hp} {s : Shared} (C : COk X) (H : RH X hp s) {d : Addr} {o : O} (e : hp d = some o) : (d == sysModules) = false := by
  rw [beq_eq_false_iff_ne]
  rintro rfl
  obtain ⟨ob, ho⟩ := C.mods
  rw [H.bfree _ _ ho] at e; cases e

theorem VRs.getElem {h : Heap} {xs : List V} {vs : List Value} {j : Nat} (hv : VRs h xs vs) (hj : j < vs.toArray.size) : ∃ x, xs[j]? = some x ∧ VR h x vs.toArray[j] := by
  have hl := hv.length
  have hj' : j < xs.length := by rw [← hl]; simpa using hj
  refine ⟨xs[j], by simp [hj'], ?_⟩
  obtain ⟨v, e, q⟩ := hv.get (i := j) (x := xs[j]) (by simp [hj'])
  have : vs.toArray[j] = v := by
    obtain ⟨_, e'⟩ := List.getElem?_eq_some_iff.mp e
    simpa using e'
  rw [this]; exact q

theorem hits_all {A : Around} {s : Shared} {ls : List (Int × V)} {rl : List (Int × Value)} {f : Int → V} (hl : rl.map (·.1) = ls.map (·.1)) (hv : VRs s.heap (ls.map (·.2)) (rl.map (·.2))) :
    ∀ {ks : List (Int × V)} {rk : List (Int × Value)}, rk.map (·.1) = ks.map (·.1) → VRs s.heap (ks.map (·.2)) (rk.map (·.2)) → (∀ k x, (k, x) ∈ ks → ls.lookup k = some (f k)) →
      (∀ k x, (k, x) ∈ ks → ∀ rx ry, VR s.heap x rx → VR s.heap (f k) ry → SeqAt.EqAt A s rx ry true) → KeqHits A s rl rk true
  | [], rk, hk, _, _, _ => by simp at hk; subst hk; exact .nil
  | (k, x) :: ks, rk, hk, hvk, hf, hall => by
    cases rk with
    | nil => simp at hk
    | cons q rk =>
      obtain ⟨k1, v1⟩ := q
      simp only [List.map_cons, List.cons.injEq] at hk
      obtain ⟨rfl, hk⟩ := hk
      simp only [List.map_cons, VRs] at hvk
      obtain ⟨w, r, e1, hv1, hvk⟩ := hvk
      simp only [List.cons.injEq] at e1
      obtain ⟨rfl, rfl⟩ := e1
      have hy := hf k1 x (by simp)
      obtain ⟨ry, e1, e2⟩ := lookup_rel hl hv hy
      have := KeqHits.hit (A := A) (s := s) e1 (hall k1 x (by simp) v1 ry hv1 e2) (hits_all hl hv hk hvk (fun k x hm => hf k x (by simp [hm])) fun k x hm => hall k x (by simp [hm]))
      simpa using this

theorem eqAt {hp : Hp} {s : Shared} (C : COk X) (H : RH X hp s) {n : Nat} {a b : V} {r : Bool} (e : EqR hp n a b r) : ∀ {A : Around}, A.units + n < cLine → ∀ {ra rb : Value}, VR s.heap a ra → VR s.heap b rb → SeqAt.EqAt A s ra rb r := by
  induction e with
  | int =>
    intro A hA ra rb ha hb
    obtain ⟨t, rfl⟩ := ha.unInt
    obtain ⟨u, rfl⟩ := hb.unInt
    exact SeqAt.EqAt.int_int _ _ _ _
  | bool =>
    intro A hA ra rb ha hb
    have := ha.unBool; subst this
    have := hb.unBool; subst this
    exact SeqAt.EqAt.bool_bool _ _
  | lists e hne h1 h2 hl _ ih =>
    intro A hA ra rb ha hb
    have := ha.unRef; subst this
    have := hb.unRef; subst this
    obtain ⟨vs, p1, q1⟩ := H.own _ _ h1
    obtain ⟨us, p2, q2⟩ := H.own _ _ h2
    have l1 := q1.length
    have l2 := q2.length
    have := SeqAt.RcAt.lists (A := A) (e := e) p1.isList p2.isList (by simp [l1, l2, hl]) (by omega) fun j j1 j2 => by
      obtain ⟨x, ex, vx⟩ := q1.getElem j1
      obtain ⟨y, ey, vy⟩ := q2.getElem j2
      exact ih j x y ex ey (by show A.units + 1 + _ < _; omega) vx vy
    refine SeqAt.EqAt.of_refs hne ?_
    simpa [l1] using this
  | listsLen hne h1 h2 hl =>
    intro A hA ra rb ha hb
    have := ha.unRef; subst this
    have := hb.unRef; subst this
    obtain ⟨vs, p1, q1⟩ := H.own _ _ h1
    obtain ⟨us, p2, q2⟩ := H.own _ _ h2
    have l1 := q1.length
    have l2 := q2.length
    exact SeqAt.EqAt.of_refs hne (SeqAt.RcAt.lists_lengths p1.isList p2.isList (by simp [l1, l2, hl]) (by omega))
  | dicts f hne h1 h2 hl hf _ ih =>
    intro A hA ra rb ha hb
    have := ha.unRef; subst this
    have := hb.unRef; subst this
    obtain ⟨rk, p1, k1, q1⟩ := H.own _ _ h1
    obtain ⟨rl, p2, k2, q2⟩ := H.own _ _ h2
    have l1 := congrArg List.length k1; simp only [List.length_map] at l1
    have l2 := congrArg List.length k2; simp only [List.length_map] at l2
    refine SeqAt.EqAt.of_refs hne fun prog w E Q h => ?_
    refine keq_eq (knd := intKind prog w) (r := true) (H.notMods C h1) (H.notMods C h2) (dictOf_any p1.dictOf) (dictOf_any p2.dictOf) (by omega) (fun _ => hits_all k2 q2 k1 q1 hf fun k x hm rx ry vx vy => ih k x hm (by show A.units + 1 + _ < _; omega) vx vy) ?_
    simpa [l1, l2, hl] using h

noncomputable def SC (X : Cx) (A : Around) (op : CmpOp) (a b : V) (ra rb : Value) (hp : Hp) (s : Shared) : Prop := ∀ r, CmpR X hp op a b r → ∀ (Q : Value → Shared → Prop) (E : Value → Shared → Prop),
  (∀ s', RH X hp s' → Ev [] [] hp s hp s' → Q (.bool r) s') → wpAny (MM X) A (compareOp op ra rb) Q E s

theorem VRs.bools {h : Heap} : ∀ {bs : List Bool} {vs : List Value}, VRs h (bs.map .bool) vs → vs = bs.map .bool
  | [], _, e => by simpa [VRs] using e
  | b :: bs, _, e => by
    simp only [List.map_cons, VRs] at e
    obtain ⟨v, r, rfl, e1, e2⟩ := e
    rw [e1.unBool, e2.bools]; rfl
theorem VRs.refs {h : Heap} : ∀ {as : List Addr} {vs : List Value}, VRs h (as.map .ref) vs → vs = as.map .ref
  | [], _, e => by simpa [VRs] using e
  | b :: bs, _, e => by
    simp only [List.map_cons, VRs] at e
    obtain ⟨v, r, rfl, e1, e2⟩ := e
    rw [e1.unRef, e2.refs]; rfl
theorem Ints.any {vs : List Value} {is : List Int} (h : Ints vs is) (k : Int) : (vs.any fun v => match v with | .int i _ => i == k | _ => false) = is.contains k := by
  induction h with
  | nil => rfl
  | @cons i t vs is _ ih =>
    rw [List.any_cons, ih, List.contains_cons]
    congr 1
    show (i == k) = (k == i)
    by_cases e : i = k
    · subst e; rfl
    · rw [beq_eq_false_iff_ne.mpr e, beq_eq_false_iff_ne.mpr fun z => e z.symm]
theorem Ints.mem {vs : List Value} {is : List Int} (h : Ints vs is) {v : Value} (hv : v ∈ vs) : ∃ i t, v = .int i t := by
  induction h with
  | nil => cases hv
  | cons _ ih =>
    rcases List.mem_cons.mp hv with rfl | hv
    · exact ⟨_, _, rfl⟩
    · exact ih hv

theorem bools_any (b : Bool) : ∀ bs : List Bool, ((bs.map Value.bool).toArray.any fun v => match v with | .bool i => i == b | _ => false) = bs.contains b
  | [] => by simp
  | c :: bs => by
    have ih := bools_any b bs
    rw [List.any_toArray] at ih ⊢
    rw [List.map_cons, List.any_cons, ih, List.contains_cons]
    cases c <;> cases b <;> rfl
theorem refs_any (g : Addr → List V) : ∀ as : List Addr, ((as.map Value.ref).toArray.any fun v => match v with | .ref a => (g a).isEmpty | _ => false) = as.any fun a => (g a).isEmpty
  | [] => by simp
  | c :: bs => by
    have ih := refs_any g bs
    rw [List.any_toArray] at ih ⊢
    rw [List.map_cons, List.any_cons, ih, List.any_cons]

theorem sc {d : Nat} {hp : Hp} {s : Shared} {op : CmpOp} {a b : V} {ra rb : Value} (C : COk X) (hA : AOk A d) (H : RH X hp s) (ha : VR s.heap a ra) (hb : VR s.heap b rb) : SC X A op a b ra rb hp s := by
  intro r c Q E h
  have hu := hA.units
  have hcl : cLine = 9900 := rfl
  cases c with
  | int e =>
    obtain ⟨t, rfl⟩ := ha.unInt
    obtain ⟨u, rfl⟩ := hb.unInt
    exact w_cmpI e (h s H .refl)
  | isNone e =>
    have hb' := hb.unNone
    subst hb'
    rcases e with ⟨rfl, rfl⟩ | ⟨⟨i, rfl⟩ | ⟨c, o, rfl, ho⟩, rfl⟩
    · have ha' := ha.unNone; subst ha'
      exact wpAny_is_self rfl (h s H .refl)
    · obtain ⟨t, rfl⟩ := ha.unInt
      exact wpAny_is_other rfl (by simp) (h s H .refl)
    · have ha' := ha.unRef; subst ha'
      exact wpAny_is_other rfl (by simp) (h s H .refl)
  | isNotNone e =>
    have hb' := hb.unNone
    subst hb'
    rcases e with ⟨rfl, rfl⟩ | ⟨⟨i, rfl⟩ | ⟨c, o, rfl, ho⟩, rfl⟩
    · have ha' := ha.unNone; subst ha'
      exact wpAny_isNot_self rfl (h s H .refl)
    · obtain ⟨t, rfl⟩ := ha.unInt
      exact wpAny_isNot_other rfl (by simp) (h s H .refl)
    · have ha' := ha.unRef; subst ha'
      exact wpAny_isNot_other rfl (by simp) (h s H .refl)
  | isInt =>
    have hb' := hb.unCon; subst hb'
    obtain ⟨t, rfl⟩ := ha.unInt
    exact wpAny_is_other rfl (by simp) (h s H .refl)
  | @isRef a m o ob e hm hc =>
    have hb' := hb.unCon; subst hb'
    have ha' := ha.unRef; subst ha'
    obtain ⟨oa, hoa, _⟩ := (H.own _ _ e).alive
    have hne : a ≠ m := by rintro rfl; rw [H.bfree _ _ hm] at e; cases e
    show wpAny _ _ (do return .bool (← isSame (.ref a) (.ref m))) Q E s
    exact wpAny_bind (PySem.SeqAt.wpAny_isSame_ref_other' hne hoa (H.base _ _ hm) hc (wpAny_pure (h s H .refl)))
  | tupLt hl =>
    obtain ⟨x, xs, n, rfl, t1, v1⟩ := ha.unTup
    obtain ⟨y, ys, m, rfl, t2, v2⟩ := hb.unTup
    exact w_tupLt (by omega) t1 t2 v1.ints v2.ints hl (h s H .refl)
  | eqRef e =>
    have ha' := ha.unRef; subst ha'
    have hb' := hb.unRef; subst hb'
    cases e with
    | lists e hne h1 h2 hl hh =>
      obtain ⟨vs, p1, q1⟩ := H.own _ _ h1
      obtain ⟨us, p2, q2⟩ := H.own _ _ h2
      have l1 := q1.length
      have l2 := q2.length
      refine SeqAt.eq_listAt (e := e) p1.isList p2.isList (by simp [l1, l2, hl]) (by omega) (fun j j1 j2 => ?_) ?_
      · obtain ⟨x, ex, vx⟩ := q1.getElem j1
        obtain ⟨y, ey, vy⟩ := q2.getElem j2
        exact eqAt C H (hh j x y ex ey) (by show A.units + 1 + _ < _; omega) vx vy
      · simpa [l1] using h s H .refl
    | listsLen hne h1 h2 hl =>
      obtain ⟨vs, p1, q1⟩ := H.own _ _ h1
      obtain ⟨us, p2, q2⟩ := H.own _ _ h2
      have l1 := q1.length
      have l2 := q2.length
      exact SeqAt.eq_list_lengthsAt p1.isList p2.isList (by simp [l1, l2, hl]) (by omega) (h s H .refl)
    | dicts f hne h1 h2 hl hf hh =>
      obtain ⟨rk, p1, k1, q1⟩ := H.own _ _ h1
      obtain ⟨rl, p2, k2, q2⟩ := H.own _ _ h2
      have l1 := congrArg List.length k1; simp only [List.length_map] at l1
      have l2 := congrArg List.length k2; simp only [List.length_map] at l2
      refine keq_eq (knd := intKind X.prog X.w) (r := true) (H.notMods C h1) (H.notMods C h2) p1.dictOf p2.dictOf (by omega) (fun _ => hits_all k2 q2 k1 q1 hf fun k x hm rx ry vx vy => eqAt C H (hh k x hm) (by show A.units + 1 + _ < _; omega) vx vy) ?_
      simpa [l1, l2, hl] using h s H .refl
  | neList e h1 h2 hl hh =>
    have ha' := ha.unRef; subst ha'
    have hb' := hb.unRef; subst hb'
    obtain ⟨vs, p1, q1⟩ := H.own _ _ h1
    obtain ⟨us, p2, q2⟩ := H.own _ _ h2
    have l1 := q1.length
    have l2 := q2.length
    refine SeqAt.RcNeAt.lists (A := A) (e := e) p1.isList p2.isList (by simp [l1, l2, hl]) (by omega) (fun j j1 j2 => ?_) _ _ _ _ ?_
    · obtain ⟨x, ex, vx⟩ := q1.getElem j1
      obtain ⟨y, ey, vy⟩ := q2.getElem j2
      exact eqAt C H (hh j x y ex ey) (by show A.units + 1 + _ < _; omega) vx vy
    · simpa [l1] using h s H .refl
  | eqTup e hl hh =>
    obtain ⟨x, xs, n, rfl, t1, q1⟩ := ha.unTup
    obtain ⟨y, ys, m, rfl, t2, q2⟩ := hb.unTup
    have l1 := q1.length
    have l2 := q2.length
    refine SeqAt.eq_tupleAt (e := e) ⟨_, t1, rfl, _, rfl⟩ ⟨_, t2, rfl, _, rfl⟩ (by omega) (fun j j1 j2 => ?_) ?_
    · obtain ⟨x, ex, vx⟩ := q1.getElem j1
      obtain ⟨y, ey, vy⟩ := q2.getElem j2
      exact eqAt C H (hh j x y ex ey) (by show A.units + 1 + _ < _; omega) vx vy
    · have := h s H .refl
      simpa [l1, l2, hl] using this
  | @inDict d kvs ep k e =>
    have hb' := hb.unRef; subst hb'
    obtain ⟨t, rfl⟩ := ha.unInt
    obtain ⟨rk, p1, k1, q1⟩ := H.own _ _ e
    refine wpAny_in_of (knd := intKind X.prog X.w) (k := k) (by simp [intKind, Value.isInt]) (H.notMods C e) p1.dictOf.mapOf ?_
    have : (valueAt rk k).isSome = (kvs.lookup k).isSome := by
      cases hl : kvs.lookup k with
      | none => rw [lookup_none (h := s.heap) k1 hl]; rfl
      | some v => obtain ⟨rv, e1, _⟩ := lookup_rel k1 q1 hl; rw [e1]; rfl
    rw [this]
    exact h _ (H.toks _) (.toks _)
  | @inSet d ks k e =>
    have hb' := hb.unRef; subst hb'
    obtain ⟨t, rfl⟩ := ha.unInt
    have p1 := H.own _ _ e
    exact wpAny_inSet_of (knd := intKind X.prog X.w) (k := k) (by simp [intKind, Value.isInt]) rfl p1 (h _ (H.toks _) (.toks _))
  | @notInInts l is k e =>
    have hb' := hb.unRef; subst hb'
    obtain ⟨t, rfl⟩ := ha.unInt
    obtain ⟨vs, p1, q1⟩ := H.own _ _ e
    have hi := q1.ints
    refine SeqAt.notIn_listAt (fun v => match v with | .int i _ => i == k | _ => false) p1.isList (fun y hy => ?_) ?_
    · obtain ⟨i, t', rfl⟩ := hi.mem (v := y) (by simpa using hy)
      exact SeqAt.EqAt.int_int _ _ _ _
    · have := h s H .refl
      rw [← hi.any k] at this
      simpa using this
  | @inBools l bs b e =>
    have hb' := hb.unRef; subst hb'
    have ha' := ha.unBool; subst ha'
    obtain ⟨vs, p1, q1⟩ := H.own _ _ e
    have hi := q1.bools
    subst hi
    refine SeqAt.in_listAt (fun v => match v with | .bool i => i == b | _ => false) p1.isList (fun y hy => ?_) ?_
    · obtain ⟨i, _, rfl⟩ : ∃ i, i ∈ bs ∧ .bool i = y := by simpa using hy
      exact SeqAt.EqAt.bool_bool _ _
    · have := h s H .refl
      rw [bools_any]; exact this
  | @inNil l c as g e hc hna hg =>
    have hb' := hb.unRef; subst hb'
    have ha' := ha.unRef; subst ha'
    obtain ⟨vs, p1, q1⟩ := H.own _ _ e
    have hi := q1.refs
    subst hi
    refine SeqAt.in_listAt (fun v => match v with | .ref a => (g a).isEmpty | _ => false) p1.isList (fun y hy => ?_) ?_
    · obtain ⟨a, hm, rfl⟩ : ∃ i, i ∈ as ∧ .ref i = y := by simpa using hy
      have hne : a ≠ c := by rintro rfl; exact hna hm
      have hga := hg a hm
      refine eqAt C H (n := 1) (a := .ref a) (b := .ref c) ?_ (by show A.units + 1 + _ < _; omega) (.mkRef _ _) (.mkRef _ _)
      show EqR hp 1 (.ref a) (.ref c) (g a).isEmpty
      cases hgl : g a with
      | nil =>
        rw [hgl] at hga
        exact EqR.lists (e := fun _ => true) hne hga hc rfl (by intro j x y hx; simp at hx)
      | cons q r =>
        rw [hgl] at hga
        exact EqR.listsLen hne hga hc (by simp)
    · rw [refs_any]; exact h s H .refl

theorem se_cmp {l r : Expr} {op : CmpOp} {pos : Pos} {W1 W2 : WE} (h1 : SE X A F l W1) (h2 : SE X A F r W2) (C : COk X) {d : Nat} (hA : AOk A d) (hm : behindInMarks op r = false) :
    SE X A F (.Compare l [op] [r] pos) (fun st P => W1 st fun a st1 => W2 st1 fun b st2 => ∃ q, CmpR X st2.hp op a b q ∧ P (.bool q) st2) := by
  intro st s r0 P hP Q E h
  refine wpAny_Compare1 (h1 st s r0 _ hP _ _ fun a st1 ra s1 r1 ev1 hv1 hp1 => h2 st1 s1 r1 _ hp1 _ _ fun b st2 rb s2 r2 ev2 hv2 hp2 => ?_) hm
  have hv1' := hv1.mono (r1.tk ev2)
  obtain ⟨q, c, hw⟩ := hp2
  exact sc C hA r2.H hv1' hv2 q c _ _ fun s' H' ev' => h _ _ _ _ (r2.ev ev' H') ((ev1.trans ev2).trans ev'.weaken) (.mkBool _ _) hw
theorem sb_cmp {l r : Expr} {op : CmpOp} {pos : Pos} {W1 W2 : WE} (h1 : SE X A F l W1) (h2 : SE X A F r W2) (C : COk X) {d : Nat} (hA : AOk A d) (hm : behindInMarks op r = false) :
    SB X A F (.Compare l [op] [r] pos) (fun st P => W1 st fun a st1 => W2 st1 fun b st2 => ∃ q, CmpR X st2.hp op a b q ∧ P q st2) := by
  intro st s r0 P hP Q E h
  refine wpAny_isTrue_Compare1 (h1 st s r0 _ hP _ _ fun a st1 ra s1 r1 ev1 hv1 hp1 => h2 st1 s1 r1 _ hp1 _ _ fun b st2 rb s2 r2 ev2 hv2 hp2 => ?_) hm
  have hv1' := hv1.mono (r1.tk ev2)
  obtain ⟨q, c, hw⟩ := hp2
  exact sc C hA r2.H hv1' hv2 q c _ _ fun s' H' ev' => wpAny_truthy_bool (h _ _ _ (r2.ev ev' H') ((ev1.trans ev2).trans ev'.weaken) hw)

inductive TruR (hp : Hp) : V → Bool → Prop
  | bool {b} : TruR hp (.bool b) b
  | none : TruR hp .none false
  | int {i} : TruR hp (.int i) (i != 0)
  | list {a xs} : hp a = some (.list xs) → xs.length < 2 ^ 60 → TruR hp (.ref a) (!xs.isEmpty)

theorem st_tru {hp : Hp} {s : Shared} {v : V} {rv : Value} {b : Bool} (H : RH X hp s) (hv : VR s.heap v rv) (t : TruR hp v b) {Q : Bool → Shared → Prop} {E : Value → Shared → Prop}
    (h : ∀ s', RH X hp s' → Ev [] [] hp s hp s' → Q b s') : wpAny (MM X) A (truthy rv) Q E s := by
  cases t with
  | bool => have := hv.unBool; subst this; exact wpAny_truthy_bool (h s H .refl)
  | none => have := hv.unNone; subst this; exact truthy_none (h s H .refl)
  | int => obtain ⟨t, rfl⟩ := hv.unInt; exact PyProof.Rows.truthy_int (h s H .refl)
  | @list a xs e hl =>
    have := hv.unRef; subst this
    obtain ⟨vs, hl', hvs⟩ := H.own _ _ e
    have hlen := hvs.length
    have hvs' : (vs.toArray.size : Int) < 2 ^ 63 := by rw [List.size_toArray, hlen]; omega
    refine wpAny_truthy_list hl'.isList hvs' ?_
    have e : (!vs.toArray.isEmpty) = !xs.isEmpty := by
      cases xs with
      | nil => simp only [List.length_nil, List.length_eq_zero_iff] at hlen; subst hlen; rfl
      | cons x xs => cases vs with | nil => simp at hlen | cons v vs => rfl
    rw [e]
    exact h _ (H.toks _) (.toks _)

theorem sb_val {e : Expr} {W : WE} (h1 : SE X A F e W) (he : ∀ (whole : Sem Value), isTrue e F.env whole = (do let v ← whole; standAt e.pos; holding [v] (truthy v))) :
    SB X A F e (fun st P => W st fun v st1 => ∃ b, TruR st1.hp v b ∧ P b st1) := by
  intro st s r0 P hP Q E h
  refine wpAny_isTrue_value (h1 st s r0 _ hP _ _ fun v st1 rv s1 r1 ev1 hv1 hp1 => ?_) (he _)
  obtain ⟨b, t, hp1⟩ := hp1
  exact st_tru r1.H hv1 t fun s' H' ev' => h _ _ _ (r1.ev ev' H') (ev1.trans ev'.weaken) hp1
theorem sb_not {e : Expr} {pos : Pos} {W : WB} (h1 : SB X A F e W) : SB X A F (.UnaryOp .Not e pos) (fun st P => W st fun b st1 => P (!b) st1) := by
  intro st s r0 P hP Q E h
  exact wpAny_isTrue_Not (h1 st s r0 _ hP _ _ fun b st1 s1 r1 ev1 hp1 => h _ _ _ r1 ev1 hp1)
theorem sb_and {e1 e2 : Expr} {pos : Pos} {W1 W2 : WB} (h1 : SB X A F e1 W1) (h2 : SB X A F e2 W2) : SB X A F (.BoolOp .And [e1, e2] pos) (fun st P => W1 st fun b st1 => if b then W2 st1 P else P false st1) := by
  intro st s r0 P hP Q E h
  refine wpAny_isTrue_BoolOp (wpAny_allTrue_And_cons (h1 st s r0 _ hP _ _ fun b st1 s1 r1 ev1 hp1 => ?_))
  cases b with
  | false => exact h _ _ _ r1 ev1 hp1
  | true =>
    refine wpAny_allTrue_And_cons (h2 st1 s1 r1 _ hp1 _ _ fun b st2 s2 r2 ev2 hp2 => ?_)
    cases b with
    | false => exact h _ _ _ r2 (ev1.trans ev2) hp2
    | true => exact wpAny_allTrue_And_nil (h _ _ _ r2 (ev1.trans ev2) hp2)
theorem sb_or {e1 e2 : Expr} {pos : Pos} {W1 W2 : WB} (h1 : SB X A F e1 W1) (h2 : SB X A F e2 W2) : SB X A F (.BoolOp .Or [e1, e2] pos) (fun st P => W1 st fun b st1 => if b then P true st1 else W2 st1 P) := by
  intro st s r0 P hP Q E h
  refine wpAny_isTrue_BoolOp (wpAny_allTrue_Or_cons (h1 st s r0 _ hP _ _ fun b st1 s1 r1 ev1 hp1 => ?_))
  cases b with
  | true => exact h _ _ _ r1 ev1 hp1
  | false =>
    refine wpAny_allTrue_Or_cons (h2 st1 s1 r1 _ hp1 _ _ fun b st2 s2 r2 ev2 hp2 => ?_)
    cases b with
    | true => exact h _ _ _ r2 (ev1.trans ev2) hp2
    | false => exact wpAny_allTrue_Or_nil (h _ _ _ r2 (ev1.trans ev2) hp2)
inductive GetR (hp : Hp) : V → V → V → Prop
  | list {a xs k v} : hp a = some (.list xs) → 0 ≤ k → k < 2 ^ 62 → xs[k.toNat]? = some v → GetR hp (.ref a) (.int k) v
  | last {a xs v} : hp a = some (.list (xs ++ [v])) → GetR hp (.ref a) (.int (-1)) v
  | tup {xs k v} : 0 ≤ k → k < 2 ^ 62 → xs[k.toNat]? = some v → GetR hp (.tup xs) (.int k) v
  | dict {d kvs ep k v} : hp d = some (.dict kvs ep) → kvs.lookup k = some v → GetR hp (.ref d) (.int k) v

theorem w_get {hp : Hp} {s : Shared} {o i v : V} {ro ri : Value} (H : RH X hp s) (ho : VR s.heap o ro) (hi : VR s.heap i ri) (g : GetR hp o i v) {value slice : Expr} (hs : ∀ o i, subscripted slice false o i = operate [o, i] (getItem o i))
    {Q : Value → Shared → Prop} {E : Value → Shared → Prop} (h : ∀ rv s', RH X hp s' → Ev [] [] hp s hp s' → VR s'.heap v rv → Q rv s') : wpAny (MM X) A (subscriptTail value slice ro ri) Q E s := by
  cases g with
  | list e h0 h1 hx =>
    have := ho.unRef; subst this
    obtain ⟨t, rfl⟩ := hi.unInt
    obtain ⟨vs, hl, hvs⟩ := H.own _ _ e
    obtain ⟨rv, e1, e2⟩ := hvs.get hx
    exact tail_any hl.isList.typeIs slot_list_getitem.lookup (wpAny_getItem_list hl.isList h0 (by omega) (by simpa using e1) (h rv s H .refl e2)) (hs _ _)
  | @last a xs v e =>
    have := ho.unRef; subst this
    obtain ⟨t, rfl⟩ := hi.unInt
    obtain ⟨vs, hl, hvs⟩ := H.own _ _ e
    have hlen := hvs.length
    obtain ⟨rv, e1, e2⟩ := hvs.get (i := xs.length) (x := v) (by simp)
    simp only [List.length_append, List.length_singleton] at hlen
    refine tail_any hl.isList.typeIs slot_list_getitem.lookup (wpAny_getItem_list_neg (x := rv) hl.isList (by decide) (by rw [List.size_toArray, hlen]; omega) (by decide) ?_ (h rv s H .refl e2)) (hs _ _)
    rw [List.size_toArray, hlen]
    have : ((-1 : Int) + ((xs.length + 1 : Nat) : Int)).toNat = xs.length := by omega
    rw [this]
    simpa using e1
  | @tup xs k v h0 h1 hx =>
    obtain ⟨a, vs, n, rfl, ht, hvs⟩ := ho.unTup
    obtain ⟨t, rfl⟩ := hi.unInt
    obtain ⟨rv, e1, e2⟩ := hvs.get hx
    have hlt := (List.getElem?_eq_some_iff.mp e1).1
    exact tail_any (T := "tuple") ⟨_, ht, rfl⟩ slot_tuple_getitem.lookup (PySem.P.getItem_tuple (k := k.toNat) ht (by omega) (by omega) (by
      unfold seqIndex?
      have : ¬ (k < 0) := Int.not_lt.mpr h0
      simp only [this, if_false, List.size_toArray]
      rw [if_pos (by simp only [Bool.and_eq_true, decide_eq_true_eq]; omega)]) (by simpa using e1) (h rv s H .refl e2)) (hs _ _)
  | dict e hx =>
    have := ho.unRef; subst this
    obtain ⟨t, rfl⟩ := hi.unInt
    obtain ⟨rk, hd, hk, hvs⟩ := H.own _ _ e
    obtain ⟨rv, e1, e2⟩ := lookup_rel hk hvs hx
    exact tail_any hd.dictOf.typeIs slot_dict_getitem.lookup (wpAny_getItem_of (knd := intKind X.prog X.w) (by simp [intKind, Value.isInt]) hd.dictOf.mapOf e1 (h rv _ (H.toks _) (.toks _) e2)) (hs _ _)

theorem se_sub {value slice : Expr} {pos : Pos} {W1 W2 : WE} (h1 : SE X A F value W1) (h2 : SE X A F slice W2) (hs : ∀ o i, subscripted slice false o i = operate [o, i] (getItem o i)) :
    SE X A F (.Subscript value slice pos) (fun st P => W1 st fun o st1 => W2 st1 fun i st2 => ∃ v, GetR st2.hp o i v ∧ P v st2) := by
  intro st s r0 P hP Q E h
  refine Subscript_ (h1 st s r0 _ hP _ _ fun o st1 ro s1 r1 ev1 hv1 hp1 => h2 st1 s1 r1 _ hp1 _ _ fun i st2 ri s2 r2 ev2 hv2 hp2 => ?_)
  obtain ⟨v, g, hp2⟩ := hp2
  exact w_get r2.H (hv1.mono (r1.tk ev2)) hv2 g hs fun rv s' H' ev' hv' => h _ _ _ _ (r2.ev ev' H') ((ev1.trans ev2).trans ev'.weaken) hv' hp2

end
end Mine
end

noncomputable section
open PySem PySem.W PyProof.Rows
namespace Mine

inductive SetR (hp : Hp) : V → V → V → Addr → (O → Prop) → Prop
  | list {a : Addr} {xs : List V} {k : Int} {v : V} : hp a = some (.list xs) → 0 ≤ k → k < (xs.length : Int) → xs.length < 1000000 → SetR hp (.ref a) (.int k) v a (fun o => o = .list (xs.set k.toNat v))
  | dict {d : Addr} {kvs : List (Int × V)} {ep : Nat} {k : Int} {v : V} : hp d = some (.dict kvs ep) → kvs.length < 1000000 → SetR hp (.ref d) (.int k) v d (fun o => ∃ ep', o = .dict (if (kvs.lookup k).isSome then kvs.map (fun p => if p.1 = k then (p.1, v) else p) else kvs ++ [(k, v)]) ep')

theorem sizeLine_ge : 1000000 ≤ sizeLine := by unfold sizeLine; decide

theorem stored_rel {h : Heap} {kvs : List (Int × V)} {rk : List (Int × Value)} {k : Int} {v : V} {rv : Value} (hk : rk.map (·.1) = kvs.map (·.1)) (hv : VRs h (kvs.map (·.2)) (rk.map (·.2))) (hvv : VR h v rv) :
    (stored rk k rv).map (·.1) = (if (kvs.lookup k).isSome then kvs.map (fun p => if p.1 = k then (p.1, v) else p) else kvs ++ [(k, v)]).map (·.1) ∧
    VRs h ((if (kvs.lookup k).isSome then kvs.map (fun p => if p.1 = k then (p.1, v) else p) else kvs ++ [(k, v)]).map (·.2)) ((stored rk k rv).map (·.2)) := by
  have hany : (rk.any fun q => decide (q.1 = k)) = (kvs.lookup k).isSome := by
    clear hv hvv
    induction kvs generalizing rk with
    | nil => simp at hk; subst hk; rfl
    | cons p kvs ih =>
      cases rk with
      | nil => simp at hk
      | cons q rk =>
        obtain ⟨p1, p2⟩ := p
        obtain ⟨q1, q2⟩ := q
        simp only [List.map_cons, List.cons.injEq] at hk
        obtain ⟨rfl, hk⟩ := hk
        rw [List.any_cons, List.lookup_cons, ih hk]
        by_cases e : k = q1
        · subst e; simp
        · have e' : (k == q1) = false := beq_eq_false_iff_ne.mpr e
          have e'' : ¬ q1 = k := fun z => e z.symm
          simp [e', e'']
  unfold stored
  rw [hany]
  cases hb : (kvs.lookup k).isSome with
  | true =>
    simp only [if_true]
    clear hany hb
    induction kvs generalizing rk with
    | nil => simp at hk; subst hk; exact ⟨rfl, by simp [VRs]⟩
    | cons p kvs ih =>
      cases rk with
      | nil => simp at hk
      | cons q rk =>
        obtain ⟨p1, p2⟩ := p
        obtain ⟨q1, q2⟩ := q
        simp only [List.map_cons, List.cons.injEq] at hk
        obtain ⟨rfl, hk⟩ := hk
        simp only [List.map_cons, VRs] at hv
        obtain ⟨w, r, e1, hv1, hv⟩ := hv
        simp only [List.cons.injEq] at e1
        obtain ⟨rfl, rfl⟩ := e1
        obtain ⟨i1, i2⟩ := ih hk hv
        simp only [List.map_cons]
        by_cases e : q1 = k
        · simp only [e, if_true]
          exact ⟨by rw [i1], VRs.cons hvv i2⟩
        · simp only [e, if_false]
          exact ⟨by rw [i1], VRs.cons hv1 i2⟩
  | false =>
    simp only [Bool.false_eq_true, if_false, List.map_append, hk]
    exact ⟨rfl, hv.append (VRs.one hvv)⟩

section
variable {X : Cx} {A : Around} {F : Fx}

theorem w_set {hp : Hp} {s : Shared} {o i v : V} {ro ri rv : Value} {a : Addr} {N : O → Prop} (H : RH X hp s) (ho : VR s.heap o ro) (hi : VR s.heap i ri) (hv : VR s.heap v rv) (g : SetR hp o i v a N)
    {Q : Unit → Shared → Prop} {E : Value → Shared → Prop} (h : ∀ n s', N n → RH X (hp.set a n) s' → Ev [] [] hp s (hp.set a n) s' → Q () s') : wpAny (MM X) A (setItem ro ri rv) Q E s := by
  have sl := sizeLine_ge
  cases g with
  | list e h0 h1 h2 =>
    rename_i xs k
    have := ho.unRef; subst this
    obtain ⟨t, rfl⟩ := hi.unInt
    obtain ⟨vs, ⟨n, hl⟩, hvs⟩ := H.own _ _ e
    have hlen := hvs.length
    refine ki_setAt hl h0 (by omega) (by rw [List.size_toArray]; omega) ?_
    have sb := Heap.SameBut.update s.heap a (Obj.mapSeq (·.setIfInBounds k.toNat rv))
    have ge := PySem.IsL.update (n := n) hl (·.setIfInBounds k.toNat rv)
    have e2 : (vs.set k.toNat rv).toArray = vs.toArray.setIfInBounds k.toNat rv := by simp
    have pl : Heap.PlainList (s.heap.update a (Obj.mapSeq fun x => x.setIfInBounds k.toNat rv)) a (vs.set k.toNat rv).toArray := by rw [e2]; exact ⟨_, ge⟩
    exact h _ _ rfl (H.write (t := s.toks) e sb fun tk => ⟨vs.set k.toNat rv, pl, (hvs.set hv).mono tk⟩) (.write (t := s.toks) e sb ⟨_, ge⟩)
  | dict e hz =>
    rename_i kvs ep k
    have := ho.unRef; subst this
    obtain ⟨t, rfl⟩ := hi.unInt
    obtain ⟨rk, hd, hk, hvs⟩ := H.own _ _ e
    have hl : rk.length = kvs.length := by have := congrArg List.length hk; simpa using this
    refine wpAny_setItem_pairs (knd := intKind X.prog X.w) (k := k) (by simp [intKind, Value.isInt]) hd.dictOf (fun h' hd' sb => ?_) (by omega)
    obtain ⟨ep', hd''⟩ := hd'.dictAt
    obtain ⟨r1, r2⟩ := stored_rel (k := k) hk hvs hv
    refine h _ _ ⟨ep', rfl⟩ (H.write (t := s.toks + 1) e sb fun tk => ⟨_, hd'', r1, r2.mono tk⟩) (.write (t := s.toks + 1) e sb ?_)
    obtain ⟨ob, _, eo, _⟩ := hd''
    exact ⟨ob, eo⟩

abbrev WT := V → St → (St → Prop) → Prop
noncomputable def ST (X : Cx) (A : Around) (F : Fx) (t : Expr) (W : WT) : Prop := ∀ st s v rv, R X F st s → VR s.heap v rv → ∀ P, W v st P → ∀ (Q : Unit → Shared → Prop) (E : Value → Shared → Prop),
  (∀ st' s', R X F st' s' → Ev F.pv F.fr st.hp s st'.hp s' → P st' → Q () s') → wpAny (MM X) A (assign t F.env rv) Q E s
theorem tg_name {i : Nat} {x : Str} {pos : Pos} (hs : StOk F i x) : ST X A F (.Name x pos) (fun v st P => P (st.setL i v)) := by
  intro st s v rv r hv P hP Q E h
  exact assign_Name (w_store hs r hv fun s' r' ev' => h _ _ r' ev' hP)
theorem tg_sub {o i : Expr} {pos : Pos} {W1 W2 : WE} (h1 : SE X A F o W1) (h2 : SE X A F i W2) :
    ST X A F (.Subscript o i pos) (fun v st P => W1 st fun ov st1 => W2 st1 fun iv st2 => ∃ a N, SetR st2.hp ov iv v a N ∧ ∀ n, N n → P (st2.setH a n)) := by
  intro st s v rv r hv P hP Q E h
  rw [assign_Subscript]
  refine wpAny_bind (wpAny_holding (h1 st s r _ hP _ _ fun ov st1 ro s1 r1 ev1 hv1 hp1 => wpAny_bind (wpAny_holding (h2 st1 s1 r1 _ hp1 _ _ fun iv st2 ri s2 r2 ev2 hv2 hp2 => ?_))))
  obtain ⟨a, N, g, hp2⟩ := hp2
  refine wpAny_bind (wpAny_standAt (wpAny_bind (wpAny_holding (w_set r2.H (hv1.mono (r1.tk ev2)) hv2 ((hv.mono (r.tk ev1)).mono (r1.tk ev2)) g fun n s' hn H' ev' => ?_))))
  exact wpAny_release (h _ _ (r2.ev ev' H') ((ev1.trans ev2).trans ev'.weaken) (hp2 n hn))
noncomputable def STs (X : Cx) (A : Around) (F : Fx) (ts : List Expr) (W : List V → St → (St → Prop) → Prop) : Prop := ∀ st s vs rvs, R X F st s → VRs s.heap vs rvs → ∀ P, W vs st P → ∀ (Q : Unit → Shared → Prop) (E : Value → Shared → Prop),
  (∀ st' s', R X F st' s' → Ev F.pv F.fr st.hp s st'.hp s' → P st' → Q () s') → wpAny (MM X) A (assignInOrder ((assignEach ts F.env).map (·.2)) rvs) Q E s
theorem tgs_nil : STs X A F [] (fun vs st P => vs = [] ∧ P st) := by
  rintro st s vs rvs r hv P ⟨rfl, hP⟩ Q E h
  have : rvs = [] := by simpa [VRs] using hv
  subst this
  exact wpAny_assignInOrder_none (h _ _ r .refl hP)
theorem tgs_cons {t : Expr} {ts : List Expr} {W : WT} {Ws : List V → St → (St → Prop) → Prop} (h1 : ST X A F t W) (h2 : STs X A F ts Ws) (he : assignEach (t :: ts) F.env = (false, assign t F.env) :: assignEach ts F.env) :
    STs X A F (t :: ts) (fun vs st P => ∃ v vs', vs = v :: vs' ∧ W v st fun st1 => Ws vs' st1 P) := by
  rintro st s vs rvs r hv P ⟨v, vs', rfl, hP⟩ Q E h
  simp only [VRs] at hv
  obtain ⟨rv, rr, rfl, hv1, hv2⟩ := hv
  rw [he]
  refine wpAny_assignInOrder_more (h1 st s v rv r hv1 _ hP _ _ fun st1 s1 r1 ev1 hp1 => ?_)
  exact h2 st1 s1 vs' rr r1 (hv2.mono (r.tk ev1)) P hp1 Q E fun st2 s2 r2 ev2 hp2 => h _ _ r2 (ev1.trans ev2) hp2
theorem IsT.isTuple {h : Heap} {a : Addr} {items : Array Value} {n : Nat} (x : IsT h a items n) : h.IsTuple a items := ⟨_, x, rfl, n, rfl⟩
theorem tg_tuple {ts : List Expr} {k : Nat} {pos : Pos} {Ws : List V → St → (St → Prop) → Prop} (hA : A.handled = none) (h1 : STs X A F ts Ws) (hl : (assignEach ts F.env).length = ts.length) (hs : (assignEach ts F.env).findIdx? (·.1) = none) :
    ST X A F (.Tuple ts k pos) (fun v st P => ∃ vs, v = .tup vs ∧ vs.length = ts.length ∧ Ws vs st P) := by
  rintro st s v rv r hv P ⟨vs, rfl, hlen, hP⟩ Q E h
  obtain ⟨a, rvs, n, rfl, ht, hvs⟩ := hv.unTup
  refine wpAny_assign_Tuple hA (IsT.isTuple ht) (by rw [hl, List.size_toArray, hvs.length, hlen]) hs fun h' he => ?_
  have k : ∀ b o, s.heap.get? b = some o → h'.get? b = some o := fun b o e => he b o (Nat.ne_of_lt (Heap.lt_size e)) e
  have ev : Ev [] [] st.hp s st.hp { s with heap := h' } := .keeps k ⟨h', s.toks, rfl⟩
  have r' : R X F st { s with heap := h' } := r.ev ev (r.H.keeps k)
  simpa using h1 st _ vs rvs r' (hvs.mono fun b i n t => k b _ t) P hP Q E fun st2 s2 r2 ev2 hp2 => h _ _ r2 (ev.weaken.trans ev2) hp2

theorem ss_assign1 {t value : Expr} {pos : Pos} {W : WE} {Wt : WT} (he : SE X A F value W) (ht : ST X A F t Wt) (h1 : swapsWithSole [t] value pos.line F.env = pure false) (h2 : swappedStores [t] value F.env = pure none)
    (h3 : (assignEach [t] F.env).map (·.2) = [assign t F.env]) : SS X A F (.Assign [t] value pos) (fun st P => W st fun v st1 => Wt v st1 fun st2 => P .next st2) := by
  intro st s r P hP Q E h
  refine wpAny_Assign_stores (he st s r _ hP _ _ fun v st1 rv s1 r1 ev1 hv hp1 => ?_) h1 h2
  rw [h3]
  exact ht st1 s1 v rv r1 hv _ hp1 _ _ fun st2 s2 r2 ev2 hp2 => h .next _ _ _ r2 (ev1.trans ev2) rfl hp2
theorem ss_assign2 {t1 t2 value : Expr} {pos : Pos} {W : WE} {Wt1 Wt2 : WT} (he : SE X A F value W) (ht1 : ST X A F t1 Wt1) (ht2 : ST X A F t2 Wt2)
    (h3 : (assignEach [t1, t2] F.env).map (·.2) = [assign t1 F.env, assign t2 F.env]) (h2 : swappedStores [t1, t2] value F.env = pure none) :
    SS X A F (.Assign [t1, t2] value pos) (fun st P => W st fun v st1 => Wt1 v st1 fun st2 => Wt2 v st2 fun st3 => P .next st3) := by
  intro st s r P hP Q E h
  refine wpAny_Assign_two (he st s r _ hP _ _ fun v st1 rv s1 r1 ev1 hv hp1 => ht1 st1 s1 v rv r1 hv _ hp1 _ _ fun st2 s2 r2 ev2 hp2 => ?_) h3 h2
  exact ht2 st2 s2 v rv r2 (hv.mono (r1.tk ev2)) _ hp2 _ _ fun st3 s3 r3 ev3 hp3 => h .next _ _ _ r3 ((ev1.trans ev2).trans ev3) rfl hp3

theorem w_unpack {st : St} {s : Shared} {vs : List V} {rv : Value} {n : Nat} {Q : List Value → Shared → Prop} {E : Value → Shared → Prop} (hA : A.handled = none) (r : R X F st s) (hv : VR s.heap (.tup vs) rv) (hn : n = vs.length)
    (h : ∀ rvs s', R X F st s' → Ev F.pv F.fr st.hp s st.hp s' → VRs s'.heap vs rvs → Q rvs s') : wpAny (MM X) A (unpackItems rv n none) Q E s := by
  obtain ⟨ad, rvs, m, rfl, ht, hvs⟩ := hv.unTup
  have e : n = rvs.toArray.size := by rw [hn, List.size_toArray, hvs.length]
  rw [e]
  refine wpAny_unpackItems_tuple hA (IsT.isTuple ht) fun h' hx' => ?_
  have kk : ∀ b o, s.heap.get? b = some o → h'.get? b = some o := fun b o e => hx' b o (Nat.ne_of_lt (Heap.lt_size e)) e
  have ev : Ev [] [] st.hp s st.hp { s with heap := h' } := .keeps kk ⟨h', s.toks, rfl⟩
  have r' : R X F st { s with heap := h' } := r.ev ev (r.H.keeps kk)
  exact h _ _ r' ev.weaken (hvs.mono fun b i n t => kk b _ t)

theorem ss_swap2 {ts : List Expr} {k : Nat} {tpos pos : Pos} {value : Expr} {W : WE} {i j : Nat} {x y : Str} (hA : A.handled = none) (he : SE X A F value W) (hx : StOk F i x) (hy : StOk F j y)
    (h1 : swapsWithSole [.Tuple ts k tpos] value pos.line F.env = pure false) (h2 : swappedStores [.Tuple ts k tpos] value F.env = pure (some [x, y])) :
    SS X A F (.Assign [.Tuple ts k tpos] value pos) (fun st P => W st fun v st1 => ∃ a b, v = .tup [a, b] ∧ P .next ((st1.setL j b).setL i a)) := by
  intro st s r P hP Q E h
  refine Assign_Tuple_swapped (names := [x, y]) (he st s r _ hP _ _ fun v st1 rv s1 r1 ev1 hv hp1 => ?_) h1 h2
  obtain ⟨a, b, rfl, hp1⟩ := hp1
  refine w_unpack hA r1 hv rfl fun rvs s2 r2 ev2 hvs => ?_
  simp only [VRs] at hvs
  obtain ⟨ra, _, rfl, ha, rb, _, rfl, hb, rfl⟩ := hvs
  show wpAny _ _ (assignInOrder [(bindName F.env y), (bindName F.env x)] [rb, ra]) _ _ _
  refine wpAny_assignInOrder_more (wpAny_bindName (w_store hy r2 hb fun s3 r3 ev3 => wpAny_assignInOrder_more (wpAny_bindName (w_store hx r3 (ha.mono (r2.tk ev3)) fun s4 r4 ev4 => ?_))))
  exact wpAny_assignInOrder_none (h .next _ _ _ r4 (((ev1.trans ev2).trans ev3).trans ev4) rfl hp1)
noncomputable def iopW : Operator → V → V → Hp → (V → Hp → Prop) → Prop
  | .Add, .int a, .int b, hp, P => P (.int (a + b)) hp
  | .Sub, .int a, .int b, hp, P => P (.int (a - b)) hp
  | .Add, .ref a, .ref b, hp, P => ∃ xs ys, hp a = some (.list xs) ∧ hp b = some (.list ys) ∧ xs.length + ys.length < 1000000 ∧ P (.ref a) (hp.set a (.list (xs ++ ys)))
  | _, _, _, _, _ => False
theorem w_iaddList {s : Shared} {l b : Addr} {items items2 : Array Value} {n n2 : Nat} {Q : Value → Shared → Prop} {E : Value → Shared → Prop} (hl : IsL s.heap l items n) (hb : IsL s.heap b items2 n2) (hz : items.size + items2.size < 1000000)
    (h : Q (.ref l) { s with heap := s.heap.update l (Obj.mapSeq fun x => x ++ items2) }) : wpAny (MM X) A (inplaceOp .Add (.ref l) (.ref b)) Q E s := by
  have sl := sizeLine_ge
  have ha : s.TypeIs (.ref l) "list" := ⟨_, hl, rfl⟩
  have hb' : s.TypeIs (.ref b) "list" := ⟨_, hb, rfl⟩
  have hfi : fillsInplaceSlot (.type "list") "add" (Operator.Add == .Add) = pure false := by
    unfold fillsInplaceSlot
    show (typeLookup (.type "list") (dunderI "add") >>= fun fi => pure (fi.isSome && !isSeqSlot fi)) = pure false
    rw [PySem.F.slot_list_iadd.lookup]; rfl
  have hsi : seqSlot? (.type "list") (dunderI "add") = pure (some (.builtin "list.__iadd__")) := by
    unfold seqSlot?
    rw [PySem.F.slot_list_iadd.lookup]; rfl
  unfold inplaceOp
  refine wpAny_holding ?_
  refine wpAny_bind (wpAny_typeOf ha (wpAny_bind (wpAny_of_eq hfi ?_)))
  show wpAny _ A (if false = true then _ else _) Q E s
  rw [if_neg Bool.false_ne_true]
  refine wpAny_bind (wpAny_binaryOp1_none (nm := "add") ha hb' noFill_list_add ?_)
  refine wpAny_bind (wpAny_of_eq hsi ?_)
  refine wpAny_bind (wpAny_rule ?_)
  refine call_meets PySem.F.slot_list_iadd ha PySem.F.entry_list_iadd (PySem.F.args_list_iadd_2 _ _) (AutoSeq1.list___iadd___list_list_0 l items n b items2 n2 ?_ (by omega) (by omega)) ⟨hl, hb, h⟩
  intro hc
  rw [Bool.and_eq_true] at hc
  have := hc.2
  unfold Builtin.List.listTooLong at this
  simp at this
  omega
theorem so_iop {op : Operator} {a b : V} {ra rb : Value} {hp : Hp} {s : Shared} (H : RH X hp s) (ha : VR s.heap a ra) (hb : VR s.heap b rb) : SO X A (inplaceOp op ra rb) hp s (iopW op a b hp) := by
  intro P hP Q E h
  unfold iopW at hP
  split at hP
  · obtain ⟨t, rfl⟩ := ha.unInt
    obtain ⟨u, rfl⟩ := hb.unInt
    exact iadd_int (h _ _ _ _ (H.toks _) (.toks _) (.mkInt _ _ _) hP)
  · obtain ⟨t, rfl⟩ := ha.unInt
    obtain ⟨u, rfl⟩ := hb.unInt
    exact PySem.P.isub_int (h _ _ _ _ (H.toks _) (.toks _) (.mkInt _ _ _) hP)
  · obtain ⟨xs, ys, e1, e2, hz, hP⟩ := hP
    have := ha.unRef; subst this
    have := hb.unRef; subst this
    obtain ⟨vs, ⟨n, hl⟩, hvs⟩ := H.own _ _ e1
    obtain ⟨us, ⟨n2, hl2⟩, hus⟩ := H.own _ _ e2
    have l1 := hvs.length
    have l2 := hus.length
    refine w_iaddList hl hl2 (by rw [List.size_toArray, List.size_toArray]; omega) ?_

    rename_i al bl
    have sb := Heap.SameBut.update s.heap al (Obj.mapSeq fun x => x ++ us.toArray)
    have ge := PySem.IsL.update (n := n) hl (fun x => x ++ us.toArray)
    have e9 : vs.toArray ++ us.toArray = (vs ++ us).toArray := by simp
    rw [e9] at ge
    exact h (.ref al) (hp.set al (.list (xs ++ ys))) _ _ (H.write (t := s.toks) (o' := .list (xs ++ ys)) e1 sb fun tk => ⟨vs ++ us, ⟨_, ge⟩, (hvs.append hus).mono tk⟩) (.write (t := s.toks) e1 sb ⟨_, ge⟩) (.mkRef _ _) hP
  · exact hP.elim
theorem ss_aug {i : Nat} {x : Str} {npos pos : Pos} {op : Operator} {value : Expr} {W : WE} (hl : LdOk F i x) (hs : StOk F i x) (he : SE X A F value W) :
    SS X A F (.AugAssign (.Name x npos) op value pos) (fun st P => ∃ a, st.lo i = some a ∧ W st fun b st1 => iopW op a b st1.hp fun v hp => P .next (St.setL ⟨st1.lo, hp⟩ i v)) := by
  rintro st s r P ⟨a, ha, hP⟩ Q E h
  refine wpAny_AugAssign_Name (w_load hl r ha fun ra hra => he st s r _ hP _ _ fun b st1 rb s1 r1 ev1 hv hp1 => ?_)
  refine r1.so (so_iop r1.H (hra.mono (r.tk ev1)) hv) (P := fun v st2 => P .next (st2.setL i v)) hp1 fun v st2 rv s2 r2 ev2 hv2 hp2 => w_store hs r2 hv2 fun s3 r3 ev3 => ?_
  exact h .next _ _ _ r3 ((ev1.trans ev2).trans ev3) rfl hp2

noncomputable def SA (X : Cx) (A : Around) (F : Fx) (pos : Pos) (es : List Expr) (W : St → (List V → St → Prop) → Prop) : Prop := ∀ st s, R X F st s → ∀ P, W st P → ∀ (Q : List Value → Shared → Prop) (E : Value → Shared → Prop),
  (∀ vs st' rvs s', R X F st' s' → Ev F.pv F.fr st.hp s st'.hp s' → VRs s'.heap vs rvs → P vs st' → Q rvs s') → wpAny (MM X) A (spliced (backTo pos (starEach es F.env))) Q E s
theorem sa_nil {pos : Pos} : SA X A F pos [] (fun st P => P [] st) := by
  intro st s r P hP Q E h
  exact args_nil (h _ _ _ _ r .refl .nil hP)
theorem sa_cons {pos : Pos} {e : Expr} {es : List Expr} {W : WE} {Ws : St → (List V → St → Prop) → Prop} (h1 : SE X A F e W) (h2 : SA X A F pos es Ws) (he : starEach (e :: es) F.env = (false, eval e F.env) :: starEach es F.env) :
    SA X A F pos (e :: es) (fun st P => W st fun v st1 => Ws st1 fun vs st2 => P (v :: vs) st2) := by
  intro st s r P hP Q E h
  refine args_cons (h1 st s r _ hP _ _ fun v st1 rv s1 r1 ev1 hv1 hp1 => h2 st1 s1 r1 _ hp1 _ _ fun vs st2 rvs s2 r2 ev2 hv2 hp2 => ?_) he
  exact h _ _ _ _ r2 (ev1.trans ev2) (VRs.cons (hv1.mono (r1.tk ev2)) hv2) hp2
theorem se_list {pos : Pos} {es : List Expr} {Ws : St → (List V → St → Prop) → Prop} (h1 : SA X A F pos es Ws) :
    SE X A F (.List es pos) (fun st P => Ws st fun vs st1 => vs.length < 1000 ∧ ∀ c, st1.hp c = none → P (.ref c) (st1.setH c (.list vs))) := by
  intro st s r P hP Q E h
  refine List_ (h1 st s r _ hP _ _ fun vs st1 rvs s1 r1 ev1 hv1 hp1 => ?_)
  have sl := sizeLine_ge
  refine wpAny_newList ?_ (by have := hv1.length; omega)
  have e1 : Ev [] [] st1.hp s1 (st1.hp.set s1.heap.objs.size (.list vs)) { s1 with heap := s1.heap.push { cls := .type "list", data := .seq rvs.toArray } } := .alloc _ _
  refine h _ (st1.setH s1.heap.objs.size (.list vs)) _ _ (r1.ev e1 (r1.H.alloc _ _ ⟨rvs, ⟨_, Heap.get?_push_size _ rfl⟩, hv1.mono fun b i n t => t.push _⟩)) (ev1.trans e1.weaken) (.mkRef _ _) (hp1.2 _ r1.H.sizeFree)
theorem se_tuple {pos : Pos} {k : Nat} {es : List Expr} {Ws : St → (List V → St → Prop) → Prop} (h1 : SA X A F pos es Ws) :
    SE X A F (.Tuple es k pos) (fun st P => Ws st fun vs st1 => vs.length < 1000 ∧ P (.tup vs) st1) := by
  intro st s r P hP Q E h
  refine Tuple_ (h1 st s r _ hP _ _ fun vs st1 rvs s1 r1 ev1 hv1 hp1 => ?_)
  have sl := sizeLine_ge
  refine wpAny_newTuple ?_ (by have := hv1.length; omega)
  have e1 : Ev [] [] st1.hp s1 st1.hp { s1 with heap := s1.heap.push { cls := .type "tuple", data := .seq rvs.toArray } } := .push _
  exact h _ _ _ _ (r1.ev e1 (r1.H.push _)) (ev1.trans e1.weaken) (.mkTup (Heap.get?_push_size _ rfl) (hv1.mono fun b i n t => t.push _)) hp1.2

theorem ss_expr {e : Expr} {pos : Pos} {W : WE} (he : SE X A F e W) (hi : interactive F.env = false) (hs : swapsWith e none pos.line F.env = pure false) : SS X A F (.Expr e pos) (fun st P => W st fun _ st1 => P .next st1) := by
  intro st s r P hP Q E h
  exact wpAny_Expr_any (he st s r _ hP _ _ fun v st1 rv s1 r1 ev1 hv hp1 => h .next _ _ _ r1 ev1 rfl hp1) hi hs
theorem se_walrus {t value : Expr} {pos : Pos} {W : WE} {Wt : WT} (he : SE X A F value W) (ht : ST X A F t Wt) : SE X A F (.NamedExpr t value pos) (fun st P => W st fun v st1 => Wt v st1 fun st2 => P v st2) := by
  intro st s r P hP Q E h
  refine wpAny_NamedExpr (he st s r _ hP _ _ fun v st1 rv s1 r1 ev1 hv hp1 => ht st1 s1 v rv r1 hv _ hp1 _ _ fun st2 s2 r2 ev2 hp2 => ?_)
  exact h _ _ _ _ r2 (ev1.trans ev2) (hv.mono (r1.tk ev2)) hp2

theorem se_call {x : Str} {p pos : Pos} {f : Addr} {d : Nat} {e : Expr} {es : List Expr} {W : List V → WH} {Ws : St → (List V → St → Prop) → Prop} (hA : AOk A d) (hF : AFr A F.fr) (hf : SF X f d W) (hfn : ∃ o fd, X.h₀.get? f = some o ∧ o.data = .func fd)
    (hn : SE X A F (.Name x p) (fun st P => P (.con (.ref f)) st)) (ha : SA X A F pos (e :: es) Ws) (he : starEach (e :: es) F.env = (false, eval e F.env) :: starEach es F.env) :
    SE X A F (.Call (.Name x p) (e :: es) [] pos) (fun st P => Ws st fun vs st1 => W vs st1.hp fun v hp => P v ⟨st1.lo, hp⟩) := by
  intro st s r P hP Q E h
  refine Call_ (hn st s r (fun v st1 => v = .con (.ref f) ∧ st1 = st) ⟨rfl, rfl⟩ _ _ fun v st0 rv s0 r0 ev0 hv0 hp0 => ?_)
  obtain ⟨rfl, rfl⟩ := hp0
  have := hv0.unCon
  subst this
  obtain ⟨o, fd, ho, hd⟩ := hfn
  refine callWith_def hd (ha st0 s0 r0 _ hP _ _ fun vs st1 rvs s1 r1 ev1 hv1 hp1 => ⟨r1.H.base _ _ ho, ?_⟩) he
  exact hf.call hA hF r1.H r1.fr hv1 hp1 fun v hp' rv s' H' ev' hv' hp => h v ⟨st1.lo, hp'⟩ rv s' (r1.evF ev' H') ((ev0.trans ev1).trans ev'.wpv) hv' hp

end
end Mine
end

noncomputable section
open PySem PySem.W PyProof.Rows
namespace Mine

theorem VRs.split {h : Heap} : ∀ {xs ys : List V} {vs : List Value}, VRs h (xs ++ ys) vs → ∃ us ws, vs = us ++ ws ∧ VRs h xs us ∧ VRs h ys ws
  | [], _, vs, e => ⟨[], vs, rfl, .nil, e⟩
  | x :: xs, ys, vs, e => by
    simp only [List.cons_append, VRs] at e
    obtain ⟨v, r, rfl, e1, e2⟩ := e
    obtain ⟨us, ws, rfl, f1, f2⟩ := VRs.split e2
    exact ⟨v :: us, ws, rfl, VRs.cons e1 f1, f2⟩

structure MForm (F : Fx) (o : Expr) (name : Str) (apos pos : Pos) (args : List Expr) (trees : List (Bool × Sem Value)) : Prop where
  base : attributeBase o name F.env (eval o F.env) = eval o F.env
  few : ((backTo pos (starEach args F.env)).all (fun x => !x.1) && (backToKw pos (keywordEach [] F.env)).all (fun x => x.1.isSome) && decide (args.length + ([] : List Keyword).length + (if ([] : List Keyword).isEmpty then 0 else 1) < 30)) = true
  line : (apos.endLine == pos.line) = true
  trees : backTo pos (starEach args F.env) = trees

section
variable {X : Cx} {A : Around} {F : Fx}

theorem listMeth {hp : Hp} {s : Shared} {a : Addr} {xs : List V} (H : RH X hp s) (e : hp a = some (.list xs)) : s.TypeIs (.ref a) "list" ∧ ∀ b, Value.ref a = .ref b → ∃ ob, s.heap.get? b = some ob ∧ ob.dict = none := by
  obtain ⟨vs, ⟨n, hl⟩, _⟩ := H.own _ _ e
  exact ⟨⟨_, hl, rfl⟩, fun b q => by cases q; exact ⟨_, hl, rfl⟩⟩
theorem dictMeth {hp : Hp} {s : Shared} {a : Addr} {kvs : List (Int × V)} {ep : Nat} (H : RH X hp s) (e : hp a = some (.dict kvs ep)) : s.TypeIs (.ref a) "dict" ∧ ∀ b, Value.ref a = .ref b → ∃ ob, s.heap.get? b = some ob ∧ ob.dict = none := by
  obtain ⟨rk, hd, _, _⟩ := H.own _ _ e
  exact ⟨hd.dictOf.typeIs, hd.dictOf.mapOf.noDict⟩

theorem se_append {o e : Expr} {apos pos : Pos} {W1 W2 : WE} (h1 : SE X A F o W1) (h2 : SE X A F e W2) (hf : MForm F o "append" apos pos [e] [(false, eval e F.env)]) :
    SE X A F (.Call (.Attribute o "append" apos) [e] [] pos) (fun st P => W1 st fun ov st1 => ∃ a, ov = .ref a ∧ (∃ ys, st1.hp a = some (.list ys)) ∧ W2 st1 fun v st2 => ∃ xs, st2.hp a = some (.list xs) ∧ xs.length < 1000000 ∧ P .none (st2.setH a (.list (xs ++ [v])))) := by
  intro st s r0 P hP Q E h
  refine wpAny_Call_method_late hf.base hf.few hf.line hf.trees (h1 st s r0 _ hP _ _ fun ov st1 ro s1 r1 ev1 hv1 hp1 => ?_)
  obtain ⟨a, rfl, ⟨ys, hy⟩, hp1⟩ := hp1
  have := hv1.unRef; subst this
  obtain ⟨hT, hd⟩ := listMeth r1.H hy
  refine ⟨"list", "list.append", PySem.F.plainAttrs_list, PySem.F.slot_list_append, PySem.F.type_list_append, hT, hd, PySem.P.append_list (h2 st1 s1 r1 _ hp1 _ _ fun v st2 rv s2 r2 ev2 hv2 hp2 => ?_)⟩
  obtain ⟨xs, hx, hl, hp2⟩ := hp2
  obtain ⟨vs, ⟨n, hl'⟩, hvs⟩ := r2.H.own _ _ hx
  have sl := sizeLine_ge
  have hlen := hvs.length
  refine ⟨vs.toArray, n, by rw [List.size_toArray]; omega, hl', ?_⟩
  have sb := Heap.SameBut.update s2.heap a (Obj.mapSeq fun xs => xs.push rv)
  have ge := PySem.IsL.update (n := n) hl' (fun xs => xs.push rv)
  have e2 : vs.toArray.push rv = (vs ++ [rv]).toArray := by simp
  have pl : Heap.PlainList (s2.heap.update a (Obj.mapSeq fun xs => xs.push rv)) a (vs ++ [rv]).toArray := by rw [← e2]; exact ⟨_, ge⟩
  have e3 : Ev [] [] st2.hp s2 (st2.hp.set a (.list (xs ++ [v]))) { s2 with heap := s2.heap.update a (Obj.mapSeq fun xs => xs.push rv) } := .write (t := s2.toks) hx sb ⟨_, ge⟩
  exact h .none (st2.setH a _) _ _ (r2.ev e3 (r2.H.write (t := s2.toks) hx sb fun tk => ⟨_, pl, (hvs.append (VRs.one hv2)).mono tk⟩)) ((ev1.trans ev2).trans e3.weaken) (.mkNone _) hp2

theorem se_pop {o : Expr} {apos pos : Pos} {W1 : WE} (h1 : SE X A F o W1) (hf : MForm F o "pop" apos pos [] []) :
    SE X A F (.Call (.Attribute o "pop" apos) [] [] pos) (fun st P => W1 st fun ov st1 => ∃ a xs v, ov = .ref a ∧ st1.hp a = some (.list (xs ++ [v])) ∧ xs.length < 1000000 - 1 ∧ P v (st1.setH a (.list xs))) := by
  intro st s r0 P hP Q E h
  refine wpAny_Call_method_late hf.base hf.few hf.line hf.trees (h1 st s r0 _ hP _ _ fun ov st1 ro s1 r1 ev1 hv1 hp1 => ?_)
  obtain ⟨a, xs, v, rfl, hx, hz, hp1⟩ := hp1
  have := hv1.unRef; subst this
  obtain ⟨hT, hd⟩ := listMeth r1.H hx
  obtain ⟨vs, ⟨n, hl'⟩, hvs⟩ := r1.H.own _ _ hx
  obtain ⟨us, ws, rfl, q1, q2⟩ := hvs.split
  simp only [VRs] at q2
  obtain ⟨rv, _, rfl, q2, rfl⟩ := q2
  have sl := sizeLine_ge
  have hlen := q1.length
  have hsz : (us ++ [rv]).toArray.size = us.length + 1 := by simp
  refine ⟨"list", "list.pop", PySem.F.plainAttrs_list, PySem.F.slot_list_pop, PySem.F.type_list_pop, hT, hd, PySem.P.pop_list (n := n) (y := rv) hl' (by simp) ?_ (by rw [hsz]; omega)⟩
  have sb := Heap.SameBut.update s1.heap a (Obj.mapSeq fun xs => xs.eraseIdxIfInBounds ((us ++ [rv]).toArray.size - 1))
  have ge := PySem.IsL.update (n := n) hl' (fun xs => xs.eraseIdxIfInBounds ((us ++ [rv]).toArray.size - 1))
  have e2 : (us ++ [rv]).toArray.eraseIdxIfInBounds ((us ++ [rv]).toArray.size - 1) = us.toArray := by
    rw [hsz, List.eraseIdxIfInBounds_toArray, Nat.add_sub_cancel, List.eraseIdx_append_of_length_le (Nat.le_refl _)]; simp
  have pl : Heap.PlainList (s1.heap.update a (Obj.mapSeq fun xs => xs.eraseIdxIfInBounds ((us ++ [rv]).toArray.size - 1))) a us.toArray := by rw [← e2]; exact ⟨_, ge⟩
  have e3 : Ev [] [] st1.hp s1 (st1.hp.set a (.list xs)) { s1 with heap := s1.heap.update a (Obj.mapSeq fun xs => xs.eraseIdxIfInBounds ((us ++ [rv]).toArray.size - 1)) } := .write (t := s1.toks) hx sb ⟨_, ge⟩
  have r2 := r1.ev e3 (r1.H.write (t := s1.toks) hx sb fun tk => ⟨_, pl, q1.mono tk⟩)
  exact h v (st1.setH a _) _ _ r2 (ev1.trans e3.weaken) (q2.mono (e3.tk0 r1.H)) hp1

theorem se_clear {o : Expr} {apos pos : Pos} {W1 : WE} (h1 : SE X A F o W1) (hf : MForm F o "clear" apos pos [] []) :
    SE X A F (.Call (.Attribute o "clear" apos) [] [] pos) (fun st P => W1 st fun ov st1 => ∃ a xs, ov = .ref a ∧ st1.hp a = some (.list xs) ∧ xs.length < 1000000 ∧ P .none (st1.setH a (.list []))) := by
  intro st s r0 P hP Q E h
  refine wpAny_Call_method_late hf.base hf.few hf.line hf.trees (h1 st s r0 _ hP _ _ fun ov st1 ro s1 r1 ev1 hv1 hp1 => ?_)
  obtain ⟨a, xs, rfl, hx, hz, hp1⟩ := hp1
  have := hv1.unRef; subst this
  obtain ⟨hT, hd⟩ := listMeth r1.H hx
  obtain ⟨vs, ⟨n, hl'⟩, hvs⟩ := r1.H.own _ _ hx
  have sl := sizeLine_ge
  have hlen := hvs.length
  refine ⟨"list", "list.clear", PySem.F.plainAttrs_list, PySem.F.slot_list_clear, PySem.F.type_list_clear, hT, hd, PySem.P.clear_list (n := n) hl' ?_ (by rw [List.size_toArray]; omega)⟩
  have sb := Heap.SameBut.update s1.heap a (Obj.mapSeq fun _ => #[])
  have ge := PySem.IsL.update (n := n) hl' (fun _ => #[])
  have pl : Heap.PlainList (s1.heap.update a (Obj.mapSeq fun _ => #[])) a ([] : List Value).toArray := ⟨_, ge⟩
  have e3 : Ev [] [] st1.hp s1 (st1.hp.set a (.list [])) { s1 with heap := s1.heap.update a (Obj.mapSeq fun _ => #[]) } := .write (t := s1.toks) hx sb ⟨_, ge⟩
  exact h .none (st1.setH a _) _ _ (r1.ev e3 (r1.H.write (t := s1.toks) hx sb fun tk => ⟨[], pl, .nil⟩)) (ev1.trans e3.weaken) (.mkNone _) hp1

theorem Ints.count {vs : List Value} {is : List Int} (h : Ints vs is) (k : Int) : (vs.countP fun v => match v with | .int i _ => i == k | _ => false) = is.count k := by
  induction h with
  | nil => rfl
  | @cons i t vs is _ ih => rw [List.countP_cons, ih, List.count_cons]
theorem se_count {o e : Expr} {apos pos : Pos} {W1 W2 : WE} (h1 : SE X A F o W1) (h2 : SE X A F e W2) (hf : MForm F o "count" apos pos [e] [(false, eval e F.env)]) :
    SE X A F (.Call (.Attribute o "count" apos) [e] [] pos) (fun st P => W1 st fun ov st1 => ∃ a, ov = .ref a ∧ (∃ ys, st1.hp a = some (.list ys)) ∧ W2 st1 fun v st2 => ∃ (is : List Int) (k : Int), st2.hp a = some (.list (is.map .int)) ∧ v = .int k ∧ P (.int (is.count k)) st2) := by
  intro st s r0 P hP Q E h
  refine wpAny_Call_method_late hf.base hf.few hf.line hf.trees (h1 st s r0 _ hP _ _ fun ov st1 ro s1 r1 ev1 hv1 hp1 => ?_)
  obtain ⟨a, rfl, ⟨ys, hy⟩, hp1⟩ := hp1
  have := hv1.unRef; subst this
  obtain ⟨hT, hd⟩ := listMeth r1.H hy
  refine ⟨"list", "list.count", PySem.F.plainAttrs_list, PySem.F.slot_list_count, PySem.F.type_list_count, hT, hd, PySem.P.count_list (h2 st1 s1 r1 _ hp1 _ _ fun v st2 rv s2 r2 ev2 hv2 hp2 => ?_)⟩
  obtain ⟨is, k, hx, rfl, hp2⟩ := hp2
  obtain ⟨vs, ⟨n, hl'⟩, hvs⟩ := r2.H.own _ _ hx
  obtain ⟨t, rfl⟩ := hv2.unInt
  have hi := hvs.ints
  refine ⟨vs.toArray, n, fun v => match v with | .int i _ => i == k | _ => false, hl', fun y hy => ?_, ?_⟩
  · obtain ⟨i, t', rfl⟩ := hi.mem (v := y) (by simpa using hy)
    exact MeetsSeq.EqGives.int _ _ _ _
  · rw [hi.count k]
    exact h _ _ _ _ (r2.toks _) ((ev1.trans ev2).trans (.toks _)) (.mkInt _ _ _) hp2

theorem se_dget {o e : Expr} {apos pos : Pos} {W1 W2 : WE} (C : COk X) (h1 : SE X A F o W1) (h2 : SE X A F e W2) (hf : MForm F o "get" apos pos [e] [(false, eval e F.env)]) :
    SE X A F (.Call (.Attribute o "get" apos) [e] [] pos) (fun st P => W1 st fun ov st1 => ∃ a, ov = .ref a ∧ (∃ ys ep, st1.hp a = some (.dict ys ep)) ∧ W2 st1 fun v st2 => ∃ kvs ep k, st2.hp a = some (.dict kvs ep) ∧ v = .int k ∧ P ((kvs.lookup k).getD .none) st2) := by
  intro st s r0 P hP Q E h
  refine wpAny_Call_method_late hf.base hf.few hf.line hf.trees (h1 st s r0 _ hP _ _ fun ov st1 ro s1 r1 ev1 hv1 hp1 => ?_)
  obtain ⟨a, rfl, ⟨ys, ep0, hy⟩, hp1⟩ := hp1
  have := hv1.unRef; subst this
  obtain ⟨hT, hd⟩ := dictMeth r1.H hy
  refine ⟨"dict", "dict.get", PySem.F.plainAttrs_dict, PySem.F.slot_dict_get, PySem.F.type_dict_get, hT, hd, wpAny_dict_get1 (knd := intKind X.prog X.w) (r1.H.notMods C hy) (h2 st1 s1 r1 _ hp1 _ _ fun v st2 rv s2 r2 ev2 hv2 hp2 => ?_)⟩
  obtain ⟨kvs, ep, k, hx, rfl, hp2⟩ := hp2
  obtain ⟨rk, p1, k1, q1⟩ := r2.H.own _ _ hx
  obtain ⟨t, rfl⟩ := hv2.unInt
  refine ⟨k, valueAt rk, by simp [intKind, Value.isInt], p1.dictOf.mapOf, ?_⟩
  cases hl : kvs.lookup k with
  | none =>
    rw [hl] at hp2
    rw [lookup_none (h := s2.heap) k1 hl]
    exact h _ _ _ _ (r2.toks _) ((ev1.trans ev2).trans (.toks _)) (.mkNone _) hp2
  | some v =>
    rw [hl] at hp2
    obtain ⟨rv, e1, e2⟩ := lookup_rel k1 q1 hl
    rw [e1]
    exact h _ _ _ _ (r2.toks _) ((ev1.trans ev2).trans (.toks _)) e2 hp2

theorem se_sadd {o e : Expr} {apos pos : Pos} {W1 W2 : WE} (h1 : SE X A F o W1) (h2 : SE X A F e W2) (hf : MForm F o "add" apos pos [e] [(false, eval e F.env)]) :
    SE X A F (.Call (.Attribute o "add" apos) [e] [] pos) (fun st P => W1 st fun ov st1 => ∃ a, ov = .ref a ∧ (∃ ys, st1.hp a = some (.set ys)) ∧ W2 st1 fun v st2 => ∃ ks k, st2.hp a = some (.set ks) ∧ v = .int k ∧ ks.length < 4000 ∧ P .none (st2.setH a (.set (if ks.contains k then ks else k :: ks)))) := by
  intro st s r0 P hP Q E h
  refine wpAny_Call_method_late hf.base hf.few hf.line hf.trees (h1 st s r0 _ hP _ _ fun ov st1 ro s1 r1 ev1 hv1 hp1 => ?_)
  obtain ⟨a, rfl, ⟨ys, hy⟩, hp1⟩ := hp1
  have := hv1.unRef; subst this
  have hS := r1.H.own _ _ hy
  refine ⟨"set", "set.add", PySem.F.plainAttrs_set, PySem.F.slot_set_add, PySem.F.type_set_add, hS.typeIs, hS.noDict, ?_⟩
  refine Calls.callWith_builtin rfl (Calls.evalArgs_plain (Calls.spliced_cons (h2 st1 s1 r1 _ hp1 _ _ fun v st2 rv s2 r2 ev2 hv2 hp2 => Calls.spliced_nil ?_)))
  obtain ⟨ks, k, hx, rfl, hz, hp2⟩ := hp2
  obtain ⟨t, rfl⟩ := hv2.unInt
  have hS2 := r2.H.own _ _ hx
  refine call_set_add (knd := intKind X.prog X.w) (k := k) (by simp [intKind, Value.isInt]) rfl hS2 (by unfold scanBound; omega) fun h' sb hS' => ?_
  have al : ∃ ob, h'.get? a = some ob := let ⟨o, _, _, _, e, _⟩ := hS'; ⟨o, e⟩
  have e3 : Ev [] [] st2.hp s2 (st2.hp.set a (.set (if ks.contains k then ks else k :: ks))) { s2 with heap := h', toks := s2.toks + 1 } := .write (t := s2.toks + 1) hx sb al
  refine h .none (st2.setH a _) _ _ (r2.ev e3 (r2.H.write (t := s2.toks + 1) hx sb fun tk => ?_)) ((ev1.trans ev2).trans e3.weaken) (.mkNone _) hp2
  show h'.SetOf _ a _ _
  cases hc : ks.contains k with
  | true =>
    simp only [hc, if_true] at hS' ⊢
    have : (fun k' => ks.contains k' || decide (k' = k)) = fun k' => ks.contains k' := by
      funext k'
      by_cases e : k' = k
      · subst e; rw [hc]; simp
      · simp [e]
    rw [this] at hS'; exact hS'
  | false =>
    simp only [hc, Bool.false_eq_true, if_false] at hS' ⊢
    have : (fun k' => ks.contains k' || decide (k' = k)) = fun k' => (k :: ks).contains k' := by
      funext k'
      rw [List.contains_cons, Bool.or_comm]
      congr 1
    rw [this] at hS'; exact hS'

end
end Mine
end

noncomputable section
open PySem PySem.W PyProof.Rows
namespace Mine

theorem Ints.are {vs : List Value} {is : List Int} (h : Ints vs is) : IntsAre vs is := by
  induction h with
  | nil => exact .nil
  | cons _ ih => exact .cons _ _ ih

section
variable {X : Cx} {A : Around} {F : Fx}

theorem se_blt1 {x : Str} {id : String} {p pos : Pos} {e : Expr} {W : WE} {w : V → WH} (hn : SE X A F (.Name x p) (fun st P => P (.con (.builtin id)) st)) (h1 : SE X A F e W)
    (hs : starEach [e] F.env = (false, eval e F.env) :: starEach [] F.env) (hw : ∀ hp s v rv, RH X hp s → VR s.heap v rv → SO X A (call (.builtin id) [rv]) hp s (w v hp)) :
    SE X A F (.Call (.Name x p) [e] [] pos) (fun st P => W st fun v st1 => w v st1.hp fun r hp => P r ⟨st1.lo, hp⟩) := by
  intro st s r P hP Q E h
  refine Call_ (hn st s r (fun v st1 => v = .con (.builtin id) ∧ st1 = st) ⟨rfl, rfl⟩ _ _ fun v st0 rv s0 r0 ev0 hv0 hp0 => ?_)
  obtain ⟨rfl, rfl⟩ := hp0
  have := hv0.unCon
  subst this
  refine callWith_builtin1 (args_cons (h1 st0 s0 r0 _ hP _ _ fun v st1 rv s1 r1 ev1 hv1 hp1 => args_nil ?_) hs) hs
  exact r1.so (hw _ _ _ _ r1.H hv1) hp1 fun v st2 rv s2 r2 ev2 hv2 hp2 => h v st2 rv s2 r2 ((ev0.trans ev1).trans ev2) hv2 hp2
theorem se_type1 {x : Str} {id : String} {p pos : Pos} {e : Expr} {W : WE} {w : V → WH} (hn : SE X A F (.Name x p) (fun st P => P (.con (.type id)) st)) (h1 : SE X A F e W)
    (hs : starEach [e] F.env = (false, eval e F.env) :: starEach [] F.env) (hw : ∀ hp s v rv, RH X hp s → VR s.heap v rv → SO X A (call (.type id) [rv]) hp s (w v hp)) :
    SE X A F (.Call (.Name x p) [e] [] pos) (fun st P => W st fun v st1 => w v st1.hp fun r hp => P r ⟨st1.lo, hp⟩) := by
  intro st s r P hP Q E h
  refine Call_ (hn st s r (fun v st1 => v = .con (.type id) ∧ st1 = st) ⟨rfl, rfl⟩ _ _ fun v st0 rv s0 r0 ev0 hv0 hp0 => ?_)
  obtain ⟨rfl, rfl⟩ := hp0
  have := hv0.unCon
  subst this
  refine PyProof.Rows.callWith_type1 (args_cons (h1 st0 s0 r0 _ hP _ _ fun v st1 rv s1 r1 ev1 hv1 hp1 => args_nil ?_) hs) hs
  exact r1.so (hw _ _ _ _ r1.H hv1) hp1 fun v st2 rv s2 r2 ev2 hv2 hp2 => h v st2 rv s2 r2 ((ev0.trans ev1).trans ev2) hv2 hp2
theorem se_type0 {x : Str} {id : String} {p pos : Pos} {w : WH} (hn : SE X A F (.Name x p) (fun st P => P (.con (.type id)) st))
    (hw : ∀ hp s, RH X hp s → SO X A (call (.type id) []) hp s (w hp)) : SE X A F (.Call (.Name x p) [] [] pos) (fun st P => w st.hp fun r hp => P r ⟨st.lo, hp⟩) := by
  intro st s r P hP Q E h
  refine Call_ (hn st s r (fun v st1 => v = .con (.type id) ∧ st1 = st) ⟨rfl, rfl⟩ _ _ fun v st0 rv s0 r0 ev0 hv0 hp0 => ?_)
  obtain ⟨rfl, rfl⟩ := hp0
  have := hv0.unCon
  subst this
  exact PyProof.Rows.callWith_type0 (r0.so (hw _ _ r0.H) hP fun v st2 rv s2 r2 ev2 hv2 hp2 => h v st2 rv s2 r2 (ev0.trans ev2) hv2 hp2)

inductive LenR (hp : Hp) : V → Nat → Prop
  | list {a : Addr} {xs : List V} : hp a = some (.list xs) → xs.length < 2 ^ 60 → LenR hp (.ref a) xs.length
  | tup {xs : List V} : xs.length < 2 ^ 60 → LenR hp (.tup xs) xs.length
noncomputable def lenW (v : V) : WH := fun hp P => ∃ n, LenR hp v n ∧ P (.int n) hp
theorem so_len {hp : Hp} {s : Shared} {v : V} {rv : Value} (H : RH X hp s) (hv : VR s.heap v rv) : SO X A (call (.builtin "len") [rv]) hp s (lenW v hp) := by
  rintro P ⟨n, hl, hP⟩ Q E h
  cases hl with
  | list e hz =>
    have := hv.unRef; subst this
    obtain ⟨vs, p1, q1⟩ := H.own _ _ e
    have hlen := q1.length
    refine PyProof.Rows.len_list p1.isList (by rw [List.size_toArray]; omega) ?_
    rw [List.size_toArray, hlen]
    exact h _ _ _ _ (H.toks _) (.toks _) (.mkInt _ _ _) hP
  | tup hz =>
    obtain ⟨a, vs, m, rfl, ht, q1⟩ := hv.unTup
    have hlen := q1.length
    refine PySem.P.len_tuple ht (by rw [List.size_toArray]; omega) ?_
    rw [List.size_toArray, hlen]
    exact h _ _ _ _ (H.toks _) (.toks _) (.mkInt _ _ _) hP

noncomputable def sumW (v : V) : WH := fun hp P => ∃ (a : Addr) (is : List Int), v = .ref a ∧ hp a = some (.list (is.map .int)) ∧ P (.int is.sum) hp
theorem so_sum {hp : Hp} {s : Shared} {v : V} {rv : Value} (hA : A.handled = none) (H : RH X hp s) (hv : VR s.heap v rv) : SO X A (call (.builtin "sum") [rv]) hp s (sumW v hp) := by
  rintro P ⟨a, is, rfl, e, hP⟩ Q E h
  have := hv.unRef; subst this
  obtain ⟨vs, p1, q1⟩ := H.own _ _ e
  have hi := q1.ints.are
  obtain ⟨xs, hxs⟩ := hi.allInts.items
  have hl : s.heap.IsList a (intItems xs) := by rw [← hxs]; exact p1.isList
  refine sum_intListG hA hl fun h' tk t' hk => ?_
  have e1 : preSum (numAt xs) xs.size = is.sum := by
    rw [preSum_eq, List.take_of_length_le (by simp), ← hi.numsOf]
    have : numsOf vs = numsOf (intItems xs).toList := by rw [← hxs]
    rw [this, nums_intItems]
  rw [e1]
  have ev : Ev [] [] hp s hp { s with heap := h', toks := tk } := .keeps hk ⟨h', tk, rfl⟩
  exact h _ _ _ _ (H.keeps hk) ev (.mkInt _ _ _) hP
noncomputable def intW (v : V) : WH := fun hp P => ∃ i, v = .int i ∧ P (.int i) hp
theorem so_int {hp : Hp} {s : Shared} {v : V} {rv : Value} (H : RH X hp s) (hv : VR s.heap v rv) : SO X A (call (.type "int") [rv]) hp s (intW v hp) := by
  rintro P ⟨i, rfl, hP⟩ Q E h
  obtain ⟨t, rfl⟩ := hv.unInt
  exact call_int_int (h _ _ _ _ H .refl (.mkInt _ _ _) hP)
noncomputable def tupleW (v : V) : WH := fun hp P => ∃ a xs, v = .ref a ∧ hp a = some (.list xs) ∧ xs.length < 1000000 ∧ P (.tup xs) hp
theorem so_tuple {hp : Hp} {s : Shared} {v : V} {rv : Value} (H : RH X hp s) (hv : VR s.heap v rv) : SO X A (call (.type "tuple") [rv]) hp s (tupleW v hp) := by
  rintro P ⟨a, xs, rfl, e, hz, hP⟩ Q E h
  have := hv.unRef; subst this
  obtain ⟨vs, p1, q1⟩ := H.own _ _ e
  have sl := sizeLine_ge
  have hlen := q1.length
  refine call_tuple_list p1.isList (fun h' hk => ?_) (by rw [List.size_toArray]; omega)
  have kk : ∀ b o, s.heap.get? b = some o → (h'.push { cls := .type "tuple", data := .seq vs.toArray }).get? b = some o := fun b o e => Heap.get?_push_of_some _ (hk b o e)
  have ev : Ev [] [] hp s hp { s with heap := h'.push { cls := .type "tuple", data := .seq vs.toArray } } := .keeps kk ⟨_, s.toks, rfl⟩
  exact h _ _ _ _ (H.keeps kk) ev (.mkTup (n := 0) (Heap.get?_push_size _ rfl) (q1.mono fun b i n t => kk b _ t)) hP
noncomputable def listW (v : V) : WH := fun hp P => ∃ a xs, v = .ref a ∧ hp a = some (.list xs) ∧ xs.length < 1000000 ∧ ∀ c, hp c = none → P (.ref c) (hp.set c (.list xs))
theorem so_list {hp : Hp} {s : Shared} {v : V} {rv : Value} (H : RH X hp s) (hv : VR s.heap v rv) : SO X A (call (.type "list") [rv]) hp s (listW v hp) := by
  rintro P ⟨a, xs, rfl, e, hz, hP⟩ Q E h
  have := hv.unRef; subst this
  obtain ⟨vs, ⟨n, p1⟩, q1⟩ := H.own _ _ e
  have sl := sizeLine_ge
  have hlen := q1.length
  refine call_list_seq a (.inl rfl) p1 rfl rfl (fun h' c' hk hg => ?_) (by rw [List.size_toArray]; omega)
  have H' : RH X hp { s with heap := h' } := H.keeps hk
  have H2 : RH X (hp.set s.heap.objs.size (.list xs)) { s with heap := h' } := by
    refine ⟨H'.base, fun b o e => ?_, fun b o e => ?_⟩
    · rw [Hp.set_ne _ _ (Nat.ne_of_lt (Heap.lt_size (H.base b o e)))]; exact H.bfree b o e
    · by_cases hb : b = s.heap.objs.size
      · subst hb; rw [Hp.set_self] at e; cases e; exact ⟨vs, ⟨c', hg⟩, q1.mono fun b i n t => hk b _ t⟩
      · rw [Hp.set_ne _ _ hb] at e; exact H'.own b o e
  have ev : Ev [] [] hp s (hp.set s.heap.objs.size (.list xs)) { s with heap := h' } :=
    ⟨fun b o e _ _ _ => hk b o e, fun b o e _ _ _ => ⟨o.slots, hk b o e⟩, fun b o e n => by rw [Hp.set_ne _ _ (Nat.ne_of_lt (Heap.lt_size e))]; exact n, fun b o e => ⟨o, hk b o e⟩, ⟨h', s.toks, rfl⟩⟩
  exact h _ _ _ _ H2 ev (.mkRef _ _) (hP _ H.sizeFree)
noncomputable def setW : WH := fun hp P => ∀ c, hp c = none → P (.ref c) (hp.set c (.set []))
theorem so_set {hp : Hp} {s : Shared} (H : RH X hp s) : SO X A (call (.type "set") []) hp s (setW hp) := by
  intro P hP Q E h
  refine call_set_0 fun led => ?_
  refine h _ _ _ _ (H.alloc _ (.set []) ?_) (.alloc _ _) (.mkRef _ _) (hP _ H.sizeFree)
  exact ⟨_, _, _, _, Heap.get?_push_size _ rfl, ⟨rfl, rfl, rfl⟩, rfl, fun e he => by simp at he, fun k => by simp, by decide, rfl, rfl⟩
theorem meets_bool_new_list {l : Addr} {items : Array Value} {n : Nat} (hfit : (items.size : Int) < 2 ^ 63) : Meets (Builtin.«bool.__new__» ⟨[.type "bool", .ref l], []⟩)
    (fun A R s => IsL s.heap l items n ∧ R (.ok (.ret (.bool (!items.isEmpty)))) { s with toks := s.toks + 1 + 1 }) :=
  Meets.of_wp fun prog w A R s hs => by
    obtain ⟨hl, hs⟩ := hs
    obtain ⟨hp, g, d, tk, os⟩ := s
    have f1 := F.conv_sub_bool
    have f2 : Heap.IsList hp l items := ⟨_, hl, rfl, n, rfl⟩
    repeat (any_goals (first | assumption | with_reducible apply wpAny_truthy_list | wp_step))
    all_goals first | exact ⟨_, rfl, hs⟩ | skip
noncomputable def boolW (v : V) : WH := fun hp P => ∃ a xs, v = .ref a ∧ hp a = some (.list xs) ∧ xs.length < 1000000 ∧ P (.bool (!xs.isEmpty)) hp
theorem so_bool {hp : Hp} {s : Shared} {v : V} {rv : Value} (H : RH X hp s) (hv : VR s.heap v rv) : SO X A (call (.type "bool") [rv]) hp s (boolW v hp) := by
  rintro P ⟨a, xs, rfl, e, hz, hP⟩ Q E h
  have := hv.unRef; subst this
  obtain ⟨vs, ⟨n, p1⟩, q1⟩ := H.own _ _ e
  have hlen := q1.length
  refine call_bool_1 (meets_bool_new_list (n := n) (items := vs.toArray) (by rw [List.size_toArray]; omega)) ⟨p1, rfl, ?_⟩
  have e : (!vs.toArray.isEmpty) = !xs.isEmpty := by
    cases xs with
    | nil => simp only [List.length_nil, List.length_eq_zero_iff] at hlen; subst hlen; rfl
    | cons x xs => cases vs with | nil => simp at hlen | cons v vs => rfl
  rw [e]
  exact h _ _ _ _ (H.toks _) (.toks _) (.mkBool _ _) hP
noncomputable def iterW (v : V) : WH := fun hp P => ∃ a xs, v = .ref a ∧ hp a = some (.list xs) ∧ ∀ c, hp c = none → P (.ref c) (hp.set c (.liter a 0))
theorem so_iter {hp : Hp} {s : Shared} {v : V} {rv : Value} (H : RH X hp s) (hv : VR s.heap v rv) : SO X A (call (.builtin "iter") [rv]) hp s (iterW v hp) := by
  rintro P ⟨a, xs, rfl, e, hP⟩ Q E h
  have := hv.unRef; subst this
  obtain ⟨vs, p1, q1⟩ := H.own _ _ e
  refine Calls.call_function_entry (by decide +kernel) (by decide +kernel) kdk_entry_iter (kdk_args_iter _) ?_
  unfold Builtin.«iter»
  refine wpAny_bind (m := someArgs "iter" 1 2 _) (wpAny_of_eq (a := [Value.ref a]) (by first | rfl | kernel_rfl!) ?_)
  show wpAny _ _ (pyIter (.ref a) >>= _) _ _ _
  refine wpAny_bind (wpAny_pyIter_list p1.isList ?_)
  exact wpAny_pure ⟨_, rfl, h _ _ _ _ (H.alloc _ (.liter a 0) (Heap.get?_push_size _ rfl)) (.alloc _ _) (.mkRef _ _) (hP _ H.sizeFree)⟩

end
end Mine
end

noncomputable section
open PySem PySem.W PyProof.Rows
namespace Mine

theorem VRs.flat {h : Heap} {xs : List V} {vs : List Value} (e : VRs h xs vs) : ∀ n, VRs h (List.replicate n xs).flatten (List.replicate n vs).flatten
  | 0 => by simp [VRs]
  | n + 1 => by
    rw [List.replicate_succ, List.replicate_succ, List.flatten_cons, List.flatten_cons]
    exact e.append (e.flat n)
theorem foldl_app (n : Nat) (vs : List Value) : ∀ acc : Array Value, (List.foldl (fun x1 x2 => x1 ++ x2) acc (List.replicate n vs.toArray)) = acc ++ (List.replicate n vs).flatten.toArray := by
  induction n with
  | zero => intro acc; simp
  | succ n ih => intro acc; rw [List.replicate_succ, List.foldl_cons, ih, List.replicate_succ, List.flatten_cons]; simp

section
variable {X : Cx} {A : Around} {F : Fx}

theorem so_bin {op : Operator} {a b : V} {ra rb : Value} {hp : Hp} {s : Shared} (H : RH X hp s) (ha : VR s.heap a ra) (hb : VR s.heap b rb) : SO X A (binaryOp op ra rb) hp s (binW op a b hp) := by
  have sl := sizeLine_ge
  intro P hP Q E h
  unfold binW at hP
  split at hP
  · exact so_bin_int H ha hb P hP Q E h
  · obtain ⟨rfl, xs, ys, e1, e2, hz, hP⟩ := hP
    have := ha.unRef; subst this
    have := hb.unRef; subst this
    obtain ⟨vs, ⟨n, p1⟩, q1⟩ := H.own _ _ e1
    obtain ⟨us, ⟨m, p2⟩, q2⟩ := H.own _ _ e2
    have l1 := q1.length
    have l2 := q2.length
    refine PySem.P.add_list (n := n) (n2 := m) p1 p2 ?_ (by simp only [List.size_toArray]; omega)
    have e3 : vs.toArray ++ us.toArray = (vs ++ us).toArray := by simp
    rw [e3]
    exact h _ _ _ _ (H.alloc _ (.list (xs ++ ys)) ⟨vs ++ us, ⟨_, Heap.get?_push_size _ rfl⟩, (q1.append q2).mono fun b i n t => t.push _⟩) (.alloc _ _) (.mkRef _ _) (hP _ H.sizeFree)
  · obtain ⟨rfl, xs, e1, hz, h0, h1, hP⟩ := hP
    rename_i x y a n
    have := ha.unRef; subst this
    obtain ⟨u, rfl⟩ := hb.unInt
    obtain ⟨vs, ⟨k, p1⟩, q1⟩ := H.own _ _ e1
    have l1 := q1.length
    have hnn : n.toNat < 1000 := by omega
    have hmul : vs.toArray.size * n.toNat ≤ 1000 * 1000 := Nat.mul_le_mul (by rw [List.size_toArray]; omega) (by omega)
    refine wpAny_binaryOp_repeat_ref (T := "list") (U := "int") (by decide) ⟨_, p1, rfl⟩ (fun s' => typeIs_int s' n u) noFill_list_mul F.fills_int_mul F.slot_int_rmul repeat_list F.slot_int_index.lookup
      (call_meets F.slot_int_rmul (typeIs_int s n u) F.entry_int_rmul (F.args_int_rmul_2 _ _) (int___rmul___int_list n u a vs.toArray k)
      ⟨p1, rfl, ⟨_, p1, rfl⟩, call_meets F.slot_list_mul ⟨_, p1, rfl⟩ F.entry_list_mul (F.args_list_mul_2 _ _)
        (AutoListH.list___mul___list_int_3 a vs.toArray k n u (by simp [Builtin.List.listFitsIndex]; omega) (by omega) (by simp [Builtin.List.listTooLong, sizeLine] at hmul ⊢; omega)) ⟨p1, ?_⟩⟩)
    have e3 : (List.foldl (fun x1 x2 => x1 ++ x2) #[] (List.replicate (if vs.toArray.isEmpty = true then 0 else n.toNat) vs.toArray)) = (List.replicate n.toNat vs).flatten.toArray := by
      cases vs with
      | nil => simp
      | cons v vs => rw [foldl_app]; simp
    rw [e3]
    exact h _ _ _ _ (H.alloc _ (.list (List.replicate n.toNat xs).flatten) ⟨_, ⟨_, Heap.get?_push_size _ rfl⟩, (q1.flat _).mono fun b i n t => t.push _⟩) (.alloc _ _) (.mkRef _ _) (hP _ H.sizeFree)
  · exact hP.elim

theorem se_op {l r : Expr} {op : Operator} {pos : Pos} {W1 W2 : WE} (h1 : SE X A F l W1) (h2 : SE X A F r W2) :
    SE X A F (.BinOp l op r pos) (fun st P => W1 st fun a st1 => W2 st1 fun b st2 => binW op a b st2.hp fun v hp => P v ⟨st2.lo, hp⟩) := by
  intro st s r0 P hP Q E h
  refine wpAny_BinOp (h1 st s r0 _ hP _ _ fun a st1 ra s1 r1 ev1 hv1 hp1 => h2 st1 s1 r1 _ hp1 _ _ fun b st2 rb s2 r2 ev2 hv2 hp2 => ?_)
  exact r2.so (so_bin r2.H (hv1.mono (r1.tk ev2)) hv2) hp2 fun v st' rv s' r' ev' hv' hp' => h v st' rv s' r' ((ev1.trans ev2).trans ev') hv' hp'

noncomputable def pickV (xs : List V) (lo hi st : Option Int) : List V :=
  (sliceRange (sliceBounds lo hi st xs.length).1 (sliceBounds lo hi st xs.length).2.1 (sliceBounds lo hi st xs.length).2.2).filterMap (xs[·]?)
theorem VRs.pick {h : Heap} {xs : List V} {vs : List Value} (e : VRs h xs vs) (lo hi st : Option Int) : ∃ us : List Value, slicePick vs.toArray lo hi st = us.toArray ∧ VRs h (pickV xs lo hi st) us := by
  refine ⟨_, rfl, ?_⟩
  unfold pickV
  rw [List.size_toArray, e.length]
  generalize sliceRange _ _ _ = l
  induction l with
  | nil => simp [VRs]
  | cons i l ih =>
    rw [List.filterMap_cons, List.filterMap_cons]
    cases hx : xs[i]? with
    | none =>
      have : vs.toArray[i]? = none := by
        have := List.getElem?_eq_none_iff.mp hx
        simp [e.length, this]
      simpa [this] using ih
    | some x =>
      obtain ⟨v, e1, e2⟩ := e.get hx
      have : vs.toArray[i]? = some v := by simpa using e1
      simp only [this]
      exact VRs.cons e2 ih

noncomputable def WP := St → (Option Int → St → Prop) → Prop
noncomputable def SP (X : Cx) (A : Around) (F : Fx) (e : Option Expr) (W : WP) : Prop := ∀ st s, R X F st s → ∀ P, W st P → ∀ (Q : Value → Shared → Prop) (E : Value → Shared → Prop),
  (∀ k st' rv s', R X F st' s' → Ev F.pv F.fr st.hp s st'.hp s' → IsPart rv k → P k st' → Q rv s') → wpAny (MM X) A (evalPart e F.env) Q E s
theorem sp_none : SP X A F none (fun st P => P none st) := fun st s r P hP Q E h => wpAny_evalPart_none (h _ _ _ _ r .refl .none hP)
theorem sp_some {e : Expr} {W : WE} (h1 : SE X A F e W) : SP X A F (some e) (fun st P => W st fun v st1 => ∃ i, v = .int i ∧ P (some i) st1) := by
  intro st s r P hP Q E h
  refine wpAny_evalPart_some (h1 st s r _ hP _ _ fun v st1 rv s1 r1 ev1 hv1 hp1 => ?_)
  obtain ⟨i, rfl, hp1⟩ := hp1
  obtain ⟨t, rfl⟩ := hv1.unInt
  exact h _ _ _ _ r1 ev1 (.int _ _) hp1

inductive LstR (X : Cx) (hp : Hp) : V → List V → Prop
  | own {a : Addr} {xs : List V} : hp a = some (.list xs) → LstR X hp (.ref a) xs
  | base {a : Addr} {vs : List Value} {is : List Int} : X.h₀.IsList a vs.toArray → Ints vs is → LstR X hp (.con (.ref a)) (is.map .int)
theorem Ints.vrs {h : Heap} {vs : List Value} {is : List Int} (e : Ints vs is) : VRs h (is.map .int) vs := by
  induction e with
  | nil => simp [VRs]
  | cons _ ih => exact VRs.cons (.mkInt _ _ _) ih
theorem LstR.list {hp : Hp} {s : Shared} {v : V} {rv : Value} {xs : List V} (H : RH X hp s) (l : LstR X hp v xs) (hv : VR s.heap v rv) : ∃ a vs, rv = .ref a ∧ s.heap.IsList a (vs : List Value).toArray ∧ VRs s.heap xs vs := by
  cases l with
  | own e =>
    have := hv.unRef; subst this
    obtain ⟨vs, p1, q1⟩ := H.own _ _ e
    exact ⟨_, vs, rfl, p1.isList, q1⟩
  | base hl hi =>
    have := hv.unCon; subst this
    exact ⟨_, _, rfl, hl.at fun o e => H.base _ o e, hi.vrs⟩

theorem se_slice {value : Expr} {lo hi sp : Option Expr} {p pos : Pos} {W : WE} {W1 W2 W3 : WP} (h1 : SE X A F value W) (hl : SP X A F lo W1) (hh : SP X A F hi W2) (hs : SP X A F sp W3)
    (hops : ∀ o i, ∃ ops, subscripted (.Slice lo hi sp p) false o i = operate ops (getItem o i)) :
    SE X A F (.Subscript value (.Slice lo hi sp p) pos) (fun st P => W st fun o st1 => W1 st1 fun l st2 => W2 st2 fun u st3 => W3 st3 fun k st4 => ∃ xs, LstR X st4.hp o xs ∧ xs.length < 1000000 ∧ k ≠ some 0 ∧
      ∀ c, st4.hp c = none → P (.ref c) (st4.setH c (.list (pickV xs l u k)))) := by
  intro st s r0 P hP Q E h
  have sl := sizeLine_ge
  refine Subscript_ (h1 st s r0 _ hP _ _ fun o st1 ro s1 r1 ev1 hv1 hp1 => wpAny_Slice (hl st1 s1 r1 _ hp1 _ _ fun l st2 rl s2 r2 ev2 hv2 hp2 => hh st2 s2 r2 _ hp2 _ _ fun u st3 ru s3 r3 ev3 hv3 hp3 => hs st3 s3 r3 _ hp3 _ _ fun k st4 rk s4 r4 ev4 hv4 hp4 => ?_))
  obtain ⟨xs, hx, hz, h0, hp4⟩ := hp4
  have hvo := ((hv1.mono (r1.tk ev2)).mono (r2.tk ev3)).mono (r3.tk ev4)
  obtain ⟨a, vs, rfl, hli, q1⟩ := hx.list r4.H hvo
  have e5 : Ev [] [] st4.hp s4 st4.hp { s4 with heap := s4.heap.push { cls := .type "slice", data := .fields #[rl, ru, rk] } } := .push _
  have r5 := r4.ev e5 (r4.H.push _)
  have q5 := q1.mono (e5.tk0 r4.H)
  obtain ⟨ops, hops⟩ := hops (.ref a) (.ref s4.heap.objs.size)
  have hl5 := hli.push { cls := .type "slice", data := .fields #[rl, ru, rk] }
  refine tail_any hl5.typeIs slot_list_getitem.lookup (wpAny_getItem_list_slice (s := { s4 with heap := s4.heap.push { cls := .type "slice", data := .fields #[rl, ru, rk] } }) hl5 (Heap.IsSliceOf.new _ _ _ _) hv2 hv3 hv4 h0 ?_ (by rw [List.size_toArray, q1.length]; omega)) hops
  obtain ⟨us, e6, q6⟩ := q5.pick l u k
  rw [e6]
  exact h _ (St.setH st4 _ _) _ _ (r5.ev (.alloc _ _) (r5.H.alloc _ (.list (pickV xs l u k)) ⟨us, ⟨_, Heap.get?_push_size _ rfl⟩, q6.mono fun b i n t => t.push _⟩)) (((((ev1.trans ev2).trans ev3).trans ev4).trans e5.weaken).trans (.alloc _ _)) (.mkRef _ _) (hp4 _ r5.H.sizeFree)

end
end Mine
end

noncomputable section
open PySem PySem.W PyProof.Rows
namespace Mine

set_option genInjectivity false in
set_option genSizeOf false in
structure Src where
  nx : Nat → Hp → Option V → Prop
  adv : Nat → Hp → Hp := fun _ hp => hp
  fin : Nat → Hp → Hp := fun _ hp => hp

structure EvX (wr fr : List Addr) (hp : Hp) (s : Shared) (hp' : Hp) (s' : Shared) : Prop where
  keep : ∀ b o, b ∉ wr → b ∉ fr → s.heap.get? b = some o → hp b = none → s'.heap.get? b = some o
  slots : ∀ b o, b ∉ wr → b ∈ fr → s.heap.get? b = some o → hp b = none → ∃ sl, s'.heap.get? b = some { o with slots := sl }
  sub : ∀ b o, b ∉ wr → s.heap.get? b = some o → hp b = none → hp' b = none
  alive : ∀ b o, b ∉ wr → s.heap.get? b = some o → ∃ o', s'.heap.get? b = some o'
  rest : ∃ h' tk, s' = { s with heap := h', toks := tk }
theorem Ev.toX {wr fr : List Addr} {hp hp' : Hp} {s s' : Shared} (x : Ev wr fr hp s hp' s') : EvX wr fr hp s hp' s' := ⟨fun b o n m e u => x.keep b o e u n m, fun b o n m e u => x.slots b o e u n m, fun b o _ e u => x.sub b o e u, fun b o _ e => x.alive b o e, x.rest⟩
theorem EvX.wfr {wr fr : List Addr} {hp hp' : Hp} {s s' : Shared} (x : EvX wr [] hp s hp' s') : EvX wr fr hp s hp' s' := ⟨fun b o n m e u => x.keep b o n (by simp) e u, fun b o n m e u => ⟨o.slots, x.keep b o n (by simp) e u⟩, x.sub, x.alive, x.rest⟩
theorem EvX.keepD {wr fr : List Addr} {hp hp' : Hp} {s s' : Shared} (x : EvX wr fr hp s hp' s') {b : Addr} {o : Obj} (p : b ∉ wr) (e : s.heap.get? b = some o) (n : hp b = none) : ∃ sl, s'.heap.get? b = some { o with slots := sl } := by
  by_cases q : b ∈ fr
  · exact x.slots b o p q e n
  · exact ⟨o.slots, x.keep b o p q e n⟩
theorem EvX.tk {X : Cx} {wr fr : List Addr} {hp hp' : Hp} {s s' : Shared} (x : EvX wr fr hp s hp' s') (H : RH X hp s) (P : ∀ b ∈ wr, ∀ o, s.heap.get? b = some o → NotTup o) (Q : ∀ b ∈ fr, ∀ o, s.heap.get? b = some o → NotTup o) : TK s.heap s'.heap := by
  intro b items m t
  exact x.keep b _ (fun hb => P b hb _ t _ _ rfl) (fun hb => Q b hb _ t _ _ rfl) t (H.notTup t)
theorem Ev.transX {pv wr fr : List Addr} {hp hp' hp'' : Hp} {s s' s'' : Shared} (x : Ev pv fr hp s hp' s') (y : EvX wr fr hp' s' hp'' s'') (n : ∀ b ∈ wr, s.heap.get? b = none) : Ev pv fr hp s hp'' s'' := by
  have nw : ∀ b o, s.heap.get? b = some o → b ∉ wr := fun b o e hb => by rw [n b hb] at e; cases e
  refine ⟨fun b o e u p q => y.keep b o (nw b o e) q (x.keep b o e u p q) (x.sub b o e u), fun b o e u p q => ?_, fun b o e u => ?_, fun b o e => ?_, ?_⟩
  · obtain ⟨sl, e1⟩ := x.slots b o e u p q
    obtain ⟨sl', e2⟩ := y.slots b _ (nw b o e) q e1 (x.sub b o e u)
    exact ⟨sl', e2⟩
  · obtain ⟨o', e'⟩ := x.alive b o e
    exact y.sub b o' (nw b o e) e' (x.sub b o e u)
  · obtain ⟨o', e'⟩ := x.alive b o e
    exact y.alive b o' (nw b o e) e'
  · obtain ⟨h1, t1, rfl⟩ := x.rest
    obtain ⟨h2, t2, rfl⟩ := y.rest
    exact ⟨h2, t2, rfl⟩
theorem FrsOk.evX {X : Cx} {fr fr' wr : List Addr} {hp hp' : Hp} {s s' : Shared} (x : FrsOk X fr hp s.heap) (v : EvX wr fr' hp s hp' s') (w : ∀ b ∈ wr, b ∉ fr) : FrsOk X fr hp' s'.heap := by
  intro b hb
  have nw : b ∉ wr := fun h => w b h hb
  obtain ⟨n, n0, o, es, ep, e, d⟩ := x b hb
  obtain ⟨sl, e'⟩ := v.keepD nw e n
  exact ⟨v.sub b o nw e n, n0, _, es, ep, e', d⟩

structure Itr (X : Cx) (A : Around) (tgt : Expr) (it : Value) (src : Src) (fp wr : List Addr) (J : Nat → Heap → Prop) : Prop where
  sub : ∀ b ∈ wr, b ∈ fp
  frame : ∀ i h h', J i h → (∀ b ∈ fp, ∀ o, h.get? b = some o → h'.get? b = some o) → TK h h' → J i h'
  alive : ∀ i h, J i h → ∀ b ∈ fp, ∃ o, h.get? b = some o
  notTup : ∀ i h, J i h → ∀ b ∈ wr, ∀ o, h.get? b = some o → NotTup o
  item : ∀ i hp s v, RH X hp s → J i s.heap → (∀ b ∈ fp, hp b = none ∧ X.h₀.get? b = none) → src.nx i hp (some v) → ∀ (K0 : Shared → Prop) (Q : Value → Shared → Prop) (E : Value → Shared → Prop),
    (∀ rv s', RH X (src.adv i hp) s' → Ev wr [] hp s (src.adv i hp) s' → VR s'.heap v rv → J (i + 1) s'.heap → Q rv s') →
    wpAny (MM X) A (pyNext it) (fun r s1 => match r with | none => K0 s1 | some rv => wpAny (MM X) A (letOwnedTupleGo tgt it rv) (fun _ s2 => Q rv s2) E s1) E s
  done : ∀ i hp s, RH X hp s → J i s.heap → (∀ b ∈ fp, hp b = none ∧ X.h₀.get? b = none) → src.nx i hp none → ∀ (K0 : Shared → Prop) (G : Value → Shared → Prop) (E : Value → Shared → Prop),
    (∀ s', RH X (src.fin i hp) s' → EvX wr [] hp s (src.fin i hp) s' → K0 s') → wpAny (MM X) A (pyNext it) (fun r s1 => match r with | none => K0 s1 | some rv => G rv s1) E s
  self : ∀ i hp s, RH X hp s → J i s.heap → (∃ r, src.nx i hp r) → ∀ (Q : Value → Shared → Prop) (E : Value → Shared → Prop), Q it s → wpAny (MM X) A (pyIter it) Q E s

theorem Ev.transNew {pv wr fr : List Addr} {hp hp' hp'' : Hp} {s s' s'' : Shared} (x : Ev pv fr hp s hp' s') (y : Ev wr fr hp' s' hp'' s'') (n : ∀ b ∈ wr, s.heap.get? b = none) : Ev pv fr hp s hp'' s'' := x.transX y.toX n

structure Off (X : Cx) (F : Fx) (hp : Hp) (b : Addr) : Prop where
  pv : b ∉ F.pv
  cell : ∀ x c, F.env.cells.lookup x = some c → c ≠ b
  own : hp b = none
  base : X.h₀.get? b = none
  fr : b ∉ F.fr

section
variable {X : Cx} {A : Around} {F : Fx}

theorem R.off {st : St} {s : Shared} (r : R X F st s) {b : Addr} (hb : s.heap.get? b = none) : Off X F st.hp b := by
  refine ⟨fun hm => ?_, fun x c hc e => ?_, ?_, ?_, fun hm => ?_⟩
  · obtain ⟨_, _, o, e, _⟩ := r.L.pv b hm
    rw [hb] at e; cases e
  · subst e
    obtain ⟨⟨ov, o, e, _⟩, _⟩ := r.L.cell x c hc
    rw [hb] at e; cases e
  · cases e : st.hp b with
    | none => rfl
    | some o => obtain ⟨ob, e1, _⟩ := (r.H.own b o e).alive; rw [hb] at e1; cases e1
  · cases e : X.h₀.get? b with
    | none => rfl
    | some o => have := r.H.base b o e; rw [hb] at this; cases this
  · obtain ⟨_, _, o, _, _, e, _⟩ := r.fr b hm
    rw [hb] at e; cases e

theorem RL.evW {lo : Nat → Option V} {hp hp' : Hp} {s s' : Shared} {wr fr : List Addr} (ok : FOk F) (L : RL X F lo hp s.heap) (O : FrsOk X fr hp s.heap) (x : EvX wr fr hp s hp' s') (tk : TK s.heap s'.heap) (off : ∀ b ∈ wr, b ∉ F.pv ∧ ∀ x c, F.env.cells.lookup x = some c → c ≠ b) : RL X F lo hp' s'.heap := by
  have kl : ∀ o, s.heap.get? F.env.locals = some o → ∃ sl, s'.heap.get? F.env.locals = some { o with slots := sl } := fun o e => x.keepD (fun hb => (off _ hb).1 ok.loc) e (L.pv _ ok.loc).1
  have kc : ∀ y c, F.env.cells.lookup y = some c → ∀ o, s.heap.get? c = some o → ∃ sl, s'.heap.get? c = some { o with slots := sl } := fun y c hc o e => x.keepD (fun hb => (off _ hb).2 y c hc rfl) e (L.cell y c hc).2
  refine ⟨?_, fun i y v hi hv => ?_, fun y c hc => ?_, fun b hb => ?_⟩
  · obtain ⟨m, n⟩ := L.ns; exact ⟨m, ns_sl n kl⟩
  · obtain ⟨rv, a, b⟩ := L.var i y v hi hv
    exact ⟨rv, a.keep kl (kc y), b.mono tk⟩
  · obtain ⟨⟨ov, hcc⟩, n⟩ := L.cell y c hc
    obtain ⟨o, e, _⟩ := id hcc
    exact ⟨⟨ov, cell_sl hcc (kc y c hc)⟩, x.sub c o (fun hb => (off _ hb).2 y c hc rfl) e n⟩
  · obtain ⟨n, n0, o, e, d⟩ := L.pv b hb
    have nw : b ∉ wr := fun hw => (off b hw).1 hb
    refine ⟨x.sub b o nw e n, n0, ?_⟩
    by_cases q : b ∈ fr
    · obtain ⟨_, _, o2, es, ep, e2, d2⟩ := O b q
      obtain ⟨sl, e'⟩ := x.slots b o2 nw q e2 n
      exact ⟨_, e', not_sl d2⟩
    · exact ⟨o, x.keep b o nw q e n, d⟩
theorem R.evX {st : St} {s s' : Shared} {hp' : Hp} {wr : List Addr} (r : R X F st s) (H' : RH X hp' s') (x : EvX wr F.fr st.hp s hp' s') (nt : ∀ b ∈ wr, ∀ o, s.heap.get? b = some o → NotTup o) (off : ∀ b ∈ wr, Off X F st.hp b) : R X F ⟨st.lo, hp'⟩ s' :=
  ⟨r.ok, H', r.L.evW r.ok r.fr x (x.tk r.H nt r.fr.not) fun b hb => ⟨(off b hb).pv, (off b hb).cell⟩, r.fr.evX x fun b hb => (off b hb).fr⟩

abbrev WI := St → (Src → St → Prop) → Prop
noncomputable def SI (X : Cx) (A : Around) (F : Fx) (iter tgt : Expr) (W : WI) : Prop := ∀ st s, R X F st s → ∀ P, W st P → ∀ (Q : Value → Shared → Prop) (E : Value → Shared → Prop),
  (∀ src st' it s' fp wr J, R X F st' s' → Ev F.pv F.fr st.hp s st'.hp s' → Itr X A tgt it src fp wr J → J 0 s'.heap → (∀ b ∈ fp, Off X F st'.hp b) → (∀ b ∈ wr, s.heap.get? b = none) → P src st' → Q it s') →
    wpAny (MM X) A (eval iter F.env) (fun x s1 => wpAny (MM X) A (pyIter x) Q E s1) E s

theorem ss_for {tgt iter : Expr} {body : List Stmt} {pos : Pos} {Wi : WI} {Wt : WT} {Wb : WS} (hi : SI X A F iter tgt Wi) (ht : ST X A F tgt Wt) (hb : SL X A F body Wb) (hs : ∀ x, foldedSetIterable iter F.env x = pure x) :
    SS X A F (.For tgt iter body [] pos) (fun st P => Wi st fun src st1 => ∃ (N : Nat) (I : Nat → St → Prop), I 0 st1 ∧ ∀ i st2, I i st2 →
      (∃ v, src.nx i st2.hp (some v) ∧ i < N ∧ Wt v ⟨st2.lo, src.adv i st2.hp⟩ fun st3 => Wb st3 fun f st4 => match f with
        | .next | .cont => I (i + 1) st4
        | .brk => P .next st4
        | .ret v => P (.ret v) st4) ∨ (src.nx i st2.hp none ∧ P .next ⟨st2.lo, src.fin i st2.hp⟩)) := by
  intro st s r0 P hP Q E h
  refine wpAny_For (hi st s r0 _ hP _ _ fun src st1 it s1 fp wr J r1 ev1 IT hJ hoff hnew hp1 => ?_) hs
  obtain ⟨N, I, hI0, turn⟩ := hp1
  refine codeAny_forLoop_any (fun n s' => ∃ i st', n = N + 1 - i ∧ i ≤ N ∧ R X F st' s' ∧ Ev F.pv F.fr st.hp s st'.hp s' ∧ J i s'.heap ∧ (∀ b ∈ fp, Off X F st'.hp b) ∧ I i st') ?_ (N + 1) ⟨0, st1, rfl, Nat.zero_le _, r1, ev1, hJ, hoff, hI0⟩
  rintro n s' ⟨i, st', rfl, hiN, r', ev', hJ', hoff', hI⟩
  have hwoff : ∀ b ∈ wr, Off X F st'.hp b := fun b hb => hoff' b (IT.sub b hb)
  have hwnot := IT.notTup i _ hJ'
  have hfpo : ∀ b ∈ fp, st'.hp b = none ∧ X.h₀.get? b = none := fun b hb => ⟨(hoff' b hb).own, (hoff' b hb).base⟩
  rcases turn i st' hI with ⟨v, hnx, hlt, hW⟩ | ⟨hnx, hW⟩
  · refine IT.item i st'.hp s' v r'.H hJ' hfpo hnx _ _ _ fun rv s2 H2 ev2 hv2 hJ2 => ?_
    have r2 : R X F ⟨st'.lo, src.adv i st'.hp⟩ s2 := r'.evX H2 ev2.toX.wfr hwnot hwoff
    have ev2' : Ev F.pv F.fr st.hp s (src.adv i st'.hp) s2 := ev'.transNew ev2.wfr hnew
    have off2 : ∀ b ∈ fp, Off X F (src.adv i st'.hp) b := fun b hb => by
      have o1 := hoff' b hb
      obtain ⟨o, e⟩ := IT.alive i _ hJ' b hb
      exact ⟨o1.pv, o1.cell, ev2.sub b o e o1.own, o1.base, o1.fr⟩
    have step : ∀ {st3 s3}, R X F st3 s3 → Ev F.pv F.fr (src.adv i st'.hp) s2 st3.hp s3 → J (i + 1) s3.heap ∧ ∀ b ∈ fp, Off X F st3.hp b := fun {st3 s3} r3 ev3 => by
      refine ⟨IT.frame _ _ _ hJ2 (fun b hb o e => ev3.keep b o e (off2 b hb).own (off2 b hb).pv (off2 b hb).fr) (r2.tk ev3), fun b hb => ?_⟩
      have o1 := off2 b hb
      obtain ⟨o, e⟩ := IT.alive _ _ hJ2 b hb
      exact ⟨o1.pv, o1.cell, ev3.sub b o e o1.own, o1.base, o1.fr⟩
    refine ht _ s2 v rv r2 hv2 _ hW _ _ fun st3 s3 r3 ev3 hp3 => hb st3 s3 r3 _ hp3 _ _ fun f st4 rf s4 r4 ev4 hf hp4 => ?_
    obtain ⟨hJ4, off4⟩ := step r4 (ev3.trans ev4)
    have ev5 : Ev F.pv F.fr st.hp s st4.hp s4 := (ev2'.trans ev3).trans ev4
    cases f with
    | next =>
      have hf' : rf = .next := hf
      subst hf'
      exact ⟨N + 1 - (i + 1), by omega, i + 1, st4, rfl, by omega, r4, ev5, hJ4, off4, hp4⟩
    | cont =>
      have hf' : rf = .cont := hf
      subst hf'
      exact ⟨N + 1 - (i + 1), by omega, i + 1, st4, rfl, by omega, r4, ev5, hJ4, off4, hp4⟩
    | brk => have hf' : rf = .brk := hf; subst hf'; exact h .next st4 _ s4 r4 ev5 rfl hp4
    | ret v =>
      obtain ⟨rv, rfl, hv⟩ := id hf
      exact h (.ret v) st4 _ s4 r4 ev5 hf hp4
  · refine IT.done i st'.hp s' r'.H hJ' hfpo hnx _ _ _ fun s2 H2 ev2 => ?_
    have r2 : R X F ⟨st'.lo, src.fin i st'.hp⟩ s2 := r'.evX H2 ev2.wfr hwnot hwoff
    exact wpAny_execs_nil (h .next _ _ s2 r2 (ev'.transX ev2.wfr hnew) rfl hW)
end
end Mine
end

noncomputable section
open PySem PySem.W PyProof.Rows
namespace Mine

section
variable {X : Cx} {A : Around} {F : Fx}

theorem RH.offs {hp : Hp} {s : Shared} {wr : List Addr} {h' : Heap} {t : Nat} (H : RH X hp s) (hw : ∀ b ∈ wr, hp b = none ∧ X.h₀.get? b = none) (k : ∀ c o, c ∉ wr → s.heap.get? c = some o → h'.get? c = some o)
    (nt : ∀ b ∈ wr, ∀ o, s.heap.get? b = some o → NotTup o) : RH X hp { s with heap := h', toks := t } := by
  refine ⟨fun b o e => ?_, H.bfree, fun a o e => (H.own a o e).keep (fun ob q => k a ob (fun hb => ?_) q) fun b i n q => k b _ (fun hb => nt b hb _ q _ _ rfl) q⟩
  · refine k b o (fun hb => ?_) (H.base b o e)
    rw [(hw b hb).2] at e; cases e
  · rw [(hw a hb).1] at e; cases e
theorem EvX.offs {hp : Hp} {s : Shared} {wr : List Addr} {h' : Heap} {t : Nat} (k : ∀ c o, c ∉ wr → s.heap.get? c = some o → h'.get? c = some o) : EvX wr [] hp s hp { s with heap := h', toks := t } :=
  ⟨fun b o n _ e _ => k b o n e, fun b o n _ e _ => ⟨o.slots, k b o n e⟩, fun _ _ _ _ e => e, fun b o n e => ⟨o, k b o n e⟩, ⟨h', t, rfl⟩⟩
theorem Ev.offs {hp : Hp} {s : Shared} {wr : List Addr} {h' : Heap} {t : Nat} (k : ∀ c o, c ∉ wr → s.heap.get? c = some o → h'.get? c = some o) (al : ∀ c ∈ wr, ∃ o, h'.get? c = some o) : Ev wr [] hp s hp { s with heap := h', toks := t } := by
  refine ⟨fun b o e _ n _ => k b o n e, fun b o e _ n _ => ⟨o.slots, k b o n e⟩, fun _ _ _ e => e, fun b o e => ?_, ⟨h', t, rfl⟩⟩
  by_cases hb : b ∈ wr
  · exact al b hb
  · exact ⟨o, k b o hb e⟩
theorem out1 {it : Addr} {h h' : Heap} (sb : Heap.SameBut it h h') : ∀ c o, c ∉ [it] → h.get? c = some o → h'.get? c = some o := fun c o n e => (sb.2 c fun q => n (by simp [q])).trans e
theorem out1x {it : Addr} {h h' : Heap} (sb : Heap.ExtBut it h h') : ∀ c o, c ∉ [it] → h.get? c = some o → h'.get? c = some o := fun c o n e => sb c o (fun q => n (by simp [q])) e
theorem tkOf {X : Cx} {hp : Hp} {s : Shared} {wr : List Addr} {h' : Heap} (k : ∀ c o, c ∉ wr → s.heap.get? c = some o → h'.get? c = some o) (nt : ∀ b ∈ wr, ∀ o, s.heap.get? b = some o → NotTup o) : TK s.heap h' :=
  fun b i n q => k b _ (fun hb => nt b hb _ q _ _ rfl) q

noncomputable def listSrc (a : Addr) : Src := { nx := fun i hp r => ∃ xs, hp a = some (.list xs) ∧ r = xs[i]? }
theorem IsListIter.not {h : Heap} {it a : Addr} {i : Nat} (x : h.IsListIter it a i) : ∀ b ∈ [it], ∀ o, h.get? b = some o → NotTup o := by
  intro b hb o e
  obtain ⟨o', e', c, _⟩ := x
  simp at hb; subst hb
  rw [e] at e'; cases e'
  exact .of_cls c (by simp)
theorem itr_list {tgt : Expr} {it a : Addr} (hA : A.handled = none) : Itr X A tgt (.ref it) (listSrc a) [it] [it] (fun i h => h.IsListIter it a i) where
  sub := fun _ h => h
  frame := fun i h h' J k _ => J.at (k it (by simp))
  alive := fun i h J b hb => by simp at hb; subst hb; obtain ⟨o, e, _⟩ := J; exact ⟨o, e⟩
  notTup := fun i h J => IsListIter.not J
  item := by
    rintro i hp s v H J hoff ⟨xs, hx, hv⟩ K0 Q E h
    obtain ⟨vs, p1, q1⟩ := H.own _ _ hx
    obtain ⟨rv, e1, e2⟩ := q1.get hv.symm
    refine wpAny_pyNext_list_item (x := rv) J p1.isList (by simpa using e1) fun h' J' sb => ?_
    have k := out1 sb
    have nt := IsListIter.not J
    exact letGo_listiter J' (h rv _ (H.offs (t := s.toks) hoff k nt) (.offs k fun c hc => by simp at hc; subst hc; obtain ⟨o, e, _⟩ := J'; exact ⟨o, e⟩) (e2.mono (tkOf (X := X) (hp := hp) k nt)) J')
  done := by
    rintro i hp s H J hoff ⟨xs, hx, hv⟩ K0 G E h
    obtain ⟨vs, p1, q1⟩ := H.own _ _ hx
    have hn : vs[i]? = none := by
      rw [List.getElem?_eq_none_iff, q1.length]; exact List.getElem?_eq_none_iff.mp hv.symm
    refine wpAny_pyNext_list_end hA J p1.isList (by simpa using hn) fun h' sb => ?_
    have k := out1x sb
    exact h _ (H.offs (t := s.toks) hoff k (IsListIter.not J)) (.offs k)
  self := fun i hp s H J _ Q E h => wpAny_pyIter_listiter J h

theorem si_list {e tgt : Expr} {W : WE} (hA : A.handled = none) (he : SE X A F e W) : SI X A F e tgt (fun st P => W st fun v st1 => ∃ a xs, v = .ref a ∧ st1.hp a = some (.list xs) ∧ P (listSrc a) st1) := by
  intro st s r P hP Q E h
  refine he st s r _ hP _ _ fun v st1 rv s1 r1 ev1 hv hp1 => ?_
  obtain ⟨a, xs, rfl, hx, hp1⟩ := hp1
  have := hv.unRef; subst this
  obtain ⟨vs, p1, q1⟩ := r1.H.own _ _ hx
  refine wpAny_pyIter_list p1.isList ?_
  have e1 : Ev [] [] st1.hp s1 st1.hp { s1 with heap := s1.heap.push { cls := .type "list_iterator", data := .fields #[.ref a, .int 0 0] } } := .push _
  refine h (listSrc a) st1 _ _ [s1.heap.objs.size] [s1.heap.objs.size] _ (r1.ev e1 (r1.H.push _)) (ev1.trans e1.weaken) (itr_list hA) ⟨_, Heap.get?_push_size _ rfl, rfl, rfl⟩ (fun b hb => ?_) (fun b hb => ?_) hp1
  · simp at hb; subst hb; exact r1.off get_size
  · simp at hb; subst hb
    cases q : s.heap.get? s1.heap.objs.size with
    | none => rfl
    | some o => obtain ⟨o', q'⟩ := ev1.alive _ _ q; rw [get_size] at q'; cases q'

theorem newer {pv fr : List Addr} {hp hp' : Hp} {s s1 : Shared} {b : Addr} (ev1 : Ev pv fr hp s hp' s1) (hb : s1.heap.get? b = none) : s.heap.get? b = none := by
  cases q : s.heap.get? b with
  | none => rfl
  | some o => obtain ⟨o', q'⟩ := ev1.alive _ _ q; rw [hb] at q'; cases q'

noncomputable def tupSrc (xs : List V) : Src := { nx := fun i hp r => r = xs[i]? }
theorem IsTupleIter.not {h : Heap} {it a : Addr} {i : Nat} (x : h.IsTupleIter it a i) : ∀ b ∈ [it], ∀ o, h.get? b = some o → NotTup o := by
  intro b hb o e
  obtain ⟨o', e', c, _⟩ := x
  simp at hb; subst hb
  rw [e] at e'; cases e'
  exact .of_cls c (by simp)
theorem itr_tup {tgt : Expr} {it a : Addr} {xs : List V} {vs : List Value} {n : Nat} (hA : A.handled = none) : Itr X A tgt (.ref it) (tupSrc xs) [it] [it] (fun i h => h.IsTupleIter it a i ∧ IsT h a vs.toArray n ∧ VRs h xs vs) where
  sub := fun _ h => h
  frame := fun i h h' J k tk => ⟨J.1.at (k it (by simp)), tk _ _ _ J.2.1, J.2.2.mono tk⟩
  alive := fun i h J b hb => by simp at hb; subst hb; obtain ⟨⟨o, e, _⟩, _⟩ := J; exact ⟨o, e⟩
  notTup := fun i h J => IsTupleIter.not J.1
  item := by
    rintro i hp s v H ⟨J, ht, q1⟩ hoff hv K0 Q E h
    obtain ⟨rv, e1, e2⟩ := q1.get hv.symm
    refine wpAny_pyNext_tuple_item (x := rv) J (IsT.isTuple ht) (by simpa using e1) fun h' J' sb => ?_
    have k := out1 sb
    have nt := IsTupleIter.not J
    have tk : TK s.heap h' := tkOf (X := X) (hp := hp) k nt
    exact letGo_tupleiter J' (h rv _ (H.offs (t := s.toks) hoff k nt) (.offs k fun c hc => by simp at hc; subst hc; obtain ⟨o, e, _⟩ := J'; exact ⟨o, e⟩) (e2.mono tk) ⟨J', tk _ _ _ ht, q1.mono tk⟩)
  done := by
    rintro i hp s H ⟨J, ht, q1⟩ hoff hv K0 G E h
    have hn : vs[i]? = none := by
      rw [List.getElem?_eq_none_iff, q1.length]; exact List.getElem?_eq_none_iff.mp hv.symm
    refine wpAny_pyNext_tuple_end hA J (IsT.isTuple ht) (by simpa using hn) fun h' sb => ?_
    have k := out1x sb
    exact h _ (H.offs (t := s.toks) hoff k (IsTupleIter.not J)) (.offs k)
  self := fun i hp s H J _ Q E h => wpAny_pyIter_tupleiter J.1 h
theorem si_tup {e tgt : Expr} {W : WE} (hA : A.handled = none) (he : SE X A F e W) : SI X A F e tgt (fun st P => W st fun v st1 => ∃ xs, v = .tup xs ∧ P (tupSrc xs) st1) := by
  intro st s r P hP Q E h
  refine he st s r _ hP _ _ fun v st1 rv s1 r1 ev1 hv hp1 => ?_
  obtain ⟨xs, rfl, hp1⟩ := hp1
  obtain ⟨a, vs, n, rfl, ht, q1⟩ := hv.unTup
  refine wpAny_pyIter_tuple (IsT.isTuple ht) ?_
  have e1 : Ev [] [] st1.hp s1 st1.hp { s1 with heap := s1.heap.push { cls := .type "tuple_iterator", data := .fields #[.ref a, .int 0 0] } } := .push _
  refine h (tupSrc xs) st1 _ _ [s1.heap.objs.size] [s1.heap.objs.size] _ (r1.ev e1 (r1.H.push _)) (ev1.trans e1.weaken) (itr_tup (vs := vs) (n := n) hA) ⟨⟨_, Heap.get?_push_size _ rfl, rfl, rfl⟩, ht.push _, q1.mono fun b i n t => t.push _⟩ (fun b hb => ?_) (fun b hb => ?_) hp1
  · simp at hb; subst hb; exact r1.off get_size
  · simp at hb; subst hb; exact newer ev1 get_size

noncomputable def rangeSrc (n : Int) : Src := { nx := fun i hp r => r = if (i : Int) < n then some (.int i) else none }
theorem itr_range {tgt : Expr} {it : Addr} {n : Int} (hA : A.handled = none) (ht : ∀ it v, letOwnedTupleGo tgt it v = pure ()) (hn : 0 ≤ n) : Itr X A tgt (.ref it) (rangeSrc n) [it] [it] (fun i h => IsRangeIter h it i (n - i) 1 ∧ (i : Int) ≤ n) where
  sub := fun _ h => h
  frame := fun i h h' J k tk => ⟨k it (by simp) _ J.1, J.2⟩
  alive := fun i h J b hb => by simp at hb; subst hb; exact ⟨_, J.1⟩
  notTup := fun i h J b hb o e => by
    simp at hb; subst hb
    rw [J.1] at e; cases e
    exact .of_cls rfl (by simp)
  item := by
    rintro i hp s v H ⟨J, hle⟩ hoff hv K0 Q E h
    have hv' : some v = if (i : Int) < n then some (.int i) else none := hv
    split at hv'
    · rename_i hlt
      cases hv'
      refine wpAny_pyNext_range_item J (by omega) fun h' J' sb => ?_
      have k := out1 sb
      have nt : ∀ b ∈ [it], ∀ o, s.heap.get? b = some o → NotTup o := by
        intro b hb o e
        simp at hb; subst hb
        rw [J] at e; cases e
        exact .of_cls rfl (by simp)
      have J2 : IsRangeIter h' it ((i + 1 : Nat) : Int) (n - ((i + 1 : Nat) : Int)) 1 ∧ ((i + 1 : Nat) : Int) ≤ n := by
        refine ⟨?_, by omega⟩
        have e1 : ((i + 1 : Nat) : Int) = (i : Int) + 1 := by omega
        have e2 : n - ((i : Int) + 1) = n - i - 1 := by omega
        rw [e1, e2]; exact J'
      refine wpAny_of_eq (ht _ _) ?_
      exact h _ _ (H.offs hoff k nt) (.offs k fun c hc => by simp at hc; subst hc; exact ⟨_, J'⟩) (.mkInt _ _ _) J2
    · cases hv'
  done := by
    rintro i hp s H ⟨J, hle⟩ hoff hv K0 G E h
    have hv' : none = if (i : Int) < n then some (V.int i) else none := hv
    split at hv'
    · cases hv'
    · refine wpAny_pyNext_range_end hA J (by omega) fun h' sb => ?_
      have k := out1x sb
      refine h _ (H.offs (t := s.toks) hoff k ?_) (.offs k)
      intro b hb o e
      simp at hb; subst hb
      rw [J] at e; cases e
      exact .of_cls rfl (by simp)
  self := fun i hp s H J _ Q E h => wpAny_pyIter_rangeiter J.1 h
theorem si_range {e tgt : Expr} {p pos : Pos} {x : Str} {W : WE} (hA : A.handled = none) (ht : ∀ it v, letOwnedTupleGo tgt it v = pure ()) (hn : SE X A F (.Name x p) (fun st P => P (.con (.type "range")) st)) (h1 : SE X A F e W)
    (hs : starEach [e] F.env = (false, eval e F.env) :: starEach [] F.env) :
    SI X A F (.Call (.Name x p) [e] [] pos) tgt (fun st P => W st fun v st1 => ∃ n, v = .int n ∧ 0 ≤ n ∧ n < 2 ^ 62 ∧ P (rangeSrc n) st1) := by
  intro st s r P hP Q E h
  refine Call_ (hn st s r (fun v st1 => v = .con (.type "range") ∧ st1 = st) ⟨rfl, rfl⟩ _ _ fun v st0 rv s0 r0 ev0 hv0 hp0 => ?_)
  obtain ⟨rfl, rfl⟩ := hp0
  have := hv0.unCon
  subst this
  refine PyProof.Rows.callWith_type1 (args_cons (h1 st0 s0 r0 _ hP _ _ fun v st1 rv s1 r1 ev1 hv1 hp1 => args_nil ?_) hs) hs
  obtain ⟨n, rfl, hn0, hn1, hp1⟩ := hp1
  obtain ⟨t, rfl⟩ := hv1.unInt
  refine call_range_1 (wpAny_pyIter_range (Heap.get?_push_size _ rfl) (small_one (by decide) (by decide) (by omega) (by omega)) ?_)
  have hsz : Builtin.Range.rangeSize 0 n 1 = n := by
    unfold Builtin.Range.rangeSize
    simp only [show (1 : Int) > 0 from by decide, if_true]
    split
    · omega
    · omega
  rw [hsz]
  let h2 := s1.heap.push { cls := .type "range", data := .fields #[.int 0 s1.toks, .int n t, .int 1 (s1.toks + 1)] }
  have kk : ∀ b o, s1.heap.get? b = some o → (h2.push { cls := .type "range_iterator", data := .fields #[rawInt 0, rawInt n, rawInt 1] }).get? b = some o := fun b o e => Heap.get?_push_of_some _ (Heap.get?_push_of_some _ e)
  have e1 : Ev [] [] st1.hp s1 st1.hp { s1 with heap := h2.push { cls := .type "range_iterator", data := .fields #[rawInt 0, rawInt n, rawInt 1] }, toks := s1.toks + 1 + 1 } := .keeps kk ⟨_, _, rfl⟩
  have hsz2 : h2.objs.size = s1.heap.objs.size + 1 := Heap.size_push ..
  have hnone : s1.heap.get? h2.objs.size = none := by
    cases q : s1.heap.get? h2.objs.size with
    | none => rfl
    | some o => exact absurd (Heap.lt_size q) (by rw [hsz2]; exact Nat.not_lt.mpr (Nat.le_succ _))
  refine h (rangeSrc n) st1 _ _ [h2.objs.size] [h2.objs.size] _ (r1.ev e1 (r1.H.keeps kk)) ((ev0.trans ev1).trans e1.weaken) (itr_range hA ht hn0) ⟨?_, hn0⟩ (fun b hb => ?_) (fun b hb => ?_) hp1
  · have e0 : n - ((0 : Nat) : Int) = n := by omega
    show Heap.get? _ _ = _
    rw [e0]
    exact Heap.get?_push_size (h := h2) (o := { cls := .type "range_iterator", data := .fields #[rawInt 0, rawInt n, rawInt 1] }) rfl
  · simp at hb; subst hb; exact r1.off hnone
  · simp at hb; subst hb; exact newer (ev0.trans ev1) hnone
end
end Mine
end

noncomputable section
open PySem PySem.W PyProof.Rows
namespace Mine

theorem get_rel {h : Heap} {kvs : List (Int × V)} {rk : List (Int × Value)} {i : Nat} {k : Int} {v : V} (hk : rk.map (·.1) = kvs.map (·.1)) (hv : VRs h (kvs.map (·.2)) (rk.map (·.2))) (e : kvs[i]? = some (k, v)) : ∃ rv, rk[i]? = some (k, rv) ∧ VR h v rv := by
  have e1 : (kvs.map (·.2))[i]? = some v := by rw [List.getElem?_map, e]; rfl
  obtain ⟨rv, e2, e3⟩ := hv.get e1
  have e4 : (rk.map (·.1))[i]? = some k := by rw [hk, List.getElem?_map, e]; rfl
  rw [List.getElem?_map] at e2 e4
  cases q : rk[i]? with
  | none => rw [q] at e2; cases e2
  | some p =>
    rw [q] at e2 e4
    simp only [Option.map_some, Option.some.injEq] at e2 e4
    exact ⟨rv, by rw [← e2, ← e4], e3⟩
theorem len_rel {kvs : List (Int × V)} {rk : List (Int × Value)} (hk : rk.map (·.1) = kvs.map (·.1)) : rk.length = kvs.length := by have := congrArg List.length hk; simpa using this
theorem intKey {X : Cx} {k : Int} {key : Value} (e : (intKind X.prog X.w).is k key = true) : ∃ t, key = .int k t := by
  cases key <;> simp [intKind, Value.isInt] at e
  subst e; exact ⟨_, rfl⟩

section
variable {X : Cx} {A : Around} {F : Fx}

noncomputable def keysSrc (d : Addr) (n ep : Nat) : Src := { nx := fun i hp r => ∃ kvs, hp d = some (.dict kvs ep) ∧ kvs.length = n ∧ r = (kvs[i]?).map fun p => .int p.1 }
theorem keyNot {h : Heap} {it d : Addr} {i n ep : Nat} (x : h.IsKeyIter it d i n ep) : ∀ b ∈ [it], ∀ o, h.get? b = some o → NotTup o := by
  intro b hb o e
  obtain ⟨o', e', c, _⟩ := x
  simp at hb; subst hb
  rw [e] at e'; cases e'
  exact .of_cls c (by simp)
theorem itr_keys {tgt : Expr} {it d : Addr} {n ep : Nat} (hA : A.handled = none) : Itr X A tgt (.ref it) (keysSrc d n ep) [it] [it] (fun i h => h.IsKeyIter it d i n ep) where
  sub := fun _ h => h
  frame := fun i h h' J k _ => by obtain ⟨o, e, c⟩ := J; exact ⟨o, k it (by simp) _ e, c⟩
  alive := fun i h J b hb => by simp at hb; subst hb; obtain ⟨o, e, _⟩ := J; exact ⟨o, e⟩
  notTup := fun i h J => keyNot J
  item := by
    rintro i hp s v H J hoff ⟨kvs, hx, hn, hv⟩ K0 Q E h
    obtain ⟨rk, p1, hk, q1⟩ := H.own _ _ hx
    cases q : kvs[i]? with
    | none => rw [q] at hv; cases hv
    | some p =>
      obtain ⟨k, u⟩ := p
      rw [q] at hv
      simp only [Option.map_some, Option.some.injEq] at hv
      subst hv
      obtain ⟨rv, e1, e2⟩ := get_rel hk q1 q
      rw [← hn, ← len_rel hk] at J
      refine wpAny_pyNext_dict_item J p1 e1 fun key h' hkey J' sb => ?_
      obtain ⟨t, rfl⟩ := intKey hkey
      have kk := out1 sb
      rw [len_rel hk, hn] at J'
      exact letGo_keyiter J' (h _ _ (H.offs (t := s.toks) hoff kk (keyNot J)) (.offs kk fun c hc => by simp at hc; subst hc; obtain ⟨o, e, _⟩ := J'; exact ⟨o, e⟩) (.mkInt _ _ _) J')
  done := by
    rintro i hp s H J hoff ⟨kvs, hx, hn, hv⟩ K0 G E h
    obtain ⟨rk, p1, hk, q1⟩ := H.own _ _ hx
    rw [← hn, ← len_rel hk] at J
    have hnn : rk[i]? = none := by
      rw [List.getElem?_eq_none_iff, len_rel hk]
      have := congrArg Option.isNone hv
      simp at this
      exact this
    refine wpAny_pyNext_dict_end hA J p1 hnn fun h' sb => ?_
    have k := out1x sb
    exact h _ (H.offs (t := s.toks) hoff k (keyNot J)) (.offs k)
  self := fun i hp s H J _ Q E h => by
    obtain ⟨o, e, c, dd⟩ := id J
    have hT : s.TypeIs (.ref it) "dict_keyiterator" := ⟨o, e, c⟩
    refine wpAny_pyIter_slot hT PySem.F.slot_dict_keyiterator_iter (wpAny_call_entry PySem.F.slot_dict_keyiterator_iter hT PySem.F.entry_dict_keyiterator_iter ?_ (PySem.F.args_dict_keyiterator_iter_1 _))
    show wpAny _ _ (ret (.ref it)) _ _ s
    exact wpAny_pure ⟨_, rfl, "dict_keyiterator", _, hT, PySem.F.slot_dict_keyiterator_next.lookup, h⟩
theorem si_keys {e tgt : Expr} {W : WE} (C : COk X) (hA : A.handled = none) (he : SE X A F e W) : SI X A F e tgt (fun st P => W st fun v st1 => ∃ d kvs ep, v = .ref d ∧ st1.hp d = some (.dict kvs ep) ∧ P (keysSrc d kvs.length ep) st1) := by
  intro st s r P hP Q E h
  refine he st s r _ hP _ _ fun v st1 rv s1 r1 ev1 hv hp1 => ?_
  obtain ⟨a, kvs, ep, rfl, hx, hp1⟩ := hp1
  have := hv.unRef; subst this
  obtain ⟨rk, p1, hk, q1⟩ := r1.H.own _ _ hx
  refine wpAny_pyIter_dict (r1.H.notMods C hx) p1 ?_
  rw [len_rel hk]
  have e1 : Ev [] [] st1.hp s1 st1.hp { s1 with heap := s1.heap.push { cls := .type "dict_keyiterator", data := .fields #[.ref a, .int 0 0, .int kvs.length 0, .int ep 0] } } := .push _
  refine h (keysSrc a kvs.length ep) st1 _ _ [s1.heap.objs.size] [s1.heap.objs.size] _ (r1.ev e1 (r1.H.push _)) (ev1.trans e1.weaken) (itr_keys hA) ⟨_, Heap.get?_push_size _ rfl, rfl, rfl⟩ (fun b hb => ?_) (fun b hb => ?_) hp1
  · simp at hb; subst hb; exact r1.off get_size
  · simp at hb; subst hb; exact newer ev1 get_size

noncomputable def valuesSrc (d : Addr) (n ep : Nat) : Src := { nx := fun i hp r => ∃ kvs, hp d = some (.dict kvs ep) ∧ kvs.length = n ∧ r = (kvs[i]?).map fun p => p.2 }
theorem valNot {h : Heap} {it d : Addr} {i n ep : Nat} (x : h.IsValIter it d i n ep) : ∀ b ∈ [it], ∀ o, h.get? b = some o → NotTup o := by
  intro b hb o e
  obtain ⟨o', e', c, _⟩ := x
  simp at hb; subst hb
  rw [e] at e'; cases e'
  exact .of_cls c (by simp)
theorem itr_values {tgt : Expr} {it d : Addr} {n ep : Nat} (hA : A.handled = none) : Itr X A tgt (.ref it) (valuesSrc d n ep) [it] [it] (fun i h => h.IsValIter it d i n ep) where
  sub := fun _ h => h
  frame := fun i h h' J k _ => by obtain ⟨o, e, c⟩ := J; exact ⟨o, k it (by simp) _ e, c⟩
  alive := fun i h J b hb => by simp at hb; subst hb; obtain ⟨o, e, _⟩ := J; exact ⟨o, e⟩
  notTup := fun i h J => valNot J
  item := by
    rintro i hp s v H J hoff ⟨kvs, hx, hn, hv⟩ K0 Q E h
    obtain ⟨rk, p1, hk, q1⟩ := H.own _ _ hx
    cases q : kvs[i]? with
    | none => rw [q] at hv; cases hv
    | some p =>
      obtain ⟨k, u⟩ := p
      rw [q] at hv
      simp only [Option.map_some, Option.some.injEq] at hv
      subst hv
      obtain ⟨rv, e1, e2⟩ := get_rel hk q1 q
      rw [← hn, ← len_rel hk] at J
      refine wpAny_pyNext_values_item J p1 e1 fun h' J' sb => ?_
      have kk := out1 sb
      have tk : TK s.heap h' := tkOf (X := X) (hp := hp) kk (valNot J)
      rw [len_rel hk, hn] at J'
      exact letGo_valiter J' (h _ _ (H.offs (t := s.toks) hoff kk (valNot J)) (.offs kk fun c hc => by simp at hc; subst hc; obtain ⟨o, e, _⟩ := J'; exact ⟨o, e⟩) (e2.mono tk) J')
  done := by
    rintro i hp s H J hoff ⟨kvs, hx, hn, hv⟩ K0 G E h
    obtain ⟨rk, p1, hk, q1⟩ := H.own _ _ hx
    rw [← hn, ← len_rel hk] at J
    have hnn : rk[i]? = none := by
      rw [List.getElem?_eq_none_iff, len_rel hk]
      have := congrArg Option.isNone hv
      simp at this
      exact this
    refine wpAny_pyNext_values_end hA J p1 hnn fun h' sb => ?_
    have k := out1x sb
    exact h _ (H.offs (t := s.toks) hoff k (valNot J)) (.offs k)
  self := fun i hp s H J _ Q E h => wpAny_pyIter_valiter J h

theorem dict_values_none {pos : Pos} {d : Addr} {rk : List (Int × Value)} {Q : Value → Shared → Prop} {E : Value → Shared → Prop} {s : Shared} (hd : (d == sysModules) = false) (hm : s.heap.DictOf (intKind X.prog X.w) d rk)
    (h : Q (.ref s.heap.objs.size) { s with heap := s.heap.push { cls := .type "dict_values", data := .fields #[.ref d] } }) : wpAny (MM X) A (callWith pos (.builtin "dict.values") [.ref d] [] []) Q E s :=
  method_meetsIn PySem.F.slot_dict_values PySem.F.entry_dict_values rfl (PySem.evalArgs_none ⟨rfl, hm.typeIs, PySem.F.args_dict_values_1 _, _, meets_dict_values (intKind X.prog X.w) d hd, ⟨rk, hm⟩, h⟩)
theorem si_values {o tgt : Expr} {apos pos : Pos} {W : WE} (C : COk X) (hA : A.handled = none) (he : SE X A F o W) (hf : MForm F o "values" apos pos [] []) :
    SI X A F (.Call (.Attribute o "values" apos) [] [] pos) tgt (fun st P => W st fun v st1 => ∃ d kvs ep, v = .ref d ∧ st1.hp d = some (.dict kvs ep) ∧ P (valuesSrc d kvs.length ep) st1) := by
  intro st s r P hP Q E h
  refine wpAny_Call_method_late hf.base hf.few hf.line hf.trees (he st s r _ hP _ _ fun v st1 rv s1 r1 ev1 hv hp1 => ?_)
  obtain ⟨a, kvs, ep, rfl, hx, hp1⟩ := hp1
  have := hv.unRef; subst this
  obtain ⟨hT, hd⟩ := dictMeth r1.H hx
  obtain ⟨rk, p1, hk, q1⟩ := r1.H.own _ _ hx
  refine ⟨"dict", "dict.values", PySem.F.plainAttrs_dict, PySem.F.slot_dict_values, PySem.F.type_dict_values, hT, hd, dict_values_none (r1.H.notMods C hx) p1.dictOf ?_⟩
  let h2 := s1.heap.push { cls := .type "dict_values", data := .fields #[.ref a] }
  refine wpAny_pyIter_values ⟨_, Heap.get?_push_size _ rfl, rfl, rfl⟩ (p1.push _) ?_
  rw [len_rel hk]
  have kk : ∀ b o, s1.heap.get? b = some o → (h2.push { cls := .type "dict_valueiterator", data := .fields #[.ref a, .int 0 0, .int kvs.length 0, .int ep 0] }).get? b = some o := fun b o e => Heap.get?_push_of_some _ (Heap.get?_push_of_some _ e)
  have e1 : Ev [] [] st1.hp s1 st1.hp { s1 with heap := h2.push { cls := .type "dict_valueiterator", data := .fields #[.ref a, .int 0 0, .int kvs.length 0, .int ep 0] } } := .keeps kk ⟨_, s1.toks, rfl⟩
  have hsz2 : h2.objs.size = s1.heap.objs.size + 1 := Heap.size_push ..
  have hnone : s1.heap.get? h2.objs.size = none := by
    cases q : s1.heap.get? h2.objs.size with
    | none => rfl
    | some o => exact absurd (Heap.lt_size q) (by rw [hsz2]; exact Nat.not_lt.mpr (Nat.le_succ _))
  refine h (valuesSrc a kvs.length ep) st1 _ _ [h2.objs.size] [h2.objs.size] _ (r1.ev e1 (r1.H.keeps kk)) (ev1.trans e1.weaken) (itr_values hA) ⟨_, Heap.get?_push_size _ rfl, rfl, rfl⟩ (fun b hb => ?_) (fun b hb => ?_) hp1
  · simp at hb; subst hb; exact r1.off hnone
  · simp at hb; subst hb; exact newer ev1 hnone

noncomputable def itemsSrc (d : Addr) (n ep : Nat) : Src := { nx := fun i hp r => ∃ kvs, hp d = some (.dict kvs ep) ∧ kvs.length = n ∧ r = (kvs[i]?).map fun p => .tup [.int p.1, p.2] }
theorem itemNot {h : Heap} {it d : Addr} {i n ep : Nat} {ok ov : Value} (x : IsItemIter h it d i n ep ok ov) : ∀ b ∈ [it], ∀ o, h.get? b = some o → NotTup o := by
  intro b hb o e
  simp at hb; subst hb
  rw [x] at e; cases e
  exact .of_cls rfl (by simp)
theorem itr_items {elts : List Expr} {x1} {tp : Pos} {it d : Addr} {n ep : Nat} (hA : A.handled = none) : Itr X A (.Tuple elts x1 tp) (.ref it) (itemsSrc d n ep) [it] [it] (fun i h => ∃ ok ov, IsItemIter h it d i n ep ok ov) where
  sub := fun _ h => h
  frame := fun i h h' J k _ => by obtain ⟨ok, ov, e⟩ := J; exact ⟨ok, ov, k it (by simp) _ e⟩
  alive := fun i h J b hb => by simp at hb; subst hb; obtain ⟨ok, ov, e⟩ := J; exact ⟨_, e⟩
  notTup := fun i h J => by obtain ⟨ok, ov, e⟩ := J; exact itemNot e
  item := by
    rintro i hp s v H ⟨ok, ov, J⟩ hoff ⟨kvs, hx, hn, hv⟩ K0 Q E h
    obtain ⟨rk, p1, hk, q1⟩ := H.own _ _ hx
    cases q : kvs[i]? with
    | none => rw [q] at hv; cases hv
    | some p =>
      obtain ⟨k, u⟩ := p
      rw [q] at hv
      simp only [Option.map_some, Option.some.injEq] at hv
      subst hv
      obtain ⟨rv, e1, e2⟩ := get_rel hk q1 q
      rw [← hn, ← len_rel hk] at J
      refine wpAny_pyNext_items_item J p1 e1 fun key h' hkey J' ht hsz hkeep => ?_
      obtain ⟨t, rfl⟩ := intKey hkey
      refine wpAny_letOwnedTupleGo_items J' fun h'' J'' sb => ?_
      have hne : s.heap.objs.size ≠ it := fun e => by
        have := Heap.lt_size J
        exact absurd this (by rw [e]; exact Nat.lt_irrefl _)
      have ht2 : IsT h'' s.heap.objs.size #[.int k t, rv] 0 := (sb.2 _ hne).trans ht
      have kk : ∀ c o, c ∉ [it] → s.heap.get? c = some o → h''.get? c = some o := fun c o n e => by
        have hc : c ≠ it := fun q => n (by simp [q])
        exact (sb.2 c hc).trans (hkeep c o hc e)
      have tk : TK s.heap h'' := tkOf (X := X) (hp := hp) kk (itemNot J)
      rw [len_rel hk, hn] at J''
      exact h _ _ (H.offs (t := s.toks) hoff kk (itemNot J)) (.offs kk fun c hc => by simp at hc; subst hc; exact ⟨_, J''⟩) (.mkTup ht2 (VRs.cons (.mkInt _ _ _) (VRs.one (e2.mono tk)))) ⟨_, _, J''⟩
  done := by
    rintro i hp s H ⟨ok, ov, J⟩ hoff ⟨kvs, hx, hn, hv⟩ K0 G E h
    obtain ⟨rk, p1, hk, q1⟩ := H.own _ _ hx
    rw [← hn, ← len_rel hk] at J
    have hnn : rk[i]? = none := by
      rw [List.getElem?_eq_none_iff, len_rel hk]
      have := congrArg Option.isNone hv
      simp at this
      exact this
    refine wpAny_pyNext_items_end hA J p1 hnn fun h' sb => ?_
    have k := out1x sb
    exact h _ (H.offs (t := s.toks) hoff k (itemNot J)) (.offs k)
  self := fun i hp s H J _ Q E h => by
    obtain ⟨ok, ov, e⟩ := id J
    have hT : s.TypeIs (.ref it) "dict_itemiterator" := ⟨_, e, rfl⟩
    refine wpAny_pyIter_slot hT PySem.F.slot_dict_itemiterator_iter (wpAny_call_entry PySem.F.slot_dict_itemiterator_iter hT kcp_entry ?_ (PySem.F.args_dict_itemiterator_iter_1 _))
    show wpAny _ _ (ret (.ref it)) _ _ s
    exact wpAny_pure ⟨_, rfl, "dict_itemiterator", _, hT, PySem.F.slot_dict_itemiterator_next.lookup, h⟩
theorem dict_items_none {pos : Pos} {d : Addr} {rk : List (Int × Value)} {Q : Value → Shared → Prop} {E : Value → Shared → Prop} {s : Shared} (hd : (d == sysModules) = false) (hm : s.heap.DictOf (intKind X.prog X.w) d rk)
    (h : Q (.ref s.heap.objs.size) { s with heap := s.heap.push { cls := .type "dict_items", data := .fields #[.ref d] } }) : wpAny (MM X) A (callWith pos (.builtin "dict.items") [.ref d] [] []) Q E s :=
  method_meetsIn PySem.F.slot_dict_items PySem.F.entry_dict_items rfl (PySem.evalArgs_none ⟨rfl, hm.typeIs, PySem.F.args_dict_items_1 _, _, meets_dict_items (intKind X.prog X.w) d hd, ⟨rk, hm⟩, h⟩)
theorem si_items {o : Expr} {elts : List Expr} {x1} {tp : Pos} {apos pos : Pos} {W : WE} (C : COk X) (hA : A.handled = none) (he : SE X A F o W) (hf : MForm F o "items" apos pos [] []) :
    SI X A F (.Call (.Attribute o "items" apos) [] [] pos) (.Tuple elts x1 tp) (fun st P => W st fun v st1 => ∃ d kvs ep, v = .ref d ∧ st1.hp d = some (.dict kvs ep) ∧ P (itemsSrc d kvs.length ep) st1) := by
  intro st s r P hP Q E h
  refine wpAny_Call_method_late hf.base hf.few hf.line hf.trees (he st s r _ hP _ _ fun v st1 rv s1 r1 ev1 hv hp1 => ?_)
  obtain ⟨a, kvs, ep, rfl, hx, hp1⟩ := hp1
  have := hv.unRef; subst this
  obtain ⟨hT, hd⟩ := dictMeth r1.H hx
  obtain ⟨rk, p1, hk, q1⟩ := r1.H.own _ _ hx
  refine ⟨"dict", "dict.items", PySem.F.plainAttrs_dict, PySem.F.slot_dict_items, PySem.F.type_dict_items, hT, hd, dict_items_none (r1.H.notMods C hx) p1.dictOf ?_⟩
  let h2 := s1.heap.push { cls := .type "dict_items", data := .fields #[.ref a] }
  refine wpAny_pyIter_items ⟨_, Heap.get?_push_size _ rfl, rfl, rfl⟩ (p1.push _) ?_
  rw [len_rel hk]
  have kk : ∀ b o, s1.heap.get? b = some o → (h2.push { cls := .type "dict_itemiterator", data := .fields #[.none, .bool false, .ref a, .int 0 0, .int kvs.length 0, .int ep 0, .none, .none] }).get? b = some o := fun b o e => Heap.get?_push_of_some _ (Heap.get?_push_of_some _ e)
  have e1 : Ev [] [] st1.hp s1 st1.hp { s1 with heap := h2.push { cls := .type "dict_itemiterator", data := .fields #[.none, .bool false, .ref a, .int 0 0, .int kvs.length 0, .int ep 0, .none, .none] } } := .keeps kk ⟨_, s1.toks, rfl⟩
  have hsz2 : h2.objs.size = s1.heap.objs.size + 1 := Heap.size_push ..
  have hnone : s1.heap.get? h2.objs.size = none := by
    cases q : s1.heap.get? h2.objs.size with
    | none => rfl
    | some o => exact absurd (Heap.lt_size q) (by rw [hsz2]; exact Nat.not_lt.mpr (Nat.le_succ _))
  refine h (itemsSrc a kvs.length ep) st1 _ _ [h2.objs.size] [h2.objs.size] _ (r1.ev e1 (r1.H.keeps kk)) (ev1.trans e1.weaken) (itr_items hA) ⟨.none, .none, Heap.get?_push_size _ rfl⟩ (fun b hb => ?_) (fun b hb => ?_) hp1
  · simp at hb; subst hb; exact r1.off hnone
  · simp at hb; subst hb; exact newer ev1 hnone

noncomputable def enumSrc (a : Addr) : Src := { nx := fun i hp r => ∃ xs, hp a = some (.list xs) ∧ r = (xs[i]?).map fun x => .tup [.int i, x] }
theorem enumNot {h : Heap} {e it a : Addr} {j : Int} {i : Nat} {old : Value} (y : IsEnum h e it j old) (x : h.IsListIter it a i) : ∀ b ∈ [e, it], ∀ o, h.get? b = some o → NotTup o := by
  intro b hb o q
  simp at hb
  rcases hb with rfl | rfl
  · rw [y] at q; cases q
    exact .of_cls rfl (by simp)
  · exact IsListIter.not x _ (by simp) o q
theorem itr_enum {elts : List Expr} {x1} {tp : Pos} {e it a : Addr} (hA : A.handled = none) (hne : e ≠ it) : Itr X A (.Tuple elts x1 tp) (.ref e) (enumSrc a) [e, it] [e, it] (fun i h => (∃ old, IsEnum h e it i old) ∧ h.IsListIter it a i) where
  sub := fun _ h => h
  frame := fun i h h' J k _ => by obtain ⟨⟨old, e1⟩, l⟩ := J; exact ⟨⟨old, k e (by simp) _ e1⟩, l.at (k it (by simp))⟩
  alive := fun i h J b hb => by
    obtain ⟨⟨old, e1⟩, o, l, _⟩ := J
    simp at hb
    rcases hb with rfl | rfl
    · exact ⟨_, e1⟩
    · exact ⟨_, l⟩
  notTup := fun i h J => by obtain ⟨⟨old, e1⟩, l⟩ := J; exact enumNot e1 l
  item := by
    rintro i hp s v H ⟨⟨old, J⟩, L⟩ hoff ⟨xs, hx, hv⟩ K0 Q E h
    obtain ⟨vs, p1, q1⟩ := H.own _ _ hx
    cases q : xs[i]? with
    | none => rw [q] at hv; cases hv
    | some p =>
      rw [q] at hv
      simp only [Option.map_some, Option.some.injEq] at hv
      subst hv
      obtain ⟨rv, e1, e2⟩ := q1.get q
      refine wpAny_pyNext_enum_item (x := rv) J L p1.isList (by simpa using e1) hne fun h' J' L' ht hsz hkeep => ?_
      refine wpAny_letOwnedTupleGo_enum J' fun h'' J'' sb => ?_
      have hz1 : s.heap.objs.size ≠ e := fun z => absurd (Heap.lt_size J) (by rw [z]; exact Nat.lt_irrefl _)
      have ht2 : IsT h'' s.heap.objs.size #[.int i s.toks, rv] 0 := (sb.2 _ hz1).trans ht
      have L'' : h''.IsListIter it a (i + 1) := L'.at fun o z => (sb.2 _ (Ne.symm hne)).trans z
      have kk : ∀ c o, c ∉ [e, it] → s.heap.get? c = some o → h''.get? c = some o := fun c o n z => by
        simp at n
        exact (sb.2 c n.1).trans (hkeep c o n.1 n.2 z)
      have tk : TK s.heap h'' := tkOf (X := X) (hp := hp) kk (enumNot J L)
      refine h _ _ (H.offs (t := s.toks + 1) hoff kk (enumNot J L)) (.offs kk fun c hc => ?_) (.mkTup (n := 0) ht2 (VRs.cons (.mkInt _ _ _) (VRs.one (e2.mono tk)))) ⟨⟨rv, ?_⟩, L''⟩
      · simp at hc
        rcases hc with rfl | rfl
        · exact ⟨_, J''⟩
        · obtain ⟨o, z, _⟩ := L''; exact ⟨o, z⟩
      · have e1 : ((i + 1 : Nat) : Int) = (i : Int) + 1 := by omega
        rw [e1]; exact J''
  done := by
    rintro i hp s H ⟨⟨old, J⟩, L⟩ hoff ⟨xs, hx, hv⟩ K0 G E h
    obtain ⟨vs, p1, q1⟩ := H.own _ _ hx
    have hnn : vs[i]? = none := by
      rw [List.getElem?_eq_none_iff, q1.length]
      have := congrArg Option.isNone hv
      simp at this
      exact this
    refine wpAny_pyNext_enum_end hA J L p1.isList (by simpa using hnn) fun h' sb => ?_
    have k : ∀ c o, c ∉ [e, it] → s.heap.get? c = some o → h'.get? c = some o := fun c o n z => by
      simp at n
      exact sb c o n.2 z
    exact h _ (H.offs (t := s.toks) hoff k (enumNot J L)) (.offs k)
  self := fun i hp s H J _ Q E h => by
    obtain ⟨⟨old, e1⟩, l⟩ := J
    exact wpAny_pyIter_enum e1 h
theorem si_enum {e : Expr} {x : Str} {elts : List Expr} {x1} {tp p pos : Pos} {W : WE} (hA : A.handled = none) (hn : SE X A F (.Name x p) (fun st P => P (.con (.type "enumerate")) st)) (h1 : SE X A F e W)
    (hs : starEach [e] F.env = (false, eval e F.env) :: starEach [] F.env) :
    SI X A F (.Call (.Name x p) [e] [] pos) (.Tuple elts x1 tp) (fun st P => W st fun v st1 => ∃ a xs, v = .ref a ∧ st1.hp a = some (.list xs) ∧ P (enumSrc a) st1) := by
  intro st s r P hP Q E h
  refine Call_ (hn st s r (fun v st1 => v = .con (.type "enumerate") ∧ st1 = st) ⟨rfl, rfl⟩ _ _ fun v st0 rv s0 r0 ev0 hv0 hp0 => ?_)
  obtain ⟨rfl, rfl⟩ := hp0
  have := hv0.unCon
  subst this
  refine PyProof.Rows.callWith_type1 (args_cons (h1 st0 s0 r0 _ hP _ _ fun v st1 rv s1 r1 ev1 hv1 hp1 => args_nil ?_) hs) hs
  obtain ⟨a, xs, rfl, hx, hp1⟩ := hp1
  have := hv1.unRef; subst this
  obtain ⟨vs, p1, q1⟩ := r1.H.own _ _ hx
  refine call_enumerate_list p1.isList fun h' J L hsz hkeep => wpAny_pyIter_enum J ?_
  have e1 : Ev [] [] st1.hp s1 st1.hp { s1 with heap := h' } := .keeps hkeep ⟨_, s1.toks, rfl⟩
  have none1 : ∀ b ∈ [s1.heap.objs.size + 1, s1.heap.objs.size], s1.heap.get? b = none := by
    intro b hb
    simp at hb
    rcases hb with rfl | rfl
    · cases q : s1.heap.get? (s1.heap.objs.size + 1) with
      | none => rfl
      | some o => exact absurd (Heap.lt_size q) (Nat.not_lt.mpr (Nat.le_succ _))
    · exact get_size
  exact h (enumSrc a) st1 _ _ [s1.heap.objs.size + 1, s1.heap.objs.size] [s1.heap.objs.size + 1, s1.heap.objs.size] _ (r1.ev e1 (r1.H.keeps hkeep)) ((ev0.trans ev1).trans e1.weaken) (itr_enum hA (Nat.succ_ne_self _)) ⟨⟨.none, J⟩, L⟩
    (fun b hb => r1.off (none1 b hb)) (fun b hb => newer (ev0.trans ev1) (none1 b hb)) hp1
end
end Mine
end

noncomputable section
open PySem PySem.W PyProof.Rows
namespace Mine

theorem EvX.trans {wr fr : List Addr} {hp hp' hp'' : Hp} {s s' s'' : Shared} (x : EvX wr fr hp s hp' s') (y : EvX wr fr hp' s' hp'' s'') : EvX wr fr hp s hp'' s'' := by
  refine ⟨fun b o w q e n => y.keep b o w q (x.keep b o w q e n) (x.sub b o w e n), fun b o w q e n => ?_, fun b o w e n => ?_, fun b o w e => ?_, ?_⟩
  · obtain ⟨sl, e1⟩ := x.slots b o w q e n
    obtain ⟨sl', e2⟩ := y.slots b _ w q e1 (x.sub b o w e n)
    exact ⟨sl', e2⟩
  · obtain ⟨o', e'⟩ := x.alive b o w e
    exact y.sub b o' w e' (x.sub b o w e n)
  · obtain ⟨o', e'⟩ := x.alive b o w e
    exact y.alive b o' w e'
  · obtain ⟨h1, t1, rfl⟩ := x.rest
    obtain ⟨h2, t2, rfl⟩ := y.rest
    exact ⟨h2, t2, rfl⟩
theorem EvX.mono {wr wr' fr : List Addr} {hp hp' : Hp} {s s' : Shared} (x : EvX wr fr hp s hp' s') (h : ∀ b ∈ wr, b ∈ wr') : EvX wr' fr hp s hp' s' :=
  ⟨fun b o w q e n => x.keep b o (fun z => w (h b z)) q e n, fun b o w q e n => x.slots b o (fun z => w (h b z)) q e n, fun b o w e n => x.sub b o (fun q => w (h b q)) e n, fun b o w e => x.alive b o (fun q => w (h b q)) e, x.rest⟩
theorem EvX.refl {wr fr : List Addr} {hp : Hp} {s : Shared} : EvX wr fr hp s hp s := ⟨fun _ _ _ _ e _ => e, fun _ o _ _ e _ => ⟨o.slots, e⟩, fun _ _ _ _ e => e, fun _ _ _ e => ⟨_, e⟩, ⟨s.heap, s.toks, rfl⟩⟩

noncomputable def isCF : Option NameKind → Bool
  | some .cell => true
  | some .free => true
  | _ => false
noncomputable def cmpFx (F : Fx) (scope : Scope) (cl : List (Str × Addr)) (nm : List Str) (C : Addr) : Fx := ⟨compEnvC scope cl C F.env, nm, [C], F.fr⟩
structure CompOk (F : Fx) (scope : Scope) (cl : List (Str × Addr)) (nm : List Str) (mp : List (Option Nat)) : Prop where
  clos : closureFor scope F.env = pure cl
  kind : scope.kind = .function
  cell : ∀ y ∈ scope.names, y.2 ≠ .cell
  names : ∀ y ∈ scope.names, y.2 = .local → scope.names.lookup y.1 = some .local
  sub : ∀ p ∈ cl, F.env.cells.lookup p.1 = some p.2
  nodup : nm.Nodup
  map : ∀ (i j : Nat), mp[i]? = some (some j) → ∃ x, nm[i]? = some x ∧ F.nm[j]? = some x ∧ (cl.lookup x).isSome = true ∧ isCF ((relabel scope F.env).names.lookup x) = true ∧ isCF (F.env.kindOf x) = true

noncomputable def loC (mp : List (Option Nat)) (lo : Nat → Option V) : Nat → Option V := fun i => match mp[i]? with
  | some (some j) => lo j
  | _ => none

section
variable {X : Cx} {A : Around} {F : Fx}

theorem CompOk.lk {scope : Scope} {cl : List (Str × Addr)} {nm : List Str} {mp : List (Option Nat)} (K : CompOk F scope cl nm mp) {x : Str} {c : Addr} (h : cl.lookup x = some c) : F.env.cells.lookup x = some c := K.sub (x, c) (mem_of_lookup h)

theorem varCF {env : Env} {h : Heap} {x : Str} {rv : Value} (k : isCF (env.kindOf x) = true) (v : VarAt env h x rv) : ∃ c, env.cells.lookup x = some c ∧ h.IsCell c (some rv) := by
  unfold VarAt at v
  split at v
  · rename_i e; rw [e] at k; cases k
  · exact v
  · exact v
  · exact v.elim
theorem varCF' {env : Env} {h : Heap} {x : Str} {rv : Value} (k : isCF (env.kindOf x) = true) (v : ∃ c, env.cells.lookup x = some c ∧ h.IsCell c (some rv)) : VarAt env h x rv := by
  unfold VarAt
  split
  · rename_i e; rw [e] at k; cases k
  · exact v
  · exact v
  · rename_i a b c
    unfold isCF at k
    split at k
    · exact absurd (by assumption) b
    · exact absurd (by assumption) c
    · cases k

theorem R.enterC {scope : Scope} {cl : List (Str × Addr)} {nm : List Str} {mp : List (Option Nat)} {st : St} {s s' : Shared} {C : Addr} (K : CompOk F scope cl nm mp) (r : R X F st s)
    (keep : ∀ b o, s.heap.get? b = some o → s'.heap.get? b = some o) (rest : ∃ h' tk, s' = { s with heap := h', toks := tk }) (hC : s.heap.get? C = none) (hn : ∃ m, s'.heap.Ns C m) :
    R X (cmpFx F scope cl nm C) ⟨loC mp st.lo, st.hp⟩ s' := by
  have ev : Ev [] [] st.hp s st.hp s' := .keeps keep rest
  have r' := r.ev ev (r.H.keeps keep)
  have off := r.off hC
  refine ⟨⟨K.kind, r.ok.glob, r.ok.blt, K.nodup, by simp [cmpFx, compEnvC], fun x y c h1 h2 => r.ok.apart x y c (K.lk h1) (K.lk h2), fun x c h => off.cell x c (K.lk h)⟩, r'.H, ⟨hn, fun i x v hi hv => ?_, fun x c h => r'.L.cell x c (K.lk h), fun b hb => ?_⟩, r'.fr⟩
  · simp only [loC] at hv
    cases e : mp[i]? with
    | none => rw [e] at hv; cases hv
    | some q =>
      cases q with
      | none => rw [e] at hv; cases hv
      | some j =>
        rw [e] at hv
        obtain ⟨y, h1, h2, h3, h4, h5⟩ := K.map i j e
        have hi' : nm[i]? = some x := hi
        rw [h1] at hi'; cases hi'
        obtain ⟨rv, a, b⟩ := r'.L.var j x v h2 hv
        obtain ⟨c, hc, hcell⟩ := varCF h5 a
        obtain ⟨c', hc'⟩ := Option.isSome_iff_exists.mp h3
        have := K.lk hc'
        rw [hc] at this; cases this
        exact ⟨rv, varCF' h4 ⟨c, hc', hcell⟩, b⟩
  · have : b = C := by simpa [cmpFx] using hb
    subst this
    obtain ⟨m, hm⟩ := hn
    exact ⟨off.own, off.base, ns_not hm⟩

noncomputable def STst (X : Cx) (A : Around) (F : Fx) (ifs : List Expr) (W : WB) : Prop := ∀ st s, R X F st s → ∀ P, W st P → ∀ (Q : Bool → Shared → Prop) (E : Value → Shared → Prop),
  (∀ b st' s', R X F st' s' → Ev F.pv F.fr st.hp s st'.hp s' → P b st' → Q b s') →
    wpAny (MM X) A (forIn ifs true fun c r => if r = true then do let ok ← isTrue c F.env (eval c F.env); pure (ForInStep.yield ok) else pure (ForInStep.yield r)) Q E s
theorem tst_nil : STst X A F [] (fun st P => P true st) := fun st s r P hP Q E h => wpAny_tests_nil (h true st s r .refl hP)
theorem tst_one {c : Expr} {W : WB} (h1 : SB X A F c W) : STst X A F [c] W := fun st s r P hP Q E h => wpAny_tests_one (h1 st s r P hP Q E h)

noncomputable def SAdd (X : Cx) (A : Around) (F : Fx) (body : Addr → Sem Unit) (W : O → St → (O → St → Prop) → Prop) : Prop := ∀ D st s acc, R X F st s → OAt X s.heap D acc → Off X F st.hp D → ∀ P, W acc st P → ∀ (Q : Unit → Shared → Prop) (E : Value → Shared → Prop),
  (∀ acc' st' s', R X F st' s' → EvX (D :: F.pv) F.fr st.hp s st'.hp s' → OAt X s'.heap D acc' → Off X F st'.hp D → P acc' st' → Q () s') → wpAny (MM X) A (body D) Q E s

noncomputable def listAdd (elt : Expr) (env : Env) (D : Addr) : Sem Unit := do let _ ← call (.builtin "list.append") [.ref D, ← eval elt env]
theorem add_list' {elt : Expr} {W : WE} (h1 : SE X A F elt W) : SAdd X A F (listAdd elt F.env) (fun o st P => ∃ xs, o = .list xs ∧ xs.length < 1000000 ∧ W st fun v st' => P (.list (xs ++ [v])) st') := by
  rintro D st s acc r ho off P ⟨xs, rfl, hl, hP⟩ Q E h
  unfold listAdd
  obtain ⟨ob0, e0, nt0⟩ := ho.alive
  refine wpAny_bind (h1 st s r _ hP _ _ fun v st1 rv s1 r1 ev1 hv hp1 => ?_)
  have ho1 : OAt X s1.heap D (.list xs) := ho.keep (fun ob e => ev1.keep D ob e off.own off.pv off.fr) (r.tk ev1)
  have own1 : st1.hp D = none := ev1.sub D ob0 e0 off.own
  have off1 : Off X F st1.hp D := ⟨off.pv, off.cell, own1, off.base, off.fr⟩
  obtain ⟨vs, hpl, hvs⟩ := ho1
  have sl := sizeLine_ge
  have hlen := hvs.length
  have nt1 : ∀ b ∈ [D], ∀ o, s1.heap.get? b = some o → NotTup o := by
    intro b hb o e
    simp at hb; subst hb
    obtain ⟨n, g⟩ := hpl
    rw [g] at e; cases e
    exact .of_cls rfl (by simp)
  refine wpAny_bind (wpAny_list_append_plain hpl (fun h' hpl' sb => ?_) (by rw [List.size_toArray]; omega))
  have k := out1 sb
  have hw : ∀ b ∈ [D], st1.hp b = none ∧ X.h₀.get? b = none := fun b hb => by simp at hb; subst hb; exact ⟨own1, off.base⟩
  have H2 : RH X st1.hp { s1 with heap := h' } := r1.H.offs (t := s1.toks) hw k nt1
  have x2 : EvX [D] F.fr st1.hp s1 st1.hp { s1 with heap := h' } := (EvX.offs (t := s1.toks) k).wfr
  have tk2 : TK s1.heap h' := x2.tk r1.H nt1 r1.fr.not
  have r2 : R X F st1 { s1 with heap := h' } := r1.evX H2 x2 nt1 fun b hb => by simp at hb; subst hb; exact off1
  refine wpAny_pure (h (.list (xs ++ [v])) st1 _ r2 ((ev1.toX.mono fun b hb => by simp [hb]).trans (x2.mono fun b hb => by simp at hb; simp [hb])) ⟨vs ++ [rv], ?_, (hvs.append (VRs.one hv)).mono tk2⟩ off1 hp1)
  have e2 : vs.toArray.push rv = (vs ++ [rv]).toArray := by simp
  rw [← e2]; exact hpl'

end
end Mine
end

noncomputable section
open PySem PySem.W PyProof.Rows
namespace Mine

noncomputable def turnOf (e tgt iter : Expr) (ifs : List Expr) (body : Env → Addr → Sem Unit) (it : Value) (D : Addr) (env : Env) : Sem Fin := do
  standAt iter.pos
  match ← pyNext it with
  | none => pure (.done .next)
  | some v =>
    letOwnedTupleGo tgt it v
    assign tgt env v
    let mut ok := true
    for c in ifs do
      if ok then ok ← isTrue c env (eval c env)
    if ok then body env D
    again (.compLoop e 0 it (.ref D) env)
abbrev WAdd := O → St → (O → St → Prop) → Prop
noncomputable def compW (mp : List (Option Nat)) (o0 : O) (Wi : WI) (Wt : WT) (Wc : WB) (Wa : WAdd) : WE := fun st P => Wi st fun src st1 => ∃ (N : Nat) (I : Nat → O → St → Prop), I 0 o0 ⟨loC mp st1.lo, st1.hp⟩ ∧ ∀ i acc st2, I i acc st2 →
  (∃ v, src.nx i st2.hp (some v) ∧ i < N ∧ Wt v ⟨st2.lo, src.adv i st2.hp⟩ fun st3 => Wc st3 fun ok st4 => if ok then Wa acc st4 fun acc' st5 => I (i + 1) acc' st5 else I (i + 1) acc st4) ∨
  (src.nx i st2.hp none ∧ ∀ D, src.fin i st2.hp D = none → P (.ref D) ⟨st1.lo, (src.fin i st2.hp).set D acc⟩)

section
variable {X : Cx} {A : Around} {F : Fx}

theorem comp_loop {e tgt iter : Expr} {ifs : List Expr} {body : Env → Addr → Sem Unit} {it : Value} {C D : Addr} {F' : Fx} (hF' : F'.pv = [C]) (hL' : F'.env.locals = C) {Wt : WT} {Wc : WB} {Wa : WAdd} {src : Src} {fp wr : List Addr} {J : Nat → Heap → Prop} {R0 : Result → Shared → Prop} {s : Shared} {st1 : St} {o0 : O} {N : Nat} {I : Nat → O → St → Prop} {Fin : O → Hp → Prop}
    (hq : (Code.compLoop e 0 it (.ref D) F'.env).quiet = true)
    (hund : A.under (.compLoop e 0 it (.ref D) F'.env) = A)
    (hden : (MM X).den (.compLoop e 0 it (.ref D) F'.env) = (compTurn e 0 it (.ref D) F'.env).onRaise (fun x => do noteFrame x F'.env; theTreesLotGoes x))
    (hturn : ∀ it D env, compTurn e 0 it (.ref D) env = turnOf e tgt iter ifs body it D env)
    (IT : Itr X A tgt it src fp wr J) (ht : ST X A F' tgt Wt) (hc : STst X A F' ifs Wc) (ha : SAdd X A F' (body F'.env) Wa)
    (r : R X F' st1 s) (hJ : J 0 s.heap) (hD : OAt X s.heap D o0) (oD : Off X F' st1.hp D) (hfp : ∀ b ∈ fp, Off X F' st1.hp b) (hDf : D ∉ fp)
    (hI : I 0 o0 st1) (turn : ∀ i acc st2, I i acc st2 →
      (∃ v, src.nx i st2.hp (some v) ∧ i < N ∧ Wt v ⟨st2.lo, src.adv i st2.hp⟩ fun st3 => Wc st3 fun ok st4 => if ok then Wa acc st4 fun acc' st5 => I (i + 1) acc' st5 else I (i + 1) acc st4) ∨
      (src.nx i st2.hp none ∧ Fin acc (src.fin i st2.hp)))
    (hR : ∀ acc hp' s', RH X hp' s' → EvX (C :: D :: wr) F'.fr st1.hp s hp' s' → (∃ m, s'.heap.Ns C m) → OAt X s'.heap D acc → hp' D = none → hp' C = none → Fin acc hp' → R0 (.ok .next) s') :
    codeAny (MM X) A (.compLoop e 0 it (.ref D) F'.env) R0 s := by
  have evx : ∀ {hp hp' : Hp} {s s' : Shared}, Ev F'.pv F'.fr hp s hp' s' → EvX (C :: D :: wr) F'.fr hp s hp' s' := fun ev => ev.toX.mono fun b hb => by rw [hF'] at hb; simp at hb; simp [hb]
  refine codeAny_loop hq (fun n s' => ∃ i acc st', n = N + 1 - i ∧ i ≤ N ∧ R X F' st' s' ∧ EvX (C :: D :: wr) F'.fr st1.hp s st'.hp s' ∧ J i s'.heap ∧ OAt X s'.heap D acc ∧ Off X F' st'.hp D ∧ (∀ b ∈ fp, Off X F' st'.hp b) ∧ I i acc st') (fun n s' hI' => ?_) (N + 1) ⟨0, o0, st1, rfl, Nat.zero_le _, r, .refl, hJ, hD, oD, hfp, hI⟩
  obtain ⟨i, acc, st', rfl, hiN, r', ev', hJ', hD', oD', hoff', hII⟩ := hI'
  rw [hund, hden]
  refine wpAny_noted ?_
  rw [hturn]
  unfold turnOf
  refine wpAny_bind (wpAny_standAt (wpAny_bind ?_))
  have hwoff : ∀ b ∈ wr, Off X F' st'.hp b := fun b hb => hoff' b (IT.sub b hb)
  have hwnot := IT.notTup i _ hJ'
  have hfpo : ∀ b ∈ fp, st'.hp b = none ∧ X.h₀.get? b = none := fun b hb => ⟨(hoff' b hb).own, (hoff' b hb).base⟩
  have hDw : D ∉ wr := fun h => hDf (IT.sub D h)
  rcases turn i acc st' hII with ⟨v, hnx, hlt, hW⟩ | ⟨hnx, hW⟩
  · refine wpAny_mono (IT.item i st'.hp s' v r'.H hJ' hfpo hnx (fun _ => False) (fun rv s2 => ?_) _ fun rv s2 H2 ev2 hv2 hJ2 => ?_) (fun o s1 h1 => ?_) fun _ _ z => z
    · exact wpAny (MM X) A (assign tgt F'.env rv >>= fun _ => (forIn ifs true fun c r => if r = true then do let ok ← isTrue c F'.env (eval c F'.env); pure (ForInStep.yield ok) else pure (ForInStep.yield r)) >>= fun ok => if ok = true then (body F'.env D >>= fun _ => again (.compLoop e 0 it (.ref D) F'.env)) else again (.compLoop e 0 it (.ref D) F'.env))
        (fun fin s' => match fin with | .done f => R0 (.ok f) s' | .again c' => c' = .compLoop e 0 it (.ref D) F'.env ∧ ∃ m, m < N + 1 - i ∧ ∃ i acc st', m = N + 1 - i ∧ i ≤ N ∧ R X F' st' s' ∧ EvX (C :: D :: wr) F'.fr st1.hp s st'.hp s' ∧ J i s'.heap ∧ OAt X s'.heap D acc ∧ Off X F' st'.hp D ∧ (∀ b ∈ fp, Off X F' st'.hp b) ∧ I i acc st')
        (notedBy (MM X) A F'.env fun e s' => R0 (.error e) s') s2
    · have tk2 : TK s'.heap s2.heap := ev2.tk r'.H hwnot (by simp)
      have r2 : R X F' ⟨st'.lo, src.adv i st'.hp⟩ s2 := r'.evX H2 ev2.toX.wfr hwnot hwoff
      have ev2x : EvX (C :: D :: wr) F'.fr st1.hp s (src.adv i st'.hp) s2 := ev'.trans (ev2.toX.wfr.mono fun b hb => by simp [hb])
      have offOf : ∀ {hp2 : Hp} {s3 : Shared} {b : Addr} {o : Obj}, s2.heap.get? b = some o → Off X F' (src.adv i st'.hp) b → Ev F'.pv F'.fr (src.adv i st'.hp) s2 hp2 s3 → Off X F' hp2 b := fun e o1 ev3 => ⟨o1.pv, o1.cell, ev3.sub _ _ e o1.own, o1.base, o1.fr⟩
      have off2 : ∀ b ∈ fp, Off X F' (src.adv i st'.hp) b := fun b hb => by
        have o1 := hoff' b hb
        obtain ⟨o, e⟩ := IT.alive i _ hJ' b hb
        exact ⟨o1.pv, o1.cell, ev2.sub b o e o1.own, o1.base, o1.fr⟩
      obtain ⟨obD, eD, _⟩ := hD'.alive
      have hD2 : OAt X s2.heap D acc := hD'.keep (fun ob q => ev2.keep D ob q oD'.own hDw (by simp)) tk2
      have oD2 : Off X F' (src.adv i st'.hp) D := ⟨oD'.pv, oD'.cell, ev2.sub D obD eD oD'.own, oD'.base, oD'.fr⟩
      refine wpAny_bind (ht _ s2 v rv r2 hv2 _ hW _ _ fun st3 s3 r3 ev3 hp3 => ?_)
      refine wpAny_bind (hc st3 s3 r3 _ hp3 _ _ fun ok st4 s4 r4 ev4 hp4 => ?_)
      have ev24 := ev3.trans ev4
      have tk24 : TK s2.heap s4.heap := r2.tk ev24
      obtain ⟨obD2, eD2, _⟩ := hD2.alive
      have hD4 : OAt X s4.heap D acc := hD2.keep (fun ob q => ev24.keep D ob q oD2.own oD2.pv oD2.fr) tk24
      have oD4 : Off X F' st4.hp D := offOf eD2 oD2 ev24
      have hJ4 : J (i + 1) s4.heap := IT.frame _ _ _ hJ2 (fun b hb o e => ev24.keep b o e (off2 b hb).own (off2 b hb).pv (off2 b hb).fr) tk24
      have off4 : ∀ b ∈ fp, Off X F' st4.hp b := fun b hb => by
        obtain ⟨o, e⟩ := IT.alive _ _ hJ2 b hb
        exact offOf e (off2 b hb) ev24
      have ev4x := ev2x.trans (evx ev24)
      cases ok with
      | false =>
        simp only [Bool.false_eq_true, if_false] at hp4 ⊢
        exact wpAny_pure ⟨rfl, N + 1 - (i + 1), by omega, i + 1, acc, st4, rfl, by omega, r4, ev4x, hJ4, hD4, oD4, off4, hp4⟩
      | true =>
        simp only [if_true] at hp4 ⊢
        refine wpAny_bind (ha D st4 s4 acc r4 hD4 oD4 _ hp4 _ _ fun acc' st5 s5 r5 x5 hD5 oD5 hp5 => ?_)
        have hfD : ∀ b ∈ fp, b ∉ D :: F'.pv := fun b hb hm => by
          rcases List.mem_cons.mp hm with h | h
          · exact hDf (h ▸ hb)
          · exact (off4 b hb).pv h
        have tk45 : TK s4.heap s5.heap := x5.tk r4.H (fun b hb o q => by
          rcases List.mem_cons.mp hb with h | h
          · subst h; obtain ⟨ob, q', nt⟩ := hD4.alive; rw [q] at q'; cases q'; exact nt
          · exact r4.L.pvNot b h o q) r4.fr.not
        have hJ5 : J (i + 1) s5.heap := IT.frame _ _ _ hJ4 (fun b hb o q => x5.keep b o (hfD b hb) (off4 b hb).fr q (off4 b hb).own) tk45
        have off5 : ∀ b ∈ fp, Off X F' st5.hp b := fun b hb => by
          obtain ⟨o, q⟩ := IT.alive _ _ hJ4 b hb
          exact ⟨(off4 b hb).pv, (off4 b hb).cell, x5.sub b o (hfD b hb) q (off4 b hb).own, (off4 b hb).base, (off4 b hb).fr⟩
        have ev5x := ev4x.trans (x5.mono fun b hb => by rw [hF'] at hb; simp at hb; rcases hb with h | h <;> simp [h])
        exact wpAny_pure ⟨rfl, N + 1 - (i + 1), by omega, i + 1, acc', st5, rfl, by omega, r5, ev5x, hJ5, hD5, oD5, off5, hp5⟩
    · cases o with
      | none => exact h1.elim
      | some rv => exact wpAny_bind (wpAny_mono h1 (fun _ s2 h2 => h2) fun _ _ z => z)
  · refine wpAny_mono (IT.done i st'.hp s' r'.H hJ' hfpo hnx (fun s1 => R0 (.ok .next) s1) (fun _ _ => False) _ fun s2 H2 x2 => ?_) (fun o s1 h1 => ?_) fun _ _ z => z
    · have tk2 : TK s'.heap s2.heap := x2.tk r'.H hwnot (by simp)
      have hCw : C ∉ wr := fun h => (hwoff C h).pv (by rw [hF']; simp)
      obtain ⟨obD, eD, _⟩ := hD'.alive
      have hCpv := r'.L.pv C (by rw [hF']; simp)
      obtain ⟨m, hm⟩ := r'.L.ns
      rw [hL'] at hm
      obtain ⟨obC, eC, _⟩ := hCpv.2.2
      refine hR acc _ s2 H2 (ev'.trans (x2.wfr.mono fun b hb => by simp [hb])) ⟨m, hm.at' fun o q => x2.keep C o hCw (by simp) q hCpv.1⟩ (hD'.keep (fun ob q => x2.keep D ob hDw (by simp) q oD'.own) tk2) (x2.sub D obD hDw eD oD'.own) (x2.sub C obC hCw eC hCpv.1) hW
    · cases o with
      | none => exact wpAny_pure h1
      | some rv => exact h1.elim
end
end Mine
end

noncomputable section
open PySem PySem.W PyProof.Rows
namespace Mine

section
variable {X : Cx} {A : Around} {F : Fx}

theorem get_ge {h : Heap} {a : Addr} (ha : h.objs.size ≤ a) : h.get? a = none := by
  cases e : h.get? a with
  | none => rfl
  | some o => exact absurd (Heap.lt_size e) (Nat.not_lt.mpr ha)

theorem comp_end {st1 : St} {s2 s' : Shared} {C D : Addr} {wr : List Addr} {hp' : Hp} {acc : O} (r1 : R X F st1 s2) (hC : s2.heap.get? C = none) (hD : s2.heap.get? D = none)
    (hw : ∀ b ∈ wr, Off X F st1.hp b) (hwn : ∀ b ∈ wr, ∀ o, s2.heap.get? b = some o → NotTup o) (H : RH X hp' s') (x : EvX (C :: D :: wr) F.fr st1.hp s2 hp' s') (ho : OAt X s'.heap D acc) (hDn : hp' D = none) :
    R X F ⟨st1.lo, hp'.set D acc⟩ s' ∧ EvX (C :: D :: wr) F.fr st1.hp s2 (hp'.set D acc) s' := by
  have offC := r1.off hC
  have offD := r1.off hD
  have x' : EvX (C :: D :: wr) F.fr st1.hp s2 (hp'.set D acc) s' := ⟨x.keep, x.slots, fun b o w e n => by rw [Hp.set_ne _ _ fun q => w (by simp [q])]; exact x.sub b o w e n, x.alive, x.rest⟩
  have nt : ∀ b ∈ C :: D :: wr, ∀ o, s2.heap.get? b = some o → NotTup o := by
    intro b hb o e
    simp at hb
    rcases hb with h | h | h
    · subst h; rw [hC] at e; cases e
    · subst h; rw [hD] at e; cases e
    · exact hwn b h o e
  have H' : RH X (hp'.set D acc) s' := by
    refine ⟨H.base, fun b o e => ?_, fun b o e => ?_⟩
    · rw [Hp.set_ne _ _ fun q => by subst q; rw [offD.base] at e; cases e]; exact H.bfree b o e
    · by_cases hb : b = D
      · subst hb; rw [Hp.set_self] at e; cases e; exact ho
      · rw [Hp.set_ne _ _ hb] at e; exact H.own b o e
  refine ⟨r1.evX H' x' nt fun b hb => ?_, x'⟩
  simp at hb
  rcases hb with h | h | h
  · subst h; exact offC
  · subst h; exact offD
  · exact hw b h

theorem R.other {st : St} {s : Shared} {C : Addr} {h' : Heap} (r : R X F st s) (off : Off X F st.hp C) (nt : ∀ o, s.heap.get? C = some o → NotTup o) (sb : Heap.SameBut C s.heap h') : R X F st { s with heap := h' } ∧ EvX [C] F.fr st.hp s st.hp { s with heap := h' } := by
  have k := out1 sb
  have nt' : ∀ b ∈ [C], ∀ o, s.heap.get? b = some o → NotTup o := fun b hb o e => by simp at hb; subst hb; exact nt o e
  have x : EvX [C] F.fr st.hp s st.hp { s with heap := h' } := (EvX.offs (t := s.toks) k).wfr
  exact ⟨r.evX (r.H.offs (t := s.toks) (fun b hb => by simp at hb; subst hb; exact ⟨off.own, off.base⟩) k nt') x nt' fun b hb => by simp at hb; subst hb; exact off, x⟩

structure CompForm (X : Cx) (A : Around) (e tgt iter : Expr) (ifs : List Expr) (body : Env → Addr → Sem Unit) (newAcc : Sem Value) (o0 : O) : Prop where
  cl : ∃ gs, clausesOf e = ⟨tgt, iter, ifs, 0⟩ :: gs
  quiet : ∀ it acc env, (Code.compLoop e 0 it acc env).quiet = true
  under : ∀ it acc env, A.under (.compLoop e 0 it acc env) = A
  den : ∀ it acc env, (MM X).den (.compLoop e 0 it acc env) = (compTurn e 0 it acc env).onRaise (fun x => do noteFrame x env; theTreesLotGoes x)
  turn : ∀ it D env, compTurn e 0 it (.ref D) env = turnOf e tgt iter ifs body it D env
  start : ∀ {it acc env R s}, codeAny (MM X) A (.compLoop e 0 it acc env) R s → wpAny (MM X) A (pyIter it) (fun it' s' => codeAny (MM X) A (.compLoop e 0 it' acc env) R s') (notedBy (MM X) A env fun x s' => R (.error x) s') s → codeAny (MM X) A (.compStart e 0 it acc env) R s
  acc : ∃ ob, (∀ (h : Heap), OAt X (h.push ob) h.objs.size o0) ∧ ∀ (s : Shared) (Q : Value → Shared → Prop) (E : Value → Shared → Prop), Q (.ref s.heap.objs.size) { s with heap := s.heap.push ob } → wpAny (MM X) A newAcc Q E s

theorem form_list {elt tgt iter : Expr} {ifs : List Expr} {scope : Scope} {pos : Pos} : CompForm X A (.ListComp elt [⟨tgt, iter, ifs, 0⟩] scope pos) tgt iter ifs (listAdd elt) (newList []) (.list []) where
  cl := ⟨_, rfl⟩
  quiet := fun _ _ _ => rfl
  under := fun _ _ _ => rfl
  den := fun _ _ _ => rfl
  turn := fun _ _ _ => rfl
  start := codeAny_compStart_list
  acc := ⟨{ cls := .type "list", data := .seq #[] }, fun h => ⟨[], ⟨_, Heap.get?_push_size _ rfl⟩, .nil⟩, fun s Q E h => wpAny_newList h⟩
theorem comp_main {e tgt iter : Expr} {ifs : List Expr} {body : Env → Addr → Sem Unit} {newAcc : Sem Value} {o0 : O} {scope : Scope} {cl : List (Str × Addr)} {nm : List Str} {mp : List (Option Nat)} {pos : Pos} {use : Option (Value → Sem Unit)} {Wi : WI} {Wt : WT} {Wc : WB} {Wa : WAdd} {st : St} {s : Shared} {P : V → St → Prop} {Q : Value → Shared → Prop} {E : Value → Shared → Prop}
    (CF : CompForm X A e tgt iter ifs body newAcc o0) (hs : ∀ x, foldedSetIterable iter F.env x = pure x) (K : CompOk F scope cl nm mp)
    (hi : SI X A F iter tgt Wi) (ht : ∀ C, ST X A (cmpFx F scope cl nm C) tgt Wt) (hc : ∀ C, STst X A (cmpFx F scope cl nm C) ifs Wc) (ha : ∀ C, SAdd X A (cmpFx F scope cl nm C) (body (cmpFx F scope cl nm C).env) Wa)
    (r : R X F st s) (hP : compW mp o0 Wi Wt Wc Wa st P)
    (post : ∀ D st' s' C, R X F st' s' → Ev F.pv F.fr st.hp s st'.hp s' → P (.ref D) st' → Off X F st'.hp C → s.heap.get? C = none → (∃ m, s'.heap.Ns C m) → compPost (MM X) A E use Q (.ref D) C (.ok .next) s') :
    wpAny (MM X) A (comprehension e scope F.env pos newAcc false (eval iter F.env) use) Q E s := by
  obtain ⟨gs, hcl⟩ := CF.cl
  refine wpAny_comprehension_free (use := use) hcl hs K.clos K.kind K.names (hi st s r _ hP _ _ fun src st1 it s2 fp wr J r1 ev1 IT hJ hoff hnew hp1 => ?_)
  obtain ⟨N, I, hI0, turn⟩ := hp1
  obtain ⟨ob, hob, hacc⟩ := CF.acc
  refine hacc _ _ _ ?_
  refine wpAny_newFunctionEnv K.cell (by simp) (fun h' hns hsb => ?_) K.kind
  generalize hD : s2.heap.objs.size = D
  have hD' : s2.heap.get? D = none := by rw [← hD]; exact get_size
  have hh3 : ∀ b o, s2.heap.get? b = some o → (s2.heap.push ob).get? b = some o := fun b o q => Heap.get?_push_of_some _ q
  have hz3 : (s2.heap.push ob).objs.size = s2.heap.objs.size + 1 := Heap.size_push ..
  generalize hC : (s2.heap.push ob).objs.size = C at hns hsb ⊢
  have hCs : C = s2.heap.objs.size + 1 := by rw [← hC]; exact hz3
  have hC' : s2.heap.get? C = none := get_ge (by rw [hCs]; exact Nat.le_succ _)
  have keep3 : ∀ b o, (s2.heap.push ob).get? b = some o → h'.get? b = some o := fun b o q =>
    hsb.extBut b o (by have := Heap.lt_size q; rw [hC] at this; exact Nat.ne_of_lt this) (Heap.get?_push_of_some _ q)
  have keep : ∀ b o, s2.heap.get? b = some o → h'.get? b = some o := fun b o q => keep3 b o (hh3 b o q)
  let s4 : Shared := { s2 with heap := h', toks := s2.toks + ([] : List (Str × Value)).length }
  have rest4 : ∃ h'' tk, s4 = { s2 with heap := h'', toks := tk } := ⟨h', _, rfl⟩
  have rC : R X (cmpFx F scope cl nm C) ⟨loC mp st1.lo, st1.hp⟩ s4 := R.enterC K r1 keep rest4 hC' ⟨_, hns⟩
  have oD4 : OAt X h' D o0 := by
    have := hob s2.heap
    rw [hD] at this
    exact this.keep (fun o q => keep3 _ o q) fun b i n t => keep3 b _ t
  have offD := r1.off hD'
  have hDC : D ≠ C := by rw [hCs, ← hD]; exact Nat.ne_of_lt (Nat.lt_succ_self _)
  have evk : EvX (C :: D :: wr) F.fr st1.hp s2 st1.hp s4 := ⟨fun b o _ _ q _ => keep b o q, fun b o _ _ q _ => ⟨o.slots, keep b o q⟩, fun _ _ _ _ n => n, fun b o _ q => ⟨o, keep b o q⟩, rest4⟩
  have hnewAll : ∀ b ∈ C :: D :: wr, s.heap.get? b = none := by
    intro b hb
    simp at hb
    rcases hb with h | h | h
    · subst h; exact newer ev1 hC'
    · subst h; exact newer ev1 hD'
    · exact hnew b h
  have hfpC : ∀ b ∈ fp, b ≠ C ∧ b ≠ D := fun b hb => by
    obtain ⟨o, q⟩ := IT.alive 0 _ hJ b hb
    exact ⟨fun z => by (subst z; rw [hC'] at q; cases q), fun z => by (subst z; rw [hD'] at q; cases q)⟩
  have hJ4 : J 0 h' := IT.frame 0 _ _ hJ (fun b hb o q => keep b o q) fun b i n t => keep b _ t
  have loop : codeAny (MM X) A (.compLoop e 0 it (.ref D) (cmpFx F scope cl nm C).env) (compPost (MM X) A E use Q (.ref D) C) s4 := by
    refine comp_loop (C := C) (F' := cmpFx F scope cl nm C) rfl rfl (CF.quiet _ _ _) (CF.under _ _ _) (CF.den _ _ _) CF.turn IT (ht C) (hc C) (ha C) rC hJ4 oD4 ⟨by simp [cmpFx, hDC], fun x c hx => offD.cell x c (K.lk hx), offD.own, offD.base, offD.fr⟩
      (fun b hb => ⟨by simp [cmpFx, (hfpC b hb).1], fun x c hx => (hoff b hb).cell x c (K.lk hx), (hoff b hb).own, (hoff b hb).base, (hoff b hb).fr⟩) (fun hm => (hfpC D hm).2 rfl) hI0 (Fin := fun acc hp' => ∀ D, hp' D = none → P (.ref D) ⟨st1.lo, hp'.set D acc⟩) turn ?_
    intro acc hp' s' H' x' hns' hoD hDn hCn hfin
    obtain ⟨r', x2⟩ := comp_end (F := F) (st1 := st1) r1 hC' hD' (fun b hb => hoff b (IT.sub b hb)) (IT.notTup 0 _ hJ) H' (evk.trans x') hoD hDn
    have offC := r1.off hC'
    exact post D _ s' C r' (ev1.transX x2 hnewAll) (hfin D hDn) ⟨offC.pv, offC.cell, by show hp'.set D acc C = none; rw [Hp.set_ne _ _ (Ne.symm hDC)]; exact hCn, offC.base, offC.fr⟩ (newer ev1 hC') hns'
  refine CF.start (it := it) (acc := .ref D) (env := (cmpFx F scope cl nm C).env) (s := s4) loop (IT.self 0 st1.hp s4 rC.H hJ4 (by
    rcases turn 0 o0 _ hI0 with ⟨v, hnx, _⟩ | ⟨hnx, _⟩
    · exact ⟨_, hnx⟩
    · exact ⟨_, hnx⟩) _ _ loop)

theorem nsNot {h : Heap} {C : Addr} {m : Str → Option Value} (x : h.Ns C m) : ∀ o, h.get? C = some o → NotTup o := fun o q => by
  obtain ⟨o', q', nt⟩ := ns_not x
  rw [q] at q'; cases q'; exact nt

theorem se_listcomp {elt tgt iter : Expr} {ifs : List Expr} {scope : Scope} {cl : List (Str × Addr)} {nm : List Str} {mp : List (Option Nat)} {pos : Pos} {Wi : WI} {Wt : WT} {Wc : WB} {We : WE}
    (hs : ∀ x, foldedSetIterable iter F.env x = pure x) (K : CompOk F scope cl nm mp)
    (hi : SI X A F iter tgt Wi) (ht : ∀ C, ST X A (cmpFx F scope cl nm C) tgt Wt) (hc : ∀ C, STst X A (cmpFx F scope cl nm C) ifs Wc) (he : ∀ C, SE X A (cmpFx F scope cl nm C) elt We) :
    SE X A F (.ListComp elt [⟨tgt, iter, ifs, 0⟩] scope pos) (compW mp (.list []) Wi Wt Wc (fun o st P => ∃ xs, o = .list xs ∧ xs.length < 1000000 ∧ We st fun v st' => P (.list (xs ++ [v])) st')) := by
  intro st s r P hP Q E h
  rw [eval_ListComp]
  refine comp_main (use := none) form_list hs K hi ht hc (fun C => add_list' (he C)) r hP fun D st' s' C r' ev' hp' off hC hns => ?_
  obtain ⟨m, hm⟩ := hns
  refine ⟨m, hm, fun h' sb => ?_⟩
  obtain ⟨r2, x2⟩ := r'.other off (nsNot hm) sb
  exact h (.ref D) st' _ _ r2 (ev'.transX x2 fun b hb => by simp at hb; subst hb; exact hC) (.mkRef _ _) hp'

theorem comp_use {st st' : St} {s s' : Shared} {i : Nat} {x : Str} {xpos : Pos} {D C : Addr} {E : Value → Shared → Prop} {Q : Value → Shared → Prop} (hst : StOk F i x) (r' : R X F st' s') (ev' : Ev F.pv F.fr st.hp s st'.hp s') (off : Off X F st'.hp C) (hC : s.heap.get? C = none) (hns : ∃ m, s'.heap.Ns C m)
    (h : ∀ s'', R X F (st'.setL i (.ref D)) s'' → Ev F.pv F.fr st.hp s st'.hp s'' → Q .none s'') : compPost (MM X) A E (some (assign (.Name x xpos) F.env)) Q (.ref D) C (.ok .next) s' := by
  obtain ⟨m, hm⟩ := hns
  show wpAny _ _ (assign (.Name x xpos) F.env (.ref D)) _ _ _
  refine assign_Name (w_store hst r' (v := .ref D) (.mkRef _ _) fun s2 r2 ev2 => ?_)
  have hm2 : s2.heap.Ns C m := hm.at' fun o q => ev2.keep C o q off.own off.pv off.fr
  refine ⟨m, hm2, fun h' sb => ?_⟩
  obtain ⟨o, q, _⟩ := ns_not hm
  obtain ⟨r3, x3⟩ := r2.other ⟨off.pv, off.cell, off.own, off.base, off.fr⟩ (nsNot hm2) sb
  exact h _ r3 ((ev'.trans ev2).transX x3 fun b hb => by simp at hb; subst hb; exact hC)

theorem ss_listcomp {elt tgt iter : Expr} {ifs : List Expr} {scope : Scope} {cl : List (Str × Addr)} {nm : List Str} {mp : List (Option Nat)} {pos xpos spos : Pos} {i : Nat} {x : Str} {Wi : WI} {Wt : WT} {Wc : WB} {We : WE} (hst : StOk F i x)
    (hsw : swapsWith (.ListComp elt [⟨tgt, iter, ifs, 0⟩] scope pos) (some (.Name x xpos)) spos.line F.env = pure true)
    (hs : ∀ x, foldedSetIterable iter F.env x = pure x) (K : CompOk F scope cl nm mp)
    (hi : SI X A F iter tgt Wi) (ht : ∀ C, ST X A (cmpFx F scope cl nm C) tgt Wt) (hc : ∀ C, STst X A (cmpFx F scope cl nm C) ifs Wc) (he : ∀ C, SE X A (cmpFx F scope cl nm C) elt We) :
    SS X A F (.Assign [.Name x xpos] (.ListComp elt [⟨tgt, iter, ifs, 0⟩] scope pos) spos) (fun st P => compW mp (.list []) Wi Wt Wc (fun o st P => ∃ xs, o = .list xs ∧ xs.length < 1000000 ∧ We st fun v st' => P (.list (xs ++ [v])) st') st fun v st1 => P .next (st1.setL i v)) := by
  intro st s r P hP Q E h
  rw [exec_Assign_Name_used _ _ _ _ hsw]
  refine wpAny_bind (wpAny_standAt (wpAny_bind ?_))
  show wpAny _ A (do let _ ← comprehension (.ListComp elt [⟨tgt, iter, ifs, 0⟩] scope pos) scope F.env _ (newList []) false (eval iter F.env) (some (assign (.Name x xpos) F.env))) _ _ s
  refine wpAny_bind (comp_main (use := some (assign (.Name x xpos) F.env)) (P := fun v st1 => P .next (st1.setL i v)) form_list hs K hi ht hc (fun C => add_list' (he C)) r hP fun D st' s' C r' ev' hp' off hC hns => ?_)
  exact comp_use hst r' ev' off hC hns fun s2 r2 ev2 => wpAny_pure (wpAny_pure (h .next _ _ _ r2 ev2 rfl hp'))
end
end Mine
end

noncomputable section
open PySem PySem.W PyProof.Rows
namespace Mine

structure Base (X : Cx) (K : Frag) : Prop where
  K : K.In X.h₀
  g : ∃ mg, X.h₀.Ns mainGlobals mg
  b : ∃ mb, X.h₀.Ns builtinsNs mb ∧ ∀ x : Str, x ≠ "__name__" → mb x = bootBuiltins x
  lim : X.h₀.NoLimit
  mods : ∃ o, X.h₀.get? sysModules = some o
  tr : ∃ p loose mg mb, TopRead p loose mg mb X.h₀

section
variable {X : Cx} {K : Frag}
theorem Base.cok (B : Base X K) : COk X := ⟨B.mods⟩
theorem Base.fn (B : Base X K) {x : Str} {v : Value} (e : nsIn K mainGlobals x = some (some v)) : GlobAt X x v := by
  obtain ⟨mg, g⟩ := B.g
  exact .inl ⟨mg, g, mg_of B.K g e⟩
theorem Base.blt (B : Base X K) {x : Str} {v : Value} (e : nsIn K mainGlobals x = some none) (h : bootBuiltins x = some v) (hn : x ≠ "__name__") : GlobAt X x v := by
  obtain ⟨mg, g⟩ := B.g
  obtain ⟨mb, b, hb⟩ := B.b
  exact .inr ⟨mg, mb, g, mg_none_of B.K g e, b, by rw [hb x hn]; exact h⟩

theorem Base.def (B : Base X K) {a : Addr} {name qual : Str} {params : Arguments} {body : List Stmt} {scope : Scope} {dV kV doc pm cdv ct oc : Value} {an od : Option Addr} {osl : Array (Option Value)}
    (e : K.lookup a = some ⟨oc, od, .func (fnOf name qual params body scope dV kV doc pm an cdv ct), osl⟩) (hc : codeIn K cdv qual = true) (hk : scope.kind = .function) (h1 : scope.isCoroutine = false) (h2 : scope.isGenerator = false) :
    FnAt X a (fnOf name qual params body scope dV kV doc pm an cdv ct) body :=
  ⟨⟨_, B.K _ _ e, rfl⟩, B.lim, codeRec_of B.K hc, rfl, rfl, rfl, rfl, hk, h1, h2⟩
theorem SF.mono {f : Addr} {d : Nat} {W W' : List V → WH} (h : SF X f d W) (hw : ∀ args hp P, W' args hp P → W args hp P) : SF X f d W' :=
  fun A fr hA hF hp s H O args vs hv P hP R0 k => h A fr hA hF hp s H O args vs hv P (hw args hp P hP) R0 k
end
end Mine
end

noncomputable section
open PySem PySem.W PyProof.Rows
namespace Mine

noncomputable def allBut (h : Heap) (L d : Addr) : List (Addr × Obj) := (List.range h.objs.size).filterMap fun b => if b = L ∨ b = d then none else (h.get? b).map fun o => (b, o)
theorem allBut_mem {h : Heap} {L d b : Addr} {o : Obj} (e : h.get? b = some o) (h1 : b ≠ L) (h2 : b ≠ d) : (b, o) ∈ allBut h L d := by
  refine List.mem_filterMap.mpr ⟨b, List.mem_range.mpr (Heap.lt_size e), ?_⟩
  simp [h1, h2, e]
theorem allBut_of {h : Heap} {L d : Addr} {p : Addr × Obj} (hp : p ∈ allBut h L d) : h.get? p.1 = some p.2 ∧ p.1 ≠ L ∧ p.1 ≠ d := by
  obtain ⟨b, _, e⟩ := List.mem_filterMap.mp hp
  by_cases q : b = L ∨ b = d
  · simp [q] at e
  · rw [if_neg q] at e
    obtain ⟨o, eo, rfl⟩ := Option.map_eq_some_iff.mp e
    exact ⟨eo, fun z => q (.inl z), fun z => q (.inr z)⟩
noncomputable def noHeap : Heap := {}
theorem noHeap_get (b : Addr) : noHeap.get? b = none := by
  cases e : noHeap.get? b with
  | none => rfl
  | some o => exact absurd (Heap.lt_size e) (Nat.not_lt_zero _)
theorem frAll {h : Heap} {L : Addr} {m : Str → Option Value} (n : h.Ns L m) : Fr noHeap L h m := ⟨n, fun b o e => by (rw [noHeap_get] at e; cases e), Nat.zero_le _⟩
theorem newsAll {h : Heap} {L d : Addr} {od : Obj} (e : h.get? d = some od) (hd : d ≠ L) : News noHeap L h (allBut h L d ++ (d, od) :: []) := by
  intro p hp
  rcases List.mem_append.mp hp with hp | hp
  · obtain ⟨a, b, c⟩ := allBut_of hp
    exact ⟨a, b, noHeap_get _⟩
  · simp at hp; subst hp; exact ⟨e, hd, noHeap_get _⟩

section
variable {X : Cx} {K : Frag} {A : Around} {F : Fx}

theorem R.writeL {st : St} {s : Shared} {d : Addr} {o o' : O} {h' : Heap} {t : Nat} {m : Str → Option Value} (r : R X F st s) (hd : st.hp d = some o) (hm : s.heap.Ns F.env.locals m) (hm' : h'.Ns F.env.locals m)
    (k : ∀ b ob, b ≠ F.env.locals → b ≠ d → s.heap.get? b = some ob → h'.get? b = some ob) (ho : TK s.heap h' → OAt X h' d o') :
    R X F (st.setH d o') { s with heap := h', toks := t } ∧ Ev F.pv F.fr st.hp s (st.hp.set d o') { s with heap := h', toks := t } := by
  have hL := r.L.pv _ r.ok.loc
  have nd : ∀ b, st.hp b = none → b ≠ d := fun b n e => by subst e; rw [hd] at n; cases n
  have tk : TK s.heap h' := by
    intro b items n hb
    have hn := r.H.notTup hb
    refine k b _ (fun q => ?_) (nd b hn) hb
    subst q
    exact r.L.pvNot _ r.ok.loc _ hb _ _ rfl
  have ho' := ho tk
  have ev : Ev F.pv F.fr st.hp s (st.hp.set d o') { s with heap := h', toks := t } := by
    have kk : ∀ b ob, s.heap.get? b = some ob → st.hp b = none → b ∉ F.pv → h'.get? b = some ob := fun b ob e n p => k b ob (fun q => p (q ▸ r.ok.loc)) (nd b n) e
    refine ⟨fun b ob e n p _ => kk b ob e n p, fun b ob e n p _ => ⟨ob.slots, kk b ob e n p⟩, fun b ob e n => ?_, fun b ob e => ?_, ⟨h', t, rfl⟩⟩
    · rw [Hp.set_ne _ _ (nd b n)]; exact n
    · by_cases q : b = F.env.locals
      · subst q; obtain ⟨o2, e2, _⟩ := ns_not hm'; exact ⟨o2, e2⟩
      · by_cases q2 : b = d
        · subst q2; obtain ⟨o2, e2, _⟩ := ho'.alive; exact ⟨o2, e2⟩
        · exact ⟨ob, k b ob q q2 e⟩
  refine ⟨⟨r.ok, ⟨fun b ob e => ?_, fun b ob e => ?_, fun b ob e => ?_⟩, ⟨⟨m, hm'⟩, fun i y v hi hv => ?_, fun y c hc => ?_, fun b hb => ?_⟩, fun b hb => ?_⟩, ev⟩
  · refine k b ob (fun q => ?_) (nd b (r.H.bfree b ob e)) (r.H.base b ob e)
    subst q; rw [hL.2.1] at e; cases e
  · show st.hp.set d o' b = none
    rw [Hp.set_ne _ _ (nd b (r.H.bfree b ob e))]; exact r.H.bfree b ob e
  · by_cases q : b = d
    · subst q
      have e' : st.hp.set b o' b = some ob := e
      rw [Hp.set_self] at e'; cases e'; exact ho'
    · have e' : st.hp.set d o' b = some ob := e
      rw [Hp.set_ne _ _ q] at e'
      refine (r.H.own b ob e').keep (fun o2 e2 => k b o2 (fun z => ?_) q e2) tk
      subst z; rw [hL.1] at e'; cases e'
  · obtain ⟨rv, a, b⟩ := r.L.var i y v hi hv
    refine ⟨rv, ?_, b.mono tk⟩
    unfold VarAt at a ⊢
    split at a
    · obtain ⟨m', n, e⟩ := a
      rw [ns_uniq n hm] at e
      exact ⟨m, hm', e⟩
    · obtain ⟨c, e, hc⟩ := a
      exact ⟨c, e, cell_sl hc fun o2 e2 => ⟨o2.slots, k c o2 (r.ok.locNe _ _ e) (nd c (r.L.cell _ _ e).2) e2⟩⟩
    · obtain ⟨c, e, hc⟩ := a
      exact ⟨c, e, cell_sl hc fun o2 e2 => ⟨o2.slots, k c o2 (r.ok.locNe _ _ e) (nd c (r.L.cell _ _ e).2) e2⟩⟩
    · exact a
  · obtain ⟨⟨ov, hcc⟩, n⟩ := r.L.cell y c hc
    refine ⟨⟨ov, cell_sl hcc fun o2 e2 => ⟨o2.slots, k c o2 (r.ok.locNe _ _ hc) (nd c n) e2⟩⟩, ?_⟩
    show st.hp.set d o' c = none
    rw [Hp.set_ne _ _ (nd c n)]; exact n
  · obtain ⟨n, n0, ob, e, dd⟩ := r.L.pv b hb
    refine ⟨by show st.hp.set d o' b = none; rw [Hp.set_ne _ _ (nd b n)]; exact n, n0, ?_⟩
    by_cases q : b = F.env.locals
    · subst q; exact ns_not hm'
    · exact ⟨ob, k b ob q (nd b n) e, dd⟩
  · obtain ⟨n, n0, ob, es, ep, e, dd⟩ := r.fr b hb
    refine ⟨by show st.hp.set d o' b = none; rw [Hp.set_ne _ _ (nd b n)]; exact n, n0, ?_⟩
    by_cases q : b = F.env.locals
    · subst q; obtain ⟨o2, es2, ep2, e2, d2, _⟩ := hm'; exact ⟨o2, es2, ep2, e2, d2⟩
    · exact ⟨ob, es, ep, k b ob q (nd b n) e, dd⟩

structure Inst (hp : Hp) (a C dx : Addr) (os : List (Option V)) (fs : List (Str × V)) : Prop where
  at_ : hp a = some (.inst C dx os)
  dict : hp dx = some (.adict fs)
theorem Inst.un {hp : Hp} {s : Shared} {a C dx : Addr} {os : List (Option V)} {fs : List (Str × V)} (I : Inst hp a C dx os fs) (H : RH X hp s) :
    ∃ (sl : List (Option Value)) (es : List DictEntry) (n : Nat), InstAt s.heap a ⟨.ref C, some dx, .plain, sl.toArray⟩ C (some (dictOf es n)) ∧ SlR s.heap os sl ∧ es.length ≤ fs.length ∧ (∀ x, fs.lookup x = none → getL x es = some none) ∧ ∀ x v, fs.lookup x = some v → ∃ rv, getL x es = some (some rv) ∧ VR s.heap v rv := by
  obtain ⟨sl, e, r⟩ := H.own _ _ I.at_
  obtain ⟨es, n, e2, l, nn, f⟩ := H.own _ _ I.dict
  exact ⟨sl, es, n, ⟨e, rfl, rfl, e2⟩, r, l, nn, f⟩

structure ClsOk (K : Frag) (C : Addr) (name : Str) : Prop where
  get : plainGet K C name = true
  set : findIn K (.ref C) "__setattr__" = some (some (.builtin "object.__setattr__"))
  over : plainOver K C = true

noncomputable def notCon : V → Prop
  | .con _ => False
  | _ => True
theorem handed {h : Heap} {v : V} {rv : Value} (n : notCon v) (e : VR h v rv) : handedIn rv = true := by
  cases v with
  | none => rw [e.unNone]; rfl
  | bool b => rw [e.unBool]; rfl
  | int i => obtain ⟨t, rfl⟩ := e.unInt; rfl
  | str s => simp [VR] at e; obtain ⟨t, rfl⟩ := e; rfl
  | tup xs => obtain ⟨a, vs, n, rfl, _⟩ := e.unTup; rfl
  | ref a => rw [e.unRef]; rfl
  | con c => exact n.elim

structure OwnName (K : Frag) (C : Addr) (name : Str) : Prop where
  cls : ClsOk K C name
  has : hasDictIn K C = true
  find : ∃ attr, findIn K (.ref C) name = some attr ∧ noGet K attr = true
  take : takerIn K C name = some none
structure SlotName (K : Frag) (C : Addr) (name : Str) (i : Nat) : Prop where
  cls : ClsOk K C name
  isC : isClsIn K C = true
  ex : ∃ p, findIn K (.ref C) name = some (some (.ref p)) ∧ specialIn K (.ref p) "__get__" = some (some (.builtin "member_descriptor.__get__")) ∧ takesIn K (.ref p) = some true ∧ slotIn K p C = some i ∧
    takerIn K C name = some (some (.ref p)) ∧ typeIn K (.ref p) = some (.type "member_descriptor")
  small : i < 1000

noncomputable def getOwnW (C : Addr) (name : Str) (v : V) : WH := fun hp P => ∃ a dx os fs u, v = .ref a ∧ Inst hp a C dx os fs ∧ fs.lookup name = some u ∧ notCon u ∧ P u hp
theorem so_getOwn (B : Base X K) {C : Addr} {name : Str} (N : OwnName K C name) {hp : Hp} {s : Shared} {v : V} {rv : Value} {ex : Bool} (H : RH X hp s) (hv : VR s.heap v rv) : SO X A (getAttr rv name ex) hp s (getOwnW C name v hp) := by
  rintro P ⟨a, dx, os, fs, u, rfl, I, hl, hn, hP⟩ Q E h
  have := hv.unRef; subst this
  obtain ⟨sl, es, n, I', _, _, _, f⟩ := I.un H
  obtain ⟨ru, g1, g2⟩ := f _ _ hl
  obtain ⟨attr, h1, h2⟩ := N.find
  exact get_value (B.K.keeps H.base) I' (plainGet_of N.cls.get).1 (findObj_own N.has h1 h2 g1) (handed hn g2) (h _ _ _ _ (H.toks _) (.toks _) g2 hP)
noncomputable def getSlotW (C : Addr) (i : Nat) (v : V) : WH := fun hp P => ∃ a dx os fs u, v = .ref a ∧ Inst hp a C dx os fs ∧ (os[i]?).join = some u ∧ notCon u ∧ P u hp
theorem so_getSlot (B : Base X K) {C : Addr} {name : Str} {i : Nat} (N : SlotName K C name i) {hp : Hp} {s : Shared} {v : V} {rv : Value} {ex : Bool} (H : RH X hp s) (hv : VR s.heap v rv) : SO X A (getAttr rv name ex) hp s (getSlotW C i v hp) := by
  rintro P ⟨a, dx, os, fs, u, rfl, I, hl, hn, hP⟩ Q E h
  have := hv.unRef; subst this
  obtain ⟨sl, es, n, I', sr, _, _, f⟩ := I.un H
  obtain ⟨ru, g1, g2⟩ := sr.get hl
  obtain ⟨p, h1, h2, h3, h4, _, _⟩ := N.ex
  have Kh := B.K.keeps H.base
  exact get_bind Kh I' (plainGet_of N.cls.get).1 (findObj_data N.isC h1 h2 h3) (plainGet_of N.cls.get).2 (wpAny_call (slot_get (s := { s with toks := s.toks + 1 }) Kh I' h4 (by simpa using g1) (handed_on (handed hn g2) (h _ _ _ _ (H.toks _) (.toks _) g2 hP))))

theorem se_attr {value : Expr} {attr : Str} {pos : Pos} {W : WE} {w : V → WH} (h1 : SE X A F value W) (hw : ∀ hp s v rv, RH X hp s → VR s.heap v rv → SO X A (getAttr rv attr true) hp s (w v hp))
    (he : eval (.Attribute value attr pos) F.env = (do
      let o ← eval value F.env
      standAt pos.atName
      let r ← holding [o] (getAttr o attr true)
      letTemporaryGo value o r
      pure r)) : SE X A F (.Attribute value attr pos) (fun st P => W st fun v st1 => w v st1.hp fun r hp => P r ⟨st1.lo, hp⟩) := by
  intro st s r P hP Q E h
  refine Attribute_any_ (h1 st s r _ hP _ _ fun v st1 rv s1 r1 ev1 hv1 hp1 => ?_) he
  exact r1.so (hw _ _ _ _ r1.H hv1) hp1 fun v st2 rv s2 r2 ev2 hv2 hp2 => h v st2 rv s2 r2 (ev1.trans ev2) hv2 hp2
end
end Mine
end

noncomputable section
open PySem PySem.W PyProof.Rows
namespace Mine

theorem isStr_ne {v : Value} {x y : Str} (h : v.isStr x = true) (n : y ≠ x) : v.isStr y = false := by
  cases v <;> simp [Value.isStr] at h ⊢
  subst h
  exact fun e => n e.symm
theorem put_find {name x : Str} {hsh : Int} {t : Tok} {v : Value} (n : x ≠ name) : ∀ es : List DictEntry, (putL name hsh (.str name t) v es).find? (·.key.isStr x) = es.find? (·.key.isStr x)
  | [] => by
    have : (Value.str name t).isStr x = false := isStr_ne (x := name) (by simp [Value.isStr]) n
    simp [putL, this]
  | e :: r => by
    rw [putL]
    split
    · rename_i h
      have := isStr_ne h n
      simp [List.find?_cons, this]
    · rw [List.find?_cons, List.find?_cons, put_find n r]
theorem put_ref {name : Str} {hsh : Int} {t : Tok} {v : Value} : ∀ es : List DictEntry, (putL name hsh (.str name t) v es).any (·.refKey) = es.any (·.refKey)
  | [] => rfl
  | e :: r => by
    rw [putL]
    split
    · rfl
    · rw [List.any_cons, List.any_cons, put_ref r]
theorem put_self {name : Str} {hsh : Int} {t : Tok} {v : Value} : ∀ es : List DictEntry, ∃ e, (putL name hsh (.str name t) v es).find? (·.key.isStr name) = some e ∧ e.val = v
  | [] => ⟨⟨hsh, .str name t, v⟩, by simp [putL, Value.isStr], rfl⟩
  | e :: r => by
    rw [putL]
    split
    · rename_i h
      exact ⟨⟨e.hash, e.key, v⟩, by simp [List.find?_cons, h], rfl⟩
    · rename_i h
      obtain ⟨e', h1, h2⟩ := put_self (name := name) (hsh := hsh) (t := t) (v := v) r
      exact ⟨e', by simp [List.find?_cons, h, h1], h2⟩
theorem put_len {name : Str} {hsh : Int} {key v : Value} : ∀ es : List DictEntry, (putL name hsh key v es).length = if es.any (·.key.isStr name) then es.length else es.length + 1
  | [] => rfl
  | e :: r => by
    rw [putL]
    split
    · rename_i h; simp [h]
    · rename_i h
      rw [List.length_cons, put_len r, List.any_cons]
      simp only [h, Bool.false_or, Bool.not_eq_true] at *
      split <;> simp_all
theorem getL_ne {name x : Str} {hsh : Int} {t : Tok} {v : Value} (n : x ≠ name) (es : List DictEntry) : getL x (putL name hsh (.str name t) v es) = getL x es := by
  unfold getL
  rw [put_find n, put_ref]
theorem getL_self {name : Str} {hsh : Int} {t : Tok} {v : Value} (es : List DictEntry) : getL name (putL name hsh (.str name t) v es) = some (some v) := by
  unfold getL
  obtain ⟨e, h1, h2⟩ := put_self (name := name) (hsh := hsh) (t := t) (v := v) es
  rw [h1]
  show some (some e.val) = _
  rw [h2]
theorem getL_any {name : Str} {es : List DictEntry} {rv : Value} (h : getL name es = some (some rv)) : es.any (·.key.isStr name) = true := by
  unfold getL at h
  split at h
  · rename_i e he
    exact List.any_eq_true.mpr ⟨e, List.mem_of_find?_eq_some he, by have := List.find?_some he; simpa using this⟩
  · split at h <;> cases h

noncomputable def aset (fs : List (Str × V)) (name : Str) (v : V) : List (Str × V) := if (fs.lookup name).isSome then fs.map (fun p => if p.1 = name then (p.1, v) else p) else fs ++ [(name, v)]
theorem aset_ne {fs : List (Str × V)} {name x : Str} {v : V} (n : x ≠ name) : (aset fs name v).lookup x = fs.lookup x := by
  have e0 : (x == name) = false := beq_eq_false_iff_ne.mpr n
  unfold aset
  split
  · rename_i h
    clear h
    induction fs with
    | nil => rfl
    | cons p fs ih =>
      obtain ⟨y, u⟩ := p
      simp only [List.map_cons]
      by_cases q : y = name
      · subst q; simp [List.lookup_cons, e0, ih]
      · simp only [q, if_false, List.lookup_cons, ih]
  · rename_i h
    clear h
    induction fs with
    | nil => simp [List.lookup_cons, e0]
    | cons p fs ih => obtain ⟨y, u⟩ := p; simp [List.lookup_cons, ih]
theorem aset_self {fs : List (Str × V)} {name : Str} {v : V} : (aset fs name v).lookup name = some v := by
  unfold aset
  split
  · rename_i h
    induction fs with
    | nil => simp at h
    | cons p fs ih =>
      obtain ⟨y, u⟩ := p
      simp only [List.map_cons]
      by_cases q : y = name
      · subst q; simp [List.lookup_cons]
      · have e0 : (name == y) = false := beq_eq_false_iff_ne.mpr fun z => q z.symm
        simp only [q, if_false, List.lookup_cons, e0] at h ⊢
        exact ih h
  · rename_i h
    induction fs with
    | nil => simp [List.lookup_cons]
    | cons p fs ih =>
      obtain ⟨y, u⟩ := p
      rw [List.lookup_cons] at h
      cases q : name == y with
      | true => rw [q] at h; simp at h
      | false => rw [q] at h; simp [List.lookup_cons, q]; exact ih h
theorem aset_len {fs : List (Str × V)} {name : Str} {v : V} : (aset fs name v).length = if (fs.lookup name).isSome then fs.length else fs.length + 1 := by
  unfold aset
  split <;> simp

section
variable {X : Cx} {K : Frag} {A : Around} {F : Fx}

theorem w_setOwn (B : Base X K) {C : Addr} {name : Str} (N : OwnName K C name) {st : St} {s : Shared} {a dx : Addr} {os : List (Option V)} {fs : List (Str × V)} {v : V} {rv : Value} (r : R X F st s) (I : Inst st.hp a C dx os fs) (hv : VR s.heap v rv) (hz : fs.length < 1000)
    {Q : Unit → Shared → Prop} {E : Value → Shared → Prop} (h : ∀ s', R X F (st.setH dx (.adict (aset fs name v))) s' → Ev F.pv F.fr st.hp s (st.hp.set dx (.adict (aset fs name v))) s' → Q () s') : wpAny (MM X) A (setAttr (.ref a) name rv) Q E s := by
  obtain ⟨sl, es, n, I', _, hlen, hnone, f⟩ := I.un r.H
  have Kh := B.K.keeps r.H.base
  obtain ⟨m, hm⟩ := r.L.ns
  have hdL : dx ≠ F.env.locals := fun e => by have := (r.L.pv _ r.ok.loc).1; rw [← e, I.dict] at this; cases this
  have hdx := I'.dict
  have hl : (getL name es).isSome = true := by
    cases q : fs.lookup name with
    | none => rw [hnone _ q]; rfl
    | some u => obtain ⟨ru, g, _⟩ := f _ _ q; rw [g]; rfl
  have hle : (putL name (PyData.keyHash X.w.params name) (.str name (s.toks + 1)) rv es).length ≤ (aset fs name v).length := by
    rw [put_len, aset_len]
    cases q : fs.lookup name with
    | none => simp only [Option.isSome_none, Bool.false_eq_true, if_false]; split <;> omega
    | some u =>
      obtain ⟨ru, g, _⟩ := f _ _ q
      rw [getL_any g]; simpa using hlen
  have hz' : (putL name (PyData.keyHash X.w.params name) (.str name (s.toks + 1)) rv es).length ≤ 1000 := by
    have := aset_len (fs := fs) (name := name) (v := v)
    split at this <;> omega
  refine set_plain Kh I' N.cls.set (osa_dict (s := { s with toks := s.toks + 1 }) (frAll hm) (newsAll hdx hdL) Kh I' rfl N.cls.over N.take N.has (by rw [lookIn_dict]; exact hl) (fun p hp => (allBut_of hp).2.2) (by simp) (putName_dict _ _ _ _ _ _) rfl hz' fun h' F' N' => ?_)
  have k : ∀ b ob, b ≠ F.env.locals → b ≠ dx → s.heap.get? b = some ob → h'.get? b = some ob := fun b ob h1 h2 e => (N' (b, ob) (List.mem_append_left _ (allBut_mem e h1 h2))).1
  have hd' : h'.get? dx = some (dictOf (putL name (PyData.keyHash X.w.params name) (.str name (s.toks + 1)) rv es) (putN name es n)) := (N' (dx, _) (by simp)).1
  have ho : TK s.heap h' → OAt X h' dx (.adict (aset fs name v)) := by
   intro tk
   refine ⟨_, _, hd', hle, fun x hx => ?_, fun x u hx => ?_⟩
   · have hne : x ≠ name := fun e => by subst e; rw [aset_self] at hx; cases hx
     rw [getL_ne hne]
     rw [aset_ne hne] at hx
     exact hnone x hx
   · by_cases e : x = name
     · subst e
       rw [aset_self] at hx; cases hx
       exact ⟨rv, getL_self _, hv.mono tk⟩
     · rw [aset_ne e] at hx
       obtain ⟨ru, g1, g2⟩ := f x u hx
       exact ⟨ru, by rw [getL_ne e]; exact g1, g2.mono tk⟩
  obtain ⟨r', ev'⟩ := r.writeL (t := s.toks + 1 + 1) (o' := .adict (aset fs name v)) I.dict hm F'.ns k ho
  exact h _ r' ev'

noncomputable def sset (os : List (Option V)) (i : Nat) (v : V) : List (Option V) := (os ++ List.replicate (i + 1 - os.length) none).set i (some v)
theorem w_setSlot (B : Base X K) {C : Addr} {name : Str} {i : Nat} (N : SlotName K C name i) {st : St} {s : Shared} {a dx : Addr} {os : List (Option V)} {fs : List (Str × V)} {v : V} {rv : Value} (r : R X F st s) (I : Inst st.hp a C dx os fs) (hv : VR s.heap v rv)
    {Q : Unit → Shared → Prop} {E : Value → Shared → Prop} (h : ∀ s', R X F (st.setH a (.inst C dx (sset os i v))) s' → Ev F.pv F.fr st.hp s (st.hp.set a (.inst C dx (sset os i v))) s' → Q () s') : wpAny (MM X) A (setAttr (.ref a) name rv) Q E s := by
  obtain ⟨sl, es, n, I', sr, hlen, hnone, f⟩ := I.un r.H
  have Kh := B.K.keeps r.H.base
  obtain ⟨m, hm⟩ := r.L.ns
  have haL : a ≠ F.env.locals := fun e => by have := (r.L.pv _ r.ok.loc).1; rw [← e, I.at_] at this; cases this
  obtain ⟨p, h1, h2, h3, h4, h5, h6⟩ := N.ex
  have e9 : ((sl.toArray ++ Array.replicate (i + 1 - sl.toArray.size) none).setIfInBounds i (some rv)) = ((sl ++ List.replicate (i + 1 - sl.length) none).set i (some rv)).toArray := by
    apply Array.ext'
    simp
  refine set_plain Kh I' N.cls.set (osa_descr (s := { s with toks := s.toks + 1 }) KF.slot_mset Kh I' N.cls.over h5 h6 (slot_set (s := { s with toks := s.toks + 1 }) (frAll hm) (newsAll I'.at_ haL) Kh I' h4 N.small (fun p hp => (allBut_of hp).2.2) (by simp) rfl rfl fun h' F' N' => ?_))
  have k : ∀ b ob, b ≠ F.env.locals → b ≠ a → s.heap.get? b = some ob → h'.get? b = some ob := fun b ob h1 h2 e => (N' (b, ob) (List.mem_append_left _ (allBut_mem e h1 h2))).1
  have hd' := (N' (a, _) (List.mem_append_right _ (List.mem_singleton.mpr rfl))).1
  have ho : TK s.heap h' → OAt X h' a (.inst C dx (sset os i v)) := by
    intro tk
    refine ⟨(sl ++ List.replicate (i + 1 - sl.length) none).set i (some rv), by rw [← e9]; exact hd', ?_⟩
    unfold sset
    rw [← sr.length]
    exact ((sr.pad _).set hv).mono tk
  obtain ⟨r', ev'⟩ := r.writeL (t := s.toks + 1) (o' := .inst C dx (sset os i v)) I.at_ hm F'.ns k ho
  exact h _ r' ev'

noncomputable def setOwnW (C : Addr) (name : Str) (ov v : V) (st : St) (P : St → Prop) : Prop := ∃ a dx os fs, ov = .ref a ∧ Inst st.hp a C dx os fs ∧ fs.length < 1000 ∧ P (st.setH dx (.adict (aset fs name v)))
noncomputable def setSlotW (C : Addr) (i : Nat) (ov v : V) (st : St) (P : St → Prop) : Prop := ∃ a dx os fs, ov = .ref a ∧ Inst st.hp a C dx os fs ∧ P (st.setH a (.inst C dx (sset os i v)))
noncomputable def SSet (X : Cx) (A : Around) (F : Fx) (name : Str) (W : V → V → St → (St → Prop) → Prop) : Prop := ∀ st s ov v ro rv, R X F st s → VR s.heap ov ro → VR s.heap v rv → ∀ P, W ov v st P → ∀ (Q : Unit → Shared → Prop) (E : Value → Shared → Prop),
  (∀ st' s', R X F st' s' → Ev F.pv F.fr st.hp s st'.hp s' → P st' → Q () s') → wpAny (MM X) A (setAttr ro name rv) Q E s
theorem sset_own (B : Base X K) {C : Addr} {name : Str} (N : OwnName K C name) : SSet X A F name (setOwnW C name) := by
  rintro st s ov v ro rv r ho hv P ⟨a, dx, os, fs, rfl, I, hz, hP⟩ Q E h
  have := ho.unRef; subst this
  exact w_setOwn B N r I hv hz fun s' r' ev' => h _ _ r' ev' hP
theorem sset_slot (B : Base X K) {C : Addr} {name : Str} {i : Nat} (N : SlotName K C name i) : SSet X A F name (setSlotW C i) := by
  rintro st s ov v ro rv r ho hv P ⟨a, dx, os, fs, rfl, I, hP⟩ Q E h
  have := ho.unRef; subst this
  exact w_setSlot B N r I hv fun s' r' ev' => h _ _ r' ev' hP
theorem tg_attr {o : Expr} {attr : Str} {pos : Pos} {W : WE} {w : V → V → St → (St → Prop) → Prop} (h1 : SE X A F o W) (hw : SSet X A F attr w) : ST X A F (.Attribute o attr pos) (fun v st P => W st fun ov st1 => w ov v st1 P) := by
  intro st s v rv r hv P hP Q E h
  rw [assign_Attribute]
  refine wpAny_bind (wpAny_holding (h1 st s r _ hP _ _ fun ov st1 ro s1 r1 ev1 hv1 hp1 => ?_))
  refine wpAny_bind (wpAny_standAt (wpAny_bind (wpAny_holding (hw st1 s1 ov v ro rv r1 hv1 (hv.mono (r.tk ev1)) _ hp1 _ _ fun st2 s2 r2 ev2 hp2 => ?_))))
  exact wpAny_release (h _ _ r2 (ev1.trans ev2) hp2)

theorem ss_augsub {o i value : Expr} {tpos pos : Pos} {op : Operator} {W1 W2 W3 : WE} (h1 : SE X A F o W1) (h2 : SE X A F i W2) (h3 : SE X A F value W3)
    (hi : ∀ ov iv new, augStore i ov iv new = (do holding [new, ov, iv] (setItem ov iv new); release [new, ov, iv] []; pure .next)) :
    SS X A F (.AugAssign (.Subscript o i tpos) op value pos) (fun st P => W1 st fun ov st1 => W2 st1 fun iv st2 => ∃ a xs k old, ov = .ref a ∧ iv = .int k ∧ st2.hp a = some (.list xs) ∧ 0 ≤ k ∧ k < 2 ^ 62 ∧ xs[k.toNat]? = some old ∧ W3 st2 fun v st3 => iopW op old v st3.hp fun new hp => ∃ a N, SetR hp ov iv new a N ∧ ∀ n, N n → P .next (St.setH ⟨st3.lo, hp⟩ a n)) := by
  intro st s r P hP Q E h
  refine wpAny_AugAssign_SubscriptAny (h1 st s r _ hP _ _ fun ov st1 ro s1 r1 ev1 hv1 hp1 => h2 st1 s1 r1 _ hp1 _ _ fun iv st2 ri s2 r2 ev2 hv2 hp2 => ?_) hi
  obtain ⟨al, xs, k, old, rfl, rfl, e, h0, hk1, hx, hp2⟩ := hp2
  have hv1' := hv1.mono (r1.tk ev2)
  have := hv1'.unRef; subst this
  obtain ⟨t, rfl⟩ := hv2.unInt
  obtain ⟨vs, hl, hvs⟩ := r2.H.own _ _ e
  obtain ⟨rold, e1, hold⟩ := hvs.get hx
  refine wpAny_getItem_list hl.isList h0 (by omega) (by simpa using e1) ?_
  refine h3 st2 s2 r2 _ hp2 _ _ fun v st4 rv s4 r4 ev4 hv4 hp4 => ?_
  refine r4.so (so_iop r4.H (hold.mono (r2.tk ev4)) hv4) (P := fun new st5 => ∃ a N, SetR st5.hp (.ref al) (.int k) new a N ∧ ∀ n, N n → P .next (st5.setH a n)) hp4 fun new st5 rnew s5 r5 ev5 hv5 hp5 => ?_
  obtain ⟨a, N, g2, hp5⟩ := hp5
  have tk : TK s2.heap s5.heap := (r2.tk ev4).trans (r4.tk ev5)
  refine w_set r5.H (hv1'.mono tk) (hv2.mono tk) hv5 g2 fun n s6 hn H6 ev6 => ?_
  exact h .next _ _ _ (r5.ev ev6 H6) ((((ev1.trans ev2).trans ev4).trans ev5).trans ev6.weaken) rfl (hp5 n hn)
theorem ss_augattr {o value : Expr} {attr : Str} {tpos pos : Pos} {op : Operator} {W1 W3 : WE} {w : V → WH} {w2 : V → V → St → (St → Prop) → Prop} (h1 : SE X A F o W1) (hg : ∀ hp s v rv, RH X hp s → VR s.heap v rv → SO X A (getAttr rv attr true) hp s (w v hp)) (h3 : SE X A F value W3) (hs : SSet X A F attr w2) :
    SS X A F (.AugAssign (.Attribute o attr tpos) op value pos) (fun st P => W1 st fun ov st1 => w ov st1.hp fun old hp => W3 ⟨st1.lo, hp⟩ fun v st3 => iopW op old v st3.hp fun new hp => w2 ov new ⟨st3.lo, hp⟩ fun st4 => P .next st4) := by
  intro st s r P hP Q E h
  refine wpAny_AugAssign_AttributeAny (h1 st s r _ hP _ _ fun ov st1 ro s1 r1 ev1 hv1 hp1 => ?_)
  refine r1.so (hg _ _ _ _ r1.H hv1) (P := fun old st2 => W3 st2 fun v st3 => iopW op old v st3.hp fun new hp => w2 ov new ⟨st3.lo, hp⟩ fun st4 => P .next st4) hp1 fun old st2 rold s2 r2 ev2 hv2 hp2 => ?_
  refine h3 st2 s2 r2 _ hp2 _ _ fun v st3 rv s3 r3 ev3 hv3 hp3 => ?_
  refine r3.so (so_iop r3.H (hv2.mono (r2.tk ev3)) hv3) (P := fun new st4 => w2 ov new st4 fun st5 => P .next st5) hp3 fun new st4 rnew s4 r4 ev4 hv4 hp4 => ?_
  refine hs st4 s4 ov new ro rnew r4 (((hv1.mono (r1.tk ev2)).mono (r2.tk ev3)).mono (r3.tk ev4)) hv4 _ hp4 _ _ fun st5 s5 r5 ev5 hp5 => ?_
  exact h .next _ _ _ r5 ((((ev1.trans ev2).trans ev3).trans ev4).trans ev5) rfl hp5
end
end Mine
end

noncomputable section
open PySem PySem.W PyProof.Rows
namespace Mine

section
variable {X : Cx} {K : Frag} {A : Around} {F : Fx}

noncomputable def dwithout (kvs : List (Int × V)) (k : Int) : List (Int × V) := kvs.filter fun p => decide (p.1 ≠ k)
theorem without_rel {h : Heap} {k : Int} : ∀ {kvs : List (Int × V)} {rk : List (Int × Value)}, rk.map (·.1) = kvs.map (·.1) → VRs h (kvs.map (·.2)) (rk.map (·.2)) → (without rk k).map (·.1) = (dwithout kvs k).map (·.1) ∧ VRs h ((dwithout kvs k).map (·.2)) ((without rk k).map (·.2))
  | [], rk, hk, hv => by simp at hk; subst hk; exact ⟨rfl, .nil⟩
  | p :: kvs, rk, hk, hv => by
    cases rk with
    | nil => simp at hk
    | cons q rk =>
      obtain ⟨p1, p2⟩ := p
      obtain ⟨q1, q2⟩ := q
      simp only [List.map_cons, List.cons.injEq] at hk
      obtain ⟨rfl, hk⟩ := hk
      simp only [List.map_cons, VRs] at hv
      obtain ⟨w, r, e1, hv1, hv⟩ := hv
      simp only [List.cons.injEq] at e1
      obtain ⟨rfl, rfl⟩ := e1
      obtain ⟨i1, i2⟩ := without_rel (k := k) hk hv
      unfold without dwithout at *
      by_cases e : q1 = k
      · simp only [List.filter_cons, e, ne_eq, not_true_eq_false, decide_false, Bool.false_eq_true, if_false]; exact ⟨i1, i2⟩
      · simp only [List.filter_cons, e, ne_eq, not_false_eq_true, decide_true, if_true, List.map_cons]
        exact ⟨by rw [i1], VRs.cons hv1 i2⟩
theorem w_delDict {hp : Hp} {s : Shared} {d : Addr} {kvs : List (Int × V)} {ep : Nat} {k : Int} {t : Tok} (H : RH X hp s) (e : hp d = some (.dict kvs ep)) (hk : (kvs.lookup k).isSome = true) (hz : kvs.length < 1000000)
    {Q : Unit → Shared → Prop} {E : Value → Shared → Prop} (h : ∀ ep' s', RH X (hp.set d (.dict (dwithout kvs k) ep')) s' → Ev [] [] hp s (hp.set d (.dict (dwithout kvs k) ep')) s' → Q () s') : wpAny (MM X) A (delItem (.ref d) (.int k t)) Q E s := by
  obtain ⟨rk, hd, hkk, hvs⟩ := H.own _ _ e
  have hD := hd.dictOf
  have sl := sizeLine_ge
  have hl := len_rel hkk
  obtain ⟨v, hv⟩ := Option.isSome_iff_exists.mp hk
  obtain ⟨rv, hrv, _⟩ := lookup_rel hkk hvs hv
  unfold delItem
  refine wpAny_holding ?_
  refine wpAny_bind (wpAny_sequenceKey hD.typeIs (by decide) ?_)
  refine wpAny_bind (wpAny_callSpecial?_slot (name := Str.ofString "__delitem__") hD.typeIs PySem.F.slot_dict_delitem
    (call_meetsIn PySem.F.slot_dict_delitem hD.typeIs PySem.F.entry_dict_delitem (PySem.F.args_dict_delitem_2 _ _) (meets_dict_delitem_pairs (intKind X.prog X.w) d (k := k) (by simp [intKind, Value.isInt])) ⟨rk, hD, (by omega), by rw [hrv]; rfl, fun h' hmm hs => ?_⟩))
  obtain ⟨ep', hd'⟩ := hmm.dictAt
  obtain ⟨q1, q2⟩ := without_rel (k := k) hkk hvs
  obtain ⟨ob, _, eo, _⟩ := id hd'
  exact wpAny_pure (h ep' _ (H.write (t := s.toks + 1) (o' := .dict (dwithout kvs k) ep') e hs fun tk => ⟨_, hd', q1, q2.mono tk⟩) (.write (t := s.toks + 1) e hs ⟨ob, eo⟩))
theorem ss_delsub {o i : Expr} {pos' pos : Pos} {W1 W2 : WE} (h1 : SE X A F o W1) (h2 : SE X A F i W2) :
    SS X A F (.Delete [.Subscript o i pos'] pos) (fun st P => W1 st fun ov st1 => W2 st1 fun iv st2 => ∃ d kvs ep k, ov = .ref d ∧ iv = .int k ∧ st2.hp d = some (.dict kvs ep) ∧ (kvs.lookup k).isSome = true ∧ kvs.length < 1000000 ∧ ∀ ep', P .next (st2.setH d (.dict (dwithout kvs k) ep'))) := by
  intro st s r P hP Q E h
  refine wpAny_Delete (wpAny_deleteEach_cons (wpAny_delete_Subscript (h1 st s r _ hP _ _ fun ov st1 ro s1 r1 ev1 hv1 hp1 => h2 st1 s1 r1 _ hp1 _ _ fun iv st2 ri s2 r2 ev2 hv2 hp2 => ?_)))
  obtain ⟨d, kvs, ep, k, rfl, rfl, e, hk, hz, hp2⟩ := hp2
  have := (hv1.mono (r1.tk ev2)).unRef; subst this
  obtain ⟨t, rfl⟩ := hv2.unInt
  refine w_delDict r2.H e hk hz fun ep' s3 H3 ev3 => wpAny_deleteEach_nil ?_
  exact h .next _ _ _ (r2.ev ev3 H3) ((ev1.trans ev2).trans ev3.weaken) rfl (hp2 ep')

theorem ss_whileE {test : Expr} {body orelse : List Stmt} {pos : Pos} {W : WB} {W1 W2 : WS} (ht : SB X A F test W) (h1 : SL X A F body W1) (h2 : SL X A F orelse W2) :
    SS X A F (.While test body orelse pos) (fun st P => ∃ (I : Nat → St → Prop), (∃ n, I n st) ∧
      ∀ n st1, I n st1 → W st1 fun b st2 => if b then W1 st2 fun f st3 => match f with
        | .next | .cont => ∃ m, m < n ∧ I m st3
        | .brk => P .next st3
        | .ret v => P (.ret v) st3 else W2 st2 P) := by
  rintro st s r P ⟨I, ⟨n0, hI0⟩, turn⟩ Q E h
  refine wpAny_While (codeAny_whileLoop (fun n s' => ∃ st', R X F st' s' ∧ Ev F.pv F.fr st.hp s st'.hp s' ∧ I n st') ?_ n0 ⟨st, r, .refl, hI0⟩)
  rintro n s' ⟨st', r', ev', hI⟩
  refine ht st' s' r' _ (turn n st' hI) _ _ fun b st2 s2 r2 ev2 hp2 => ?_
  cases b with
  | true =>
    refine h1 st2 s2 r2 _ hp2 _ _ fun f st3 rf s3 r3 ev3 hf hp3 => ?_
    cases f with
    | next =>
      have hf' : rf = .next := hf
      subst hf'
      obtain ⟨m, hm, hI'⟩ := hp3
      exact ⟨m, hm, st3, r3, (ev'.trans ev2).trans ev3, hI'⟩
    | cont =>
      have hf' : rf = .cont := hf
      subst hf'
      obtain ⟨m, hm, hI'⟩ := hp3
      exact ⟨m, hm, st3, r3, (ev'.trans ev2).trans ev3, hI'⟩
    | brk => have hf' : rf = .brk := hf; subst hf'; exact h .next st3 _ s3 r3 ((ev'.trans ev2).trans ev3) rfl hp3
    | ret v =>
      obtain ⟨rv, rfl, hv⟩ := id hf
      exact h (.ret v) st3 _ s3 r3 ((ev'.trans ev2).trans ev3) hf hp3
  | false => exact h2 st2 s2 r2 P hp2 Q _ fun f st3 rf s3 r3 ev3 hf hp3 => h f st3 rf s3 r3 ((ev'.trans ev2).trans ev3) hf hp3

theorem dictNew {X : Cx} (h : Heap) : OAt X (h.push { cls := .type "dict", data := .dict #[] }) h.objs.size (.dict [] 0) :=
  ⟨[], ⟨_, #[], Heap.get?_push_size _ rfl, ⟨rfl, rfl, rfl⟩, rfl, fun e he => by simp at he, .nil, by simp⟩, rfl, .nil⟩
theorem se_dict0 {pos : Pos} : SE X A F (.Dict [] [] pos) (fun st P => ∀ c, st.hp c = none → P (.ref c) (st.setH c (.dict [] 0))) := by
  intro st s r P hP Q E h
  refine wpAny_Dict_empty ?_
  have e1 : Ev [] [] st.hp s (st.hp.set s.heap.objs.size (.dict [] 0)) { s with heap := s.heap.push { cls := .type "dict", data := .dict #[] } } := .alloc _ _
  exact h _ (st.setH s.heap.objs.size (.dict [] 0)) _ _ (r.ev e1 (r.H.alloc _ _ (dictNew _))) e1.weaken (.mkRef _ _) (hP _ r.H.sizeFree)

structure MethName (K : Frag) (C : Addr) (name : Str) (f : Addr) : Prop where
  get : plainGet K C name = true
  find : findIn K (.ref C) name = some (some (.ref f))
  isf : isFn K (.ref f) = true
  keep : keepIn K (.ref f) = true
theorem getMeth (B : Base X K) {C f : Addr} {name : Str} (N : MethName K C name f) {hp : Hp} {s : Shared} {a dx : Addr} {os : List (Option V)} {fs : List (Str × V)} {pl : Sem Bool} {Q : Value × List Value → Shared → Prop} {E : Value → Shared → Prop} (H : RH X hp s) (I : Inst hp a C dx os fs) (hl : fs.lookup name = none)
    (h : Q (.ref f, [.ref a]) s) : wpAny (MM X) A (getMethod (.ref a) name pl) Q E s := by
  obtain ⟨sl, es, n, I', _, _, nn, f'⟩ := I.un H
  refine method_fn (B.K.keeps H.base) I' (plainGet_of N.get).1 (plainGet_of N.get).2 N.find (beq_iff_eq.mp N.isf) ?_ h
  show (lookIn name (dictOf es n)).map _ = _
  rw [lookIn_dict, nn _ hl]; rfl
theorem se_meth0 (B : Base X K) {C f : Addr} {name : Str} (N : MethName K C name f) {d : Nat} {o : Expr} {apos pos : Pos} {W1 : WE} {W : List V → WH} {pl : Sem Bool} (hA : AOk A d) (hF : AFr A F.fr) (hf : SF X f d W) (h1 : SE X A F o W1)
    (he : eval (.Call (.Attribute o name apos) [] [] pos) F.env = (do
      let ov ← eval o F.env
      standAt apos.atName
      let (f, first) ← holding [ov] (getMethod ov name pl)
      callWith pos f first (backTo pos (starEach [] F.env)) (backToKw pos (keywordEach [] F.env)))) :
    SE X A F (.Call (.Attribute o name apos) [] [] pos) (fun st P => W1 st fun ov st1 => ∃ a dx os fs, ov = .ref a ∧ Inst st1.hp a C dx os fs ∧ fs.lookup name = none ∧ W [.ref a] st1.hp fun v hp => P v ⟨st1.lo, hp⟩) := by
  intro st s r P hP Q E h
  refine methodCall_KW (h1 st s r _ hP _ _ fun ov st1 ro s1 r1 ev1 hv1 hp1 => ?_) he
  obtain ⟨a, dx, os, fs, rfl, I, hl, hp1⟩ := hp1
  have := hv1.unRef; subst this
  refine getMeth B N r1.H I hl ?_
  refine callWith_K0 (B.K.keeps r1.H.base) N.keep ?_
  exact hf.call hA hF r1.H r1.fr (VRs.one (.mkRef _ _)) hp1 fun v hp' rv s' H' ev' hv' hp => h v ⟨st1.lo, hp'⟩ rv s' (r1.evF ev' H') (ev1.trans ev'.wpv) hv' hp
theorem se_meth (B : Base X K) {C f : Addr} {name : Str} (N : MethName K C name f) {d : Nat} {o e : Expr} {es : List Expr} {apos pos : Pos} {W1 : WE} {Ws : St → (List V → St → Prop) → Prop} {W : List V → WH} {pl : Sem Bool} (hA : AOk A d) (hF : AFr A F.fr) (hf : SF X f d W) (h1 : SE X A F o W1) (h2 : SA X A F pos (e :: es) Ws)
    (he : eval (.Call (.Attribute o name apos) (e :: es) [] pos) F.env = (do
      let ov ← eval o F.env
      standAt apos.atName
      let (f, first) ← holding [ov] (getMethod ov name pl)
      callWith pos f first (backTo pos (starEach (e :: es) F.env)) (backToKw pos (keywordEach [] F.env))))
    (hs : starEach (e :: es) F.env = (false, eval e F.env) :: starEach es F.env) (hpl : (backTo pos (starEach es F.env)).any (·.1) = false) :
    SE X A F (.Call (.Attribute o name apos) (e :: es) [] pos) (fun st P => W1 st fun ov st1 => ∃ a dx os fs, ov = .ref a ∧ Inst st1.hp a C dx os fs ∧ fs.lookup name = none ∧ Ws st1 fun vs st2 => W (.ref a :: vs) st2.hp fun v hp => P v ⟨st2.lo, hp⟩) := by
  intro st s r P hP Q E h
  refine methodCall_KW (h1 st s r _ hP _ _ fun ov st1 ro s1 r1 ev1 hv1 hp1 => ?_) he
  obtain ⟨a, dx, os, fs, rfl, I, hl, hp1⟩ := hp1
  have := hv1.unRef; subst this
  refine getMeth B N r1.H I hl ?_
  refine callWith_K (h₀ := X.h₀) B.K N.keep (h2 st1 s1 r1 _ hp1 _ _ fun vs st2 rvs s2 r2 ev2 hv2 hp2 => ⟨B.K.keeps r2.H.base, ?_⟩) hs hpl
  exact hf.call hA hF r2.H r2.fr (VRs.cons (.mkRef _ _) hv2) hp2 fun v hp' rv s' H' ev' hv' hp => h v ⟨st2.lo, hp'⟩ rv s' (r2.evF ev' H') ((ev1.trans ev2).trans ev'.wpv) hv' hp
end
end Mine
end

noncomputable section
open PySem PySem.W PyProof.Rows
namespace Mine

section
variable {X : Cx} {K : Frag} {A : Around} {F : Fx}

structure MakesName (K : Frag) (C fI : Addr) : Prop where
  makes : makesIn K C = true
  init : findIn K (.ref C) "__init__" = some (some (.ref fI))
  fn : typeIn K (.ref fI) = some (.type "function")
  keep : keepIn K (.ref C) = true
theorem AOk.under {A : Around} {d : Nat} (h : AOk A (d + 1)) (C : Addr) (rest : List Value) : AOk (A.under (.builtin "type.__call__" ⟨.ref C :: rest, []⟩)) d := by
  have h1 := h.depth
  have h2 := h.units
  refine ⟨h.handled, ?_, ?_⟩
  · show A.depth + 1 + d < 900; omega
  · show A.units + Code.cUnits (.builtin "type.__call__" ⟨.ref C :: rest, []⟩) + 10 * d < 9000
    have e : Code.cUnits (.builtin "type.__call__" ⟨.ref C :: rest, []⟩) = Code.cUnits (.builtin "type.__call__" ⟨[.ref 0], []⟩) := rfl
    have : Code.cUnits (.builtin "type.__call__" ⟨[.ref 0], []⟩) ≤ 10 := by decide +kernel
    rw [e]
    omega
theorem AFr.under {A : Around} {fr : List Addr} (h : AFr A fr) (C : Addr) (rest : List Value) : AFr (A.under (.builtin "type.__call__" ⟨.ref C :: rest, []⟩)) fr := h
noncomputable def newW (C : Addr) (Wi : List V → WH) (vs : List V) : WH := fun hp P => ∀ a dx, hp a = none → hp dx = none → a ≠ dx → Wi (.ref a :: vs) ((hp.set dx (.adict [])).set a (.inst C dx [])) fun v hp' => v = .none ∧ P (.ref a) hp'
theorem w_new (B : Base X K) {C fI : Addr} (N : MakesName K C fI) {d : Nat} {Wi : List V → WH} (hf : SF X fI d Wi) (hA : AOk A (d + 1)) {fr : List Addr} (hF : AFr A fr) {hp : Hp} {s : Shared} (H : RH X hp s) (O : FrsOk X fr hp s.heap) {vs : List V} {rvs : List Value} (hv : VRs s.heap vs rvs) {P : V → Hp → Prop} (hP : newW C Wi vs hp P)
    {Q : Value → Shared → Prop} {E : Value → Shared → Prop} (h : ∀ v hp' rv s', RH X hp' s' → Ev [] fr hp s hp' s' → VR s'.heap v rv → P v hp' → Q rv s') : wpAny (MM X) A (call (.ref C) rvs) Q E s := by
  obtain ⟨hh, g, dr, t, os⟩ := s
  have Kh : K.In hh := B.K.keeps H.base
  refine wpAny_call (make_core (makes_of Kh N.makes) (looks_findIn Kh N.init) (fun self => bind_fn Kh self N.fn) (.inl rfl) ?_)
  let s1 : Shared := ⟨hh.push emptyDict, g, dr, t, os⟩
  have H1 : RH X (hp.set hh.objs.size (.adict [])) s1 := H.alloc emptyDict (.adict []) ⟨[], 0, Heap.get?_push_size _ rfl, Nat.le_refl _, fun _ _ => rfl, fun x v hx => by simp at hx⟩
  have e1 : Ev [] fr hp ⟨hh, g, dr, t, os⟩ (hp.set hh.objs.size (.adict [])) s1 := .alloc _ _
  have hz : s1.heap.objs.size = hh.objs.size + 1 := Heap.size_push ..
  have H2 := H1.alloc (instObj C hh.objs.size) (.inst C hh.objs.size []) ⟨[], Heap.get?_push_size _ rfl, .nil⟩
  have e2 : Ev [] fr (hp.set hh.objs.size (.adict [])) s1 _ _ := .alloc (instObj C hh.objs.size) (.inst C hh.objs.size [])
  rw [hz] at H2 e2
  have hn1 : hp hh.objs.size = none := H.sizeFree
  have hn2 : hp (hh.objs.size + 1) = none := H.newFree (Nat.le_succ _)
  have k : ∀ b o, hh.get? b = some o → ((hh.push emptyDict).push (instObj C hh.objs.size)).get? b = some o := fun b o e => Heap.get?_push_of_some _ (Heap.get?_push_of_some _ e)
  have O2 := (O.ev e1).ev e2
  have hv2 : VRs ((hh.push emptyDict).push (instObj C hh.objs.size)) (.ref (hh.objs.size + 1) :: vs) (.ref (hh.objs.size + 1) :: rvs) := VRs.cons (.mkRef _ _) (hv.mono fun b i n t => k b _ t)
  refine hf _ fr (hA.under _ _) (hF.under _ _) _ _ H2 O2 _ _ hv2 _ (hP _ _ hn2 hn1 (Nat.succ_ne_self _)) _ fun v hp' rv s' H' ev' hv' hp9 => ?_
  obtain ⟨rfl, hp9⟩ := hp9
  exact ⟨hv'.unNone, h _ _ _ _ H' ((e1.trans e2).trans ev') (.mkRef _ _) hp9⟩
theorem se_new0 (B : Base X K) {C fI : Addr} (N : MakesName K C fI) {d : Nat} {Wi : List V → WH} {x : Str} {p pos : Pos} (hf : SF X fI d Wi) (hA : AOk A (d + 1)) (hF : AFr A F.fr) (hn : SE X A F (.Name x p) (fun st P => P (.con (.ref C)) st)) :
    SE X A F (.Call (.Name x p) [] [] pos) (fun st P => newW C Wi [] st.hp fun v hp => P v ⟨st.lo, hp⟩) := by
  intro st s r P hP Q E h
  refine Call_ (hn st s r (fun v st1 => v = .con (.ref C) ∧ st1 = st) ⟨rfl, rfl⟩ _ _ fun v st0 rv s0 r0 ev0 hv0 hp0 => ?_)
  obtain ⟨rfl, rfl⟩ := hp0
  have := hv0.unCon
  subst this
  refine callWith_K0 (B.K.keeps r0.H.base) N.keep ?_
  exact w_new B N hf hA hF r0.H r0.fr .nil hP fun v hp' rv s' H' ev' hv' hp => h v ⟨st0.lo, hp'⟩ rv s' (r0.evF ev' H') (ev0.trans ev'.wpv) hv' hp
theorem se_new (B : Base X K) {C fI : Addr} (N : MakesName K C fI) {d : Nat} {Wi : List V → WH} {x : Str} {p pos : Pos} {e : Expr} {es : List Expr} {Ws : St → (List V → St → Prop) → Prop} (hf : SF X fI d Wi) (hA : AOk A (d + 1)) (hF : AFr A F.fr) (hn : SE X A F (.Name x p) (fun st P => P (.con (.ref C)) st)) (ha : SA X A F pos (e :: es) Ws)
    (hs : starEach (e :: es) F.env = (false, eval e F.env) :: starEach es F.env) (hpl : (backTo pos (starEach es F.env)).any (·.1) = false) :
    SE X A F (.Call (.Name x p) (e :: es) [] pos) (fun st P => Ws st fun vs st1 => newW C Wi vs st1.hp fun v hp => P v ⟨st1.lo, hp⟩) := by
  intro st s r P hP Q E h
  refine Call_ (hn st s r (fun v st1 => v = .con (.ref C) ∧ st1 = st) ⟨rfl, rfl⟩ _ _ fun v st0 rv s0 r0 ev0 hv0 hp0 => ?_)
  obtain ⟨rfl, rfl⟩ := hp0
  have := hv0.unCon
  subst this
  refine callWith_K (h₀ := X.h₀) B.K N.keep (ha st0 s0 r0 _ hP _ _ fun vs st1 rvs s1 r1 ev1 hv1 hp1 => ⟨B.K.keeps r1.H.base, ?_⟩) hs hpl
  exact w_new B N hf hA hF r1.H r1.fr hv1 hp1 fun v hp' rv s' H' ev' hv' hp => h v ⟨st1.lo, hp'⟩ rv s' (r1.evF ev' H') ((ev0.trans ev1).trans ev'.wpv) hv' hp

noncomputable def callW (X : Cx) (d : Nat) (v : V) (vs : List V) : WH := fun hp P => ∃ f W, v = .con (.ref f) ∧ (∃ o fd, X.h₀.get? f = some o ∧ o.data = .func fd) ∧ SF X f d W ∧ W vs hp P
theorem se_callv {x : Str} {p pos : Pos} {d : Nat} {e : Expr} {es : List Expr} {W1 : WE} {Ws : St → (List V → St → Prop) → Prop} (hA : AOk A d) (hF : AFr A F.fr)
    (hn : SE X A F (.Name x p) W1) (ha : SA X A F pos (e :: es) Ws) (he : starEach (e :: es) F.env = (false, eval e F.env) :: starEach es F.env) :
    SE X A F (.Call (.Name x p) (e :: es) [] pos) (fun st P => W1 st fun fv st1 => (∃ f, fv = .con (.ref f) ∧ ∃ o fd, X.h₀.get? f = some o ∧ o.data = .func fd) ∧ Ws st1 fun vs st2 => callW X d fv vs st2.hp fun v hp => P v ⟨st2.lo, hp⟩) := by
  intro st s r P hP Q E h
  refine Call_ (hn st s r _ hP _ _ fun v st0 rv s0 r0 ev0 hv0 hp0 => ?_)
  obtain ⟨⟨f, rfl, o, fd, ho, hd⟩, hp0⟩ := hp0
  have := hv0.unCon
  subst this
  refine callWith_def hd (ha st0 s0 r0 _ hp0 _ _ fun vs st1 rvs s1 r1 ev1 hv1 hp1 => ⟨r1.H.base _ _ ho, ?_⟩) he
  obtain ⟨f', W, ef, _, hf, hp1⟩ := hp1
  cases ef
  exact hf.call hA hF r1.H r1.fr hv1 hp1 fun v hp' rv s' H' ev' hv' hp => h v ⟨st1.lo, hp'⟩ rv s' (r1.evF ev' H') ((ev0.trans ev1).trans ev'.wpv) hv' hp

theorem nx_item {s : Shared} {it l : Addr} {i : Nat} {items : Array Value} {x : Value} {Q : Fin → Shared → Prop} {E : Value → Shared → Prop} (hit : IsLI s.heap it l i) (hl : s.heap.IsList l items) (hx : items[i]? = some x)
    (hQ : ∀ h', IsLI h' it l (i + 1) → Heap.SameBut it s.heap h' → Q (.done (.ret x)) { s with heap := h' }) : wpAny (MM X) A (Builtin.«list_iterator.__next__» ⟨[.ref it], []⟩) Q E s := by
  obtain ⟨ol, hol, _, nl, hdl⟩ := hl
  show wpAny _ _ (field (.ref it) 0 >>= _) _ _ s
  refine wpAny_bind (wpAny_field hit rfl (x := .ref l) rfl ?_)
  show wpAny _ _ (if (Value.ref l == Value.none) = true then _ else _) _ _ s
  rw [if_neg (show ¬ ((Value.ref l == Value.none) = true) from Bool.false_ne_true)]
  show wpAny _ _ (field (.ref it) 1 >>= _) _ _ s
  refine wpAny_bind (wpAny_field hit rfl (x := .int i 0) rfl ?_)
  show wpAny _ _ (seqItems? (.ref l) >>= _) _ _ s
  refine wpAny_bind (wpAny_seqItems hol hdl ?_)
  simp only [Int.toNat_natCast, hx]
  refine wpAny_bind (wpAny_setField hit rfl (by simp) (wpAny_pure (hQ _ ?_ (Heap.SameBut.update ..))))
  exact Heap.get?_update_self (Obj.mapFields (·.setIfInBounds 1 (rawInt ((i : Int) + 1)))) hit rfl
theorem nx_end {s : Shared} {it l : Addr} {i : Nat} {items : Array Value} {Q : Fin → Shared → Prop} {E : Value → Shared → Prop} (hit : s.heap.IsListIter it l i) (hl : s.heap.IsList l items) (hx : items[i]? = none) (hh : A.handled = none)
    (hE : ∀ h' e t ob, Heap.ExtBut it s.heap h' → s.heap.get? e = none → h'.get? it = some ob → NotTup ob → h'.get? e = some { cls := .type "StopIteration", data := .fields #[t, .none, .none, .none, .bool false, .none] } → E (.ref e) { s with heap := h' }) :
    wpAny (MM X) A (Builtin.«list_iterator.__next__» ⟨[.ref it], []⟩) Q E s := by
  obtain ⟨o, ho, hc, hd⟩ := id hit
  obtain ⟨ol, hol, _, nl, hdl⟩ := hl
  show wpAny _ _ (field (.ref it) 0 >>= _) _ _ s
  refine wpAny_bind (wpAny_field ho hd (x := .ref l) rfl ?_)
  show wpAny _ _ (if (Value.ref l == Value.none) = true then _ else _) _ _ s
  rw [if_neg (show ¬ ((Value.ref l == Value.none) = true) from Bool.false_ne_true)]
  show wpAny _ _ (field (.ref it) 1 >>= _) _ _ s
  refine wpAny_bind (wpAny_field ho hd (x := .int i 0) rfl ?_)
  show wpAny _ _ (seqItems? (.ref l) >>= _) _ _ s
  refine wpAny_bind (wpAny_seqItems hol hdl ?_)
  simp only [Int.toNat_natCast, hx]
  refine wpAny_bind (wpAny_rule (wpAny_bind (wpAny_setField ho hd (by simp) ?_)))
  show wpAny _ _ (newExc (.type "StopIteration") [] >>= _) _ _ _
  refine wpAny_bind ?_
  simp only [newExc, newTuple]
  refine wpAny_bind (wpAny_newObj_type ?_ (by size_fits))
  refine wpAny_bind (m := firstArgMember _ _) (wpAny_of_eq (a := Value.none) (by first | rfl | (simp only [firstArgMember]; rfl)) ?_)
  refine wpAny_newObj_type ?_ (by size_fits)
  refine wpAny_raiseNew_none hh ?_
  have hup := Heap.get?_update_self (Obj.mapFields (·.setIfInBounds 0 Value.none)) ho (Obj.isFreed_of_fields (Obj.data_mapFields hd _))
  refine hE _ _ _ _ (((Heap.SameBut.update ..).extBut.push _).push _) ?_ (Heap.get?_push_of_some _ (Heap.get?_push_of_some _ hup)) (.of_cls ((Obj.cls_mapFields ..).trans hc) (by simp)) (Heap.get?_push_size _ rfl)
  refine get_ge ?_
  rw [Heap.size_push]
  have : (s.heap.update it (Obj.mapFields (·.setIfInBounds 0 Value.none))).objs.size = s.heap.objs.size := (Heap.SameBut.update s.heap it _).1
  exact Nat.le_succ_of_le (Nat.le_of_eq this.symm)
end
end Mine
end

noncomputable section
open PySem PySem.W PyProof.Rows
namespace Mine

section
variable {X : Cx} {K : Frag} {A : Around} {F : Fx}

theorem pn_end {s : Shared} {it l : Addr} {i : Nat} {items : Array Value} {Q : Option Value → Shared → Prop} {E : Value → Shared → Prop} (hit : s.heap.IsListIter it l i) (hl : s.heap.IsList l items) (hx : items[i]? = none) (hh : A.handled = none)
    (h : ∀ h' ob, Heap.ExtBut it s.heap h' → h'.get? it = some ob → NotTup ob → Q none { s with heap := h' }) : wpAny (MM X) A (pyNext (.ref it)) Q E s := by
  unfold pyNext
  refine wpAny_bind (wpAny_attempt (wpAny_callSpecial?_slot (name := Str.ofString "__next__") hit.typeIs slot_listiter_next
    (wpAny_call_entry slot_listiter_next hit.typeIs entry_listiter_next (nx_end hit hl hx hh fun h' e t ob hx' hn ho nt he => ?_) (args_listiter_next _))))
  refine wpAny_bind (wpAny_isInstance (T := "StopIteration") (b := true) ⟨_, he, rfl⟩ isSubtype_stop ?_)
  exact wpAny_pure (h h' ob hx' ho nt)

theorem pn_item {s : Shared} {it l : Addr} {i : Nat} {items : Array Value} {x : Value} {Q : Option Value → Shared → Prop} {E : Value → Shared → Prop} (hit : IsLI s.heap it l i) (hl : s.heap.IsList l items) (hx : items[i]? = some x)
    (h : ∀ h', IsLI h' it l (i + 1) → Heap.SameBut it s.heap h' → Q (some x) { s with heap := h' }) : wpAny (MM X) A (pyNext (.ref it)) Q E s := by
  unfold pyNext
  refine wpAny_bind (wpAny_attempt (wpAny_callSpecial?_slot (name := Str.ofString "__next__") hit.li.typeIs slot_listiter_next
    (wpAny_call_entry slot_listiter_next hit.li.typeIs entry_listiter_next (nx_item hit hl hx fun h' J' sb => ⟨x, rfl, wpAny_pure (h h' J' sb)⟩) (args_listiter_next _))))

noncomputable def literSrc (a : Addr) : Src where
  nx := fun i hp r => ∃ l j xs, hp a = some (.liter l j) ∧ hp l = some (.list xs) ∧ r = xs[j]?
  adv := fun i hp => match hp a with | some (.liter l j) => hp.set a (.liter l (j + 1)) | _ => hp
  fin := fun i hp => hp.set a .dead
theorem RH.writeX {hp : Hp} {s : Shared} {a : Addr} {o o' : O} {h' : Heap} {t : Nat} (H : RH X hp s) (ha : hp a = some o) (x : Heap.ExtBut a s.heap h') (ho : TK s.heap h' → OAt X h' a o') : RH X (hp.set a o') { s with heap := h', toks := t } ∧ EvX [] [] hp s (hp.set a o') { s with heap := h', toks := t } := by
  have ne : ∀ b, hp b = none → b ≠ a := fun b n e => by subst e; rw [ha] at n; cases n
  have tk : TK s.heap h' := fun b i n t => x b _ (ne b (H.notTup t)) t
  have ho' := ho tk
  refine ⟨⟨fun b ob e => x b ob (ne b (H.bfree b ob e)) (H.base b ob e), fun b ob e => by rw [Hp.set_ne _ _ (ne b (H.bfree b ob e))]; exact H.bfree b ob e, fun b ob e => ?_⟩, ⟨fun b ob _ _ e n => x b ob (ne b n) e, fun b ob _ q => by simp at q, fun b ob _ e n => by rw [Hp.set_ne _ _ (ne b n)]; exact n, fun b ob _ e => ?_, ⟨h', t, rfl⟩⟩⟩
  · by_cases q : b = a
    · subst q; rw [Hp.set_self] at e; cases e; exact ho'
    · rw [Hp.set_ne _ _ q] at e
      exact (H.own b ob e).keep (fun o2 e2 => x b o2 q e2) tk
  · by_cases q : b = a
    · subst q; obtain ⟨o2, e2, _⟩ := ho'.alive; exact ⟨o2, e2⟩
    · exact ⟨ob, x b ob q e⟩
theorem itr_liter {tgt : Expr} {a : Addr} (hA : A.handled = none) : Itr X A tgt (.ref a) (literSrc a) [] [] (fun _ _ => True) where
  sub := fun _ h => h
  frame := fun _ _ _ _ _ _ => trivial
  alive := fun _ _ _ b hb => by simp at hb
  notTup := fun _ _ _ b hb => by simp at hb
  item := by
    rintro i hp s v H _ _ ⟨l, j, xs, ha, hl, hv⟩ K0 Q E h
    have hit : IsLI s.heap a l j := H.own _ _ ha
    obtain ⟨vs, p1, q1⟩ := H.own _ _ hl
    obtain ⟨rv, e1, e2⟩ := q1.get hv.symm
    have hadv : (literSrc a).adv i hp = hp.set a (.liter l (j + 1)) := by simp [literSrc, ha]
    rw [hadv] at h
    refine pn_item (x := rv) hit p1.isList (by simpa using e1) fun h' J' sb => ?_
    refine letGo_listiter J'.li (h rv _ (H.write (t := s.toks) (o' := .liter l (j + 1)) ha sb fun _ => J') (.write (t := s.toks) ha sb ⟨_, J'⟩) (e2.mono ?_) trivial)
    intro b items m hb
    have n := H.notTup hb
    exact (sb.2 b fun e => by subst e; rw [n] at ha; cases ha).trans hb
  done := by
    rintro i hp s H _ _ ⟨l, j, xs, ha, hl, hv⟩ K0 G E h
    have hit : s.heap.IsListIter a l j := IsLI.li (H.own _ _ ha)
    obtain ⟨vs, p1, q1⟩ := H.own _ _ hl
    have hn : vs[j]? = none := by
      rw [List.getElem?_eq_none_iff, q1.length]; exact List.getElem?_eq_none_iff.mp hv.symm
    refine pn_end hit p1.isList (by simpa using hn) hA fun h' ob x ho nt => ?_
    obtain ⟨H2, x2⟩ := H.writeX (t := s.toks) (o' := .dead) ha x fun _ => ⟨ob, ho, nt⟩
    exact h _ H2 x2
  self := fun i hp s H _ hn Q E h => by
    obtain ⟨r, l, j, xs, ha, _⟩ := hn
    exact wpAny_pyIter_listiter (l := l) (i := j) (IsLI.li (H.own _ _ ha)) h
theorem si_liter {e tgt : Expr} {W : WE} (hA : A.handled = none) (he : SE X A F e W) : SI X A F e tgt (fun st P => W st fun v st1 => ∃ a l j, v = .ref a ∧ st1.hp a = some (.liter l j) ∧ P (literSrc a) st1) := by
  intro st s r P hP Q E h
  refine he st s r _ hP _ _ fun v st1 rv s1 r1 ev1 hv hp1 => ?_
  obtain ⟨a, l, j, rfl, ha, hp1⟩ := hp1
  have := hv.unRef; subst this
  refine wpAny_pyIter_listiter (l := l) (i := j) (IsLI.li (r1.H.own _ _ ha)) ?_
  exact h (literSrc a) st1 _ _ [] [] _ r1 ev1 (itr_liter hA) trivial (by simp) (by simp) hp1

end
end Mine
end

noncomputable section
open PySem PySem.W PyProof.Rows
namespace Mine
theorem nx_ga : Slot "list_iterator" "__getattribute__" "object.__getattribute__" :=
  .of (owner := "object") (n := "__getattribute__") (by rw [typeLookup_type, builtinLookup_eq_fast]; kernel_rfl) (by decide +kernel) (by decide +kernel) (by decide +kernel) (by decide +kernel) (by rw [isSubtype_type]; kernel_rfl)
theorem nx_next : typeLookup (.type "list_iterator") "__next__" = pure (some (.builtin "list_iterator.__next__")) := by rw [typeLookup_type, builtinLookup_eq_fast]; kernel_rfl
theorem nx_type : typeOf (.builtin "list_iterator.__next__") = pure (.type "wrapper_descriptor") := by kernel_rfl
theorem nx_get : Slot "wrapper_descriptor" "__get__" "wrapper_descriptor.__get__" :=
  .of (owner := "wrapper_descriptor") (n := "__get__") (by rw [typeLookup_type, builtinLookup_eq_fast]; kernel_rfl) (by decide +kernel) (by decide +kernel) (by decide +kernel) (by decide +kernel) (by rw [isSubtype_type]; kernel_rfl)
theorem nx_set : typeLookup (.type "wrapper_descriptor") "__set__" = pure none := by rw [typeLookup_type, builtinLookup_eq_fast]; kernel_rfl
theorem nx_del : typeLookup (.type "wrapper_descriptor") "__delete__" = pure none := by rw [typeLookup_type, builtinLookup_eq_fast]; kernel_rfl
theorem nx_entry : entryFor table "wrapper_descriptor.__get__" = some Builtin.«wrapper_descriptor.__get__» := entryFor_of_tree (by kernel_rfl)
theorem nx_args (a b c : Value) : argsOk "wrapper_descriptor.__get__" ⟨[a, b, c], []⟩ := by unfold argsOk; kernel_rfl
theorem nx_sub : isSubtype (.type "list_iterator") (.type "list_iterator") = pure true := by rw [isSubtype_type]; kernel_rfl
abbrev nextObj (it : Addr) : Obj := { cls := .type "method-wrapper", dict := none, data := .fields #[.builtin "list_iterator.__next__", .ref it], slots := #[] }
section
variable {X : Cx} {A : Around} {F : Fx}
theorem nx_found {s : Shared} {it l : Addr} {i : Nat} {Q : Builtin.ObjectAttr.Found → Shared → Prop} {E : Value → Shared → Prop} (hit : IsLI s.heap it l i)
    (h : Q (.bind (.builtin "wrapper_descriptor.__get__") (.builtin "list_iterator.__next__")) s) : wpAny (MM X) A (Builtin.ObjectAttr.find (.ref it) (.type "list_iterator") "__next__") Q E s := by
  obtain ⟨hp, g, d, tk, os⟩ := s
  have f1 := nx_next
  have f2 := nx_type
  have f3 := nx_get.lookup
  have f4 := nx_set
  have f5 := nx_del
  unfold Builtin.ObjectAttr.find
  repeat (any_goals (first | assumption | wp_step))
theorem nx_bound {s : Shared} {it l : Addr} {i : Nat} {Q : Value → Shared → Prop} {E : Value → Shared → Prop} (hit : IsLI s.heap it l i)
    (h : Q (.ref s.heap.objs.size) { s with heap := s.heap.push (nextObj it) }) : wpAny (MM X) A (call (.builtin "wrapper_descriptor.__get__") [.builtin "list_iterator.__next__", .ref it, .type "list_iterator"]) Q E s := by
  obtain ⟨hp, g, d, tk, os⟩ := s
  refine wpAny_call_entry nx_get (by exact nx_type) nx_entry ?_ (nx_args _ _ _)
  have f6 := nx_sub
  have hT : Shared.TypeIs ⟨hp, g, d, tk, os⟩ (.ref it) "list_iterator" := ⟨_, hit, rfl⟩
  unfold Builtin.«wrapper_descriptor.__get__»
  repeat (any_goals (first | assumption | wp_step))
  have e9 : ".".intercalate ("list_iterator.__next__".cutAt '.').dropLast = "list_iterator" := by decide +kernel
  rw [e9]
  repeat (any_goals (first | assumption | wp_step))
  exact ⟨_, rfl, h⟩
theorem nx_attr {s : Shared} {it l : Addr} {i : Nat} {Q : Value → Shared → Prop} {E : Value → Shared → Prop} (hit : IsLI s.heap it l i)
    (h : Q (.ref s.heap.objs.size) { s with heap := s.heap.push (nextObj it), toks := s.toks + 1 }) : wpAny (MM X) A (getAttr (.ref it) "__next__" true) Q E s := by
  have hT : Shared.TypeIs s (.ref it) "list_iterator" := ⟨_, hit, rfl⟩
  unfold getAttr getAttrBy
  refine wpAny_bind (wpAny_mkText (wpAny_holding (wpAny_bind (wpAny_typeOf hT (wpAny_bind (wpAny_of_eq nx_ga.lookup ?_))))))
  show wpAny _ _ (getAttrByItsOwn (.ref it) (.str "__next__" s.toks) (.type "list_iterator") (.builtin "object.__getattribute__") true true) _ _ _
  unfold getAttrByItsOwn hookBefore callGetattribute boundAndCalled
  refine wpAny_bind (wpAny_pure (wpAny_bind (wpAny_attempt (wpAny_holding ?_))))
  show wpAny _ _ (bindSpecial (.builtin "object.__getattribute__") (.ref it) >>= _) _ _ _
  rw [nx_ga.bind]
  refine wpAny_bind (wpAny_pure ?_)
  show wpAny _ _ (call (.builtin "object.__getattribute__") [.ref it, .str "__next__" s.toks]) _ _ _
  refine wpAny_call_entry nx_ga (s := { s with toks := s.toks + 1 }) ⟨_, hit, rfl⟩ PySem.F.entry_object_getattribute ?_ (PySem.F.args_object_getattribute_2 _ _)
  unfold Builtin.«object.__getattribute__»
  refine wpAny_bind (wpAny_pure ?_)
  refine wpAny_bind (wpAny_pure ?_)
  refine wpAny_bind (wpAny_typeOf (s := { s with toks := s.toks + 1 }) ⟨_, hit, rfl⟩ ?_)
  refine wpAny_bind (nx_found (s := { s with toks := s.toks + 1 }) hit ?_)
  show wpAny _ _ (Builtin.ObjectAttr.bindTo (.builtin "wrapper_descriptor.__get__") (.builtin "list_iterator.__next__") (.ref it) (.type "list_iterator")) _ _ _
  unfold Builtin.ObjectAttr.bindTo
  show wpAny _ _ (holding [.builtin "list_iterator.__next__"] (call (.builtin "wrapper_descriptor.__get__") [.builtin "list_iterator.__next__", .ref it, .type "list_iterator"]) >>= _) _ _ _
  refine wpAny_bind (wpAny_holding (nx_bound (s := { s with toks := s.toks + 1 }) hit ?_))
  refine wpAny_pure ⟨_, rfl, ?_⟩
  exact wpAny_pure h
noncomputable def nextW (v : V) : WH := fun hp P => ∃ it l i, v = .ref it ∧ hp it = some (.liter l i) ∧ ∀ c, hp c = none → P (.ref c) (hp.set c (.nextm it))
theorem so_next {hp : Hp} {s : Shared} {v : V} {rv : Value} (H : RH X hp s) (hv : VR s.heap v rv) : SO X A (getAttr rv "__next__" true) hp s (nextW v hp) := by
  rintro P ⟨it, l, i, rfl, e, hP⟩ Q E h
  have := hv.unRef; subst this
  refine nx_attr (H.own _ _ e) ?_
  have H1 := H.alloc (nextObj it) (.nextm it) (Heap.get?_push_size _ rfl)
  exact h _ _ _ _ (H1.toks _) ((Ev.alloc (nextObj it) (.nextm it)).trans (.toks _)) (.mkRef _ _) (hP _ H.sizeFree)
end
end Mine
end

noncomputable section
open PySem PySem.W PyProof.Rows
namespace Mine

noncomputable def ExcOk (h : Heap) (e : Addr) (cls : Value) (wr : List Addr) : Prop :=
  (∃ oe vs a0, h.get? e = some oe ∧ oe.cls = cls ∧ oe.data = .fields vs ∧ vs[0]? = some a0 ∧ vs[1]? = some .none ∧ wr = [e]) ∨
  (∃ oe vs a0 T oT ts, h.get? e = some oe ∧ oe.cls = cls ∧ oe.data = .fields vs ∧ vs[0]? = some a0 ∧ vs[1]? = some (.ref T) ∧ T ≠ e ∧ h.get? T = some oT ∧ oT.data = .fields ts ∧ ts[3]? = some .none ∧ wr = [e, T])
theorem ExcOk.cls {h : Heap} {e : Addr} {cls : Value} {wr : List Addr} (x : ExcOk h e cls wr) : ∃ oe, h.get? e = some oe ∧ oe.cls = cls := by
  rcases x with ⟨oe, _, _, h1, h2, _⟩ | ⟨oe, _, _, _, _, _, h1, h2, _⟩ <;> exact ⟨oe, h1, h2⟩
theorem ExcOk.mem {h : Heap} {e : Addr} {cls : Value} {wr : List Addr} (x : ExcOk h e cls wr) : e ∈ wr := by
  rcases x with ⟨_, _, _, _, _, _, _, _, rfl⟩ | ⟨_, _, _, _, _, _, _, _, _, _, _, _, _, _, _, rfl⟩ <;> simp
theorem ExcOk.rec {h : Heap} {e : Addr} {cls : Value} {wr : List Addr} (x : ExcOk h e cls wr) : ∀ b ∈ wr, ∃ o vs, h.get? b = some o ∧ o.data = .fields vs := by
  rcases x with ⟨oe, vs, _, h1, _, h3, _, _, rfl⟩ | ⟨oe, vs, _, T, oT, ts, h1, _, h3, _, _, _, h7, h8, _, rfl⟩
  · intro b hb; simp at hb; subst hb; exact ⟨_, _, h1, h3⟩
  · intro b hb
    simp at hb
    rcases hb with rfl | rfl
    · exact ⟨_, _, h1, h3⟩
    · exact ⟨_, _, h7, h8⟩
theorem ExcOk.not {h : Heap} {e : Addr} {cls : Value} {wr : List Addr} (x : ExcOk h e cls wr) : ∀ b ∈ wr, ∀ o, h.get? b = some o → NotTup o := by
  intro b hb o e
  obtain ⟨o', vs, e', d⟩ := x.rec b hb
  rw [e] at e'; cases e'
  rintro i n rfl
  cases d

theorem EnvsAre.frames {h base : Heap} : ∀ {envs : List Env} {fr : List Addr}, EnvsAre envs fr → (∀ b ∈ fr, base.get? b = none ∧ ∃ o es ep, h.get? b = some o ∧ o.data = .dict es ep) → h.FunFrames base envs
  | [], [], _, _ => trivial
  | e :: envs, a :: fr, ⟨hk, hf, hr⟩, hb => by
    obtain ⟨n, o, es, ep, ho, hd⟩ := hb a (.head _)
    exact ⟨by rw [hk]; simp, ⟨a, o, hf, n, ho, fun vs q => by rw [hd] at q; cases q⟩, hr.frames fun b h => hb b (.tail _ h)⟩
  | [], _ :: _, x, _ => x.elim
  | _ :: _, [], x, _ => x.elim

section
variable {X : Cx} {K : Frag} {A : Around} {F : Fx}

theorem exc_note {st : St} {s : Shared} {e : Addr} {cls : Value} {wr : List Addr} {Q : Unit → Shared → Prop} {E : Value → Shared → Prop} (hF : AFx A F) (r : R X F st s) (x : ExcOk s.heap e cls wr) (off : ∀ b ∈ wr, Off X F st.hp b)
    (h : ∀ s₃ wr', R X F st s₃ → EvX wr F.fr st.hp s st.hp s₃ → ExcOk s₃.heap e cls wr' → (∀ b ∈ wr', b ∈ wr ∨ s.heap.get? b = none) → Q () s₃) :
    wpAny (MM X) A (noteFrame (.ref e) F.env) (fun _ s₂ => wpAny (MM X) A (setFlight (.ref e) none) Q E s₂) E s := by
  obtain ⟨envs, fr, L, h1, h2, h3, h4, h5⟩ := hF
  let base := hideAll s.heap (F.fr ++ wr)
  have bnone : ∀ b ∈ F.fr ++ wr, base.get? b = none := fun b hb => hideAll_none _ hb
  have bget : ∀ b o, b ∉ F.fr → b ∉ wr → s.heap.get? b = some o → base.get? b = some o := fun b o n1 n2 q => hideAll_get _ q fun hm => (List.mem_append.mp hm).elim n1 n2
  have stays : base.StaysIn s.heap := fun b o q => of_hideAll _ q
  have hfr0 : ∀ b ∈ F.fr, base.get? b = none ∧ ∃ o es ep, s.heap.get? b = some o ∧ o.data = .dict es ep := fun b hb => ⟨bnone b (List.mem_append_left _ hb), (r.fr b hb).2.2⟩
  have hfun : s.heap.FunFrames base (F.env :: envs) := EnvsAre.frames (envs := F.env :: envs) (fr := L :: fr) ⟨h5, h2, h4⟩ (by rw [← h3]; exact hfr0)
  have hen : base.get? e = none := bnone e (List.mem_append_right _ x.mem)
  have fin : ∀ (a0 : Value) (h' : Heap), Heap.NotedW base (F.env :: envs) e cls a0 (rawInt L) s.heap h' → wpAny (MM X) A (setFlight (.ref e) none) Q E { s with heap := h' } := by
    rintro a0 h' ⟨k1, k2, k3, k4⟩
    refine wpAny_setFlight_noneW k1 k2 k3 fun h'' j1 j2 j3 j4 => ?_
    have up : ∀ b o, s.heap.get? b = some o → (∀ vs, o.data ≠ .fields vs) → ∃ sl, h''.get? b = some { o with slots := sl } := fun b o q n => by
      obtain ⟨sl, q'⟩ := k4 b o q n
      exact ⟨sl, j4 b _ q' n⟩
    have ex : EvX wr F.fr st.hp s st.hp { s with heap := h'' } := by
      refine ⟨fun b o n1 n2 q _ => j1 b o (bget b o n2 n1 q), fun b o n1 n2 q _ => ?_, fun _ _ _ _ n => n, fun b o n1 q => ?_, ⟨h'', s.toks, rfl⟩⟩
      · obtain ⟨_, _, o', es, ep, q', d⟩ := r.fr b n2
        rw [q] at q'; cases q'
        exact up b o q fun vs z => by rw [d] at z; cases z
      · by_cases n2 : b ∈ F.fr
        · obtain ⟨_, _, o', es, ep, q', d⟩ := r.fr b n2
          obtain ⟨sl, q''⟩ := up b o' q' fun vs z => by rw [d] at z; cases z
          exact ⟨_, q''⟩
        · exact ⟨o, j1 b o (bget b o n2 n1 q)⟩
    have tk := ex.tk r.H x.not r.fr.not
    have H' : RH X st.hp { s with heap := h'' } := by
      refine ⟨fun b o q => j1 b o (bget b o (fun hb => ?_) (fun hb => ?_) (r.H.base b o q)), r.H.bfree, fun a o q => (r.H.own a o q).keep (fun ob z => j1 a ob (bget a ob (fun hb => ?_) (fun hb => ?_) z)) tk⟩
      · rw [(r.fr b hb).2.1] at q; cases q
      · rw [(off b hb).base] at q; cases q
      · rw [(r.fr a hb).1] at q; cases q
      · rw [(off a hb).own] at q; cases q
    have r' : R X F st { s with heap := h'' } := r.evX H' ex x.not off
    obtain ⟨oe, vs, T, oT, ts, e1, ⟨e2, e3⟩, e4, e5, e6, e7, e8, e9, e10⟩ := j3
    refine h _ [e, T] r' ex (.inr ⟨oe, vs, a0, T, oT, ts, e1, e2, e4, e3, e5, e7, e8, e9, e10, rfl⟩) fun b hb => ?_
    simp at hb
    rcases hb with rfl | rfl
    · exact .inl x.mem
    · by_cases hw : b ∈ wr
      · exact .inl hw
      · refine .inr ?_
        cases q : s.heap.get? b with
        | none => rfl
        | some o =>
          by_cases hf : b ∈ F.fr
          · obtain ⟨_, _, o', es, ep, q', d⟩ := r'.fr b hf
            have q'' : h''.get? b = some o' := q'
            rw [e8] at q''; cases q''
            rw [e9] at d; cases d
          · have := bget b o hf hw q
            rw [e6] at this; cases this
  rcases x with ⟨oe, vs, a0, x1, x2, x3, x4, x5, x6⟩ | ⟨oe, vs, a0, T, oT, ts, x1, x2, x3, x4, x5, x6, x7, x8, x9, x10⟩
  · subst x2
    unfold noteFrame
    simp only [h2]
    refine wpAny_bind (wpAny_field x1 x3 x5 ?_)
    rw [if_neg (by simp)]
    refine wpAny_entryW h1 hfun h2 x1 stays hen x3 ?_ x4 fun h' hN => fin a0 h' hN
    exact (Array.getElem?_eq_some_iff.mp x5).1
  · refine wpAny_noteFrame_onW (cls := cls) (a0 := a0) h1 hfun h2 ⟨oe, vs, T, oT, ts, x1, ⟨x2, x4⟩, x3, x5, ?_, x6, x7, x8, x9⟩ stays hen fun h' hN => fin a0 h' hN
    exact bnone T (List.mem_append_right _ (by rw [x10]; simp))
end
end Mine
end

noncomputable section
open PySem PySem.W PyProof.Rows
namespace Mine

section
variable {X : Cx} {K : Frag} {A : Around} {F : Fx}

abbrev WEx := St → (V → St → Prop) → (St → Prop) → Prop
abbrev WSx := St → (Fl → St → Prop) → (St → Prop) → Prop
noncomputable def Raised (X : Cx) (F : Fx) (cls : Value) (st : St) (s : Shared) (PE : St → Prop) (E : Value → Shared → Prop) : Prop := ∀ st' s' e wr, R X F st' s' → Ev F.pv F.fr st.hp s st'.hp s' → ExcOk s'.heap e cls wr → (∀ b ∈ wr, Off X F st'.hp b) → (∀ b ∈ wr, s.heap.get? b = none) → PE st' → E (.ref e) s'
noncomputable def SEx (X : Cx) (A : Around) (F : Fx) (cls : Value) (e : Expr) (W : WEx) : Prop := ∀ st s, R X F st s → ∀ P PE, W st P PE → ∀ (Q : Value → Shared → Prop) (E : Value → Shared → Prop),
  (∀ v st' rv s', R X F st' s' → Ev F.pv F.fr st.hp s st'.hp s' → VR s'.heap v rv → P v st' → Q rv s') → Raised X F cls st s PE E → wpAny (MM X) A (eval e F.env) Q E s
noncomputable def SSx (X : Cx) (A : Around) (F : Fx) (cls : Value) (c : Stmt) (W : WSx) : Prop := ∀ st s, R X F st s → ∀ P PE, W st P PE → ∀ (Q : Flow → Shared → Prop) (E : Value → Shared → Prop),
  (∀ f st' rf s', R X F st' s' → Ev F.pv F.fr st.hp s st'.hp s' → FR s'.heap f rf → P f st' → Q rf s') → Raised X F cls st s PE E → wpAny (MM X) A (exec c F.env) Q E s
noncomputable def SLx (X : Cx) (A : Around) (F : Fx) (cls : Value) (c : List Stmt) (W : WSx) : Prop := ∀ st s, R X F st s → ∀ P PE, W st P PE → ∀ (Q : Flow → Shared → Prop) (E : Value → Shared → Prop),
  (∀ f st' rf s', R X F st' s' → Ev F.pv F.fr st.hp s st'.hp s' → FR s'.heap f rf → P f st' → Q rf s') → Raised X F cls st s PE E → wpAny (MM X) A (execs c F.env) Q E s

theorem Raised.later {cls : Value} {st st1 : St} {s s1 : Shared} {PE : St → Prop} {E : Value → Shared → Prop} (h : Raised X F cls st s PE E) (ev : Ev F.pv F.fr st.hp s st1.hp s1) : Raised X F cls st1 s1 PE E :=
  fun st' s' e wr r' ev' x off new hp => h st' s' e wr r' (ev.trans ev') x off (fun b hb => newer ev (new b hb)) hp

theorem sx_of {cls : Value} {c : Stmt} {W : WS} (h : SS X A F c W) : SSx X A F cls c (fun st P PE => W st P) := fun st s r P PE hP Q E k _ => h st s r P hP Q E k
theorem sx_nil {cls : Value} : SLx X A F cls [] (fun st P PE => P .next st) := fun st s r P PE hP Q E k _ => ss_nil st s r P hP Q E k
theorem ss_never {c : List Stmt} : SL X A F c (fun _ _ => False) := fun st s r P hP => hP.elim
theorem sx_cons {cls : Value} {c : Stmt} {cs : List Stmt} {W : WSx} {Ws : WSx} (h1 : SSx X A F cls c W) (h2 : SLx X A F cls cs Ws) :
    SLx X A F cls (c :: cs) (fun st P PE => W st (fun f st1 => match f with | .next => Ws st1 P PE | f => P f st1) PE) := by
  intro st s r P PE hP Q E h hE
  refine wpAny_execs_cons (h1 st s r _ PE hP _ _ (fun f st1 rf s1 r1 ev1 hf hp1 => ?_) hE)
  cases f with
  | next =>
    have hf' : rf = .next := hf
    subst hf'
    exact h2 st1 s1 r1 P PE hp1 Q E (fun f st2 rf s2 r2 ev2 hf2 hp2 => h f st2 rf s2 r2 (ev1.trans ev2) hf2 hp2) (hE.later ev1)
  | brk => have hf' : rf = .brk := hf; subst hf'; exact h .brk st1 _ s1 r1 ev1 rfl hp1
  | cont => have hf' : rf = .cont := hf; subst hf'; exact h .cont st1 _ s1 r1 ev1 rfl hp1
  | ret v =>
    obtain ⟨rv, rfl, hv⟩ := id hf
    exact h (.ret v) st1 _ s1 r1 ev1 hf hp1
theorem sx_if {cls : Value} {test : Expr} {body orelse : List Stmt} {pos : Pos} {W : WB} {W1 W2 : WSx} (ht : SB X A F test W) (h1 : SLx X A F cls body W1) (h2 : SLx X A F cls orelse W2) :
    SSx X A F cls (.If test body orelse pos) (fun st P PE => W st fun b st1 => if b then W1 st1 P PE else W2 st1 P PE) := by
  intro st s r P PE hP Q E h hE
  refine wpAny_If (ht st s r _ hP _ _ fun b st1 s1 r1 ev1 hp1 => ?_)
  cases b with
  | true => exact h1 st1 s1 r1 P PE hp1 Q E (fun f st2 rf s2 r2 ev2 hf2 hp2 => h f st2 rf s2 r2 (ev1.trans ev2) hf2 hp2) (hE.later ev1)
  | false => exact h2 st1 s1 r1 P PE hp1 Q E (fun f st2 rf s2 r2 ev2 hf2 hp2 => h f st2 rf s2 r2 (ev1.trans ev2) hf2 hp2) (hE.later ev1)
theorem sx_assign {cls : Value} {i : Nat} {x : Str} {pos' pos : Pos} {value : Expr} {W : WEx} (hs : StOk F i x) (he : SEx X A F cls value W) (hsw : swapsWith value (some (.Name x pos')) pos.line F.env = pure false) :
    SSx X A F cls (.Assign [.Name x pos'] value pos) (fun st P PE => W st (fun v st1 => P .next (st1.setL i v)) PE) := by
  intro st s r P PE hP Q E h hE
  refine wpAny_Assign_Name (he st s r _ PE hP _ _ (fun v st1 rv s1 r1 ev1 hv hp1 => w_store hs r1 hv fun s2 r2 ev2 => ?_) hE) hsw
  exact h .next (st1.setL i v) _ s2 r2 (ev1.trans ev2) rfl hp1

theorem own_obj (B : Base X K) {x : Str} {C : Addr} {bmB : List Value} {newId : String} (e : nsIn K mainGlobals x = some (some (.ref C))) (q : excIn K C bmB newId = true) :
    ∃ bm N nm qq bs hdct sn sub ab col dd k0 k1 k2 k3 k5 mN, X.h₀.get? C = some (excClassObj nm qq C N bs bm hdct sn sub ab col dd k0 k1 k2 k3 k5 newId) ∧ X.h₀.Ns N mN ∧ mN "__init__" = none ∧ OwnTail X.h₀ bmB bm := by
  obtain ⟨p, loose, mg, mb, T⟩ := B.tr
  exact (own_of_in B.K T e q).obj
theorem sx_raise (B : Base X K) {x : Str} {C : Addr} {bmB : List Value} {Bn newId initId : String} (ex : nsIn K mainGlobals x = some (some (.ref C))) (q : excIn K C bmB newId = true) (FB : ExcBaseFacts Bn newId initId bmB) (hh : A.handled = none)
    {np cpos pos : Pos} {e : Expr} {es : List Expr} {Ws : St → (List V → St → Prop) → Prop} (hn : SE X A F (.Name x np) (fun st P => P (.con (.ref C)) st)) (ha : SA X A F cpos (e :: es) Ws)
    (he : starEach (e :: es) F.env = (false, eval e F.env) :: starEach es F.env) (hpl : (backTo cpos (starEach es F.env)).any (·.1) = false) :
    SSx X A F (.ref C) (.Raise (some (.Call (.Name x np) (e :: es) [] cpos)) none pos) (fun st P PE => Ws st fun vs st1 => vs.length < 1000 ∧ PE st1) := by
  intro st s r P PE hP Q E h hE
  obtain ⟨bm, N, nm, qq, bs, hdct, sn, sub, ab, col, dd, k0, k1, k2, k3, k5, mN, hC, hN, hni, T⟩ := own_obj B ex q
  have sl := sizeLine_ge
  refine wpAny_Raise_call_subT (C := C) (nm := nm) (q := qq) (N := N) (bs := bs) (bm := bm) (hdct := hdct) (sn := sn) (sub := sub) (ab := ab) (col := col) (dd := dd) (k0 := k0) (k1 := k1) (k2 := k2) (k3 := k3) (k5 := k5)
    FB (mN := mN) (T.hasType FB.hasBase) hh (by rw [he]; show (false || (backTo cpos (starEach es F.env)).any (·.1)) = false; rw [hpl]; rfl) hni
    (hn st s r (fun v st1 => v = .con (.ref C) ∧ st1 = st) ⟨rfl, rfl⟩ _ _ fun v st0 rv s0 r0 ev0 hv0 hp0 => ?_)
  obtain ⟨rfl, rfl⟩ := hp0
  have := hv0.unCon
  subst this
  refine ⟨rfl, ?_⟩
  have ha' := ha st0 s0 r0 _ hP
  rw [he] at ha' ⊢
  refine Calls.evalArgs_plain (ha' _ _ fun vs st1 rvs s1 r1 ev1 hv1 hp1 => ⟨rfl, ?_, r1.H.base _ _ hC, hN.keeps r1.H.base, T.keeps r1.H.base, fun h' ad M => ?_⟩)
  · have := hv1.length; have := hp1.1; show rvs.length ≤ _; omega
  · have ev2 : Ev [] [] st1.hp s1 st1.hp { s1 with heap := h' } := .keeps M.keeps ⟨h', s1.toks, rfl⟩
    have r2 : R X F st1 { s1 with heap := h' } := r1.ev ev2 (r1.H.keeps M.keeps)
    obtain ⟨t, m1, m2, m3⟩ := M.there
    refine hE st1 _ ad [ad] r2 ((ev0.trans ev1).trans ev2.weaken) (.inl ⟨_, _, _, m1, rfl, rfl, rfl, rfl, rfl⟩) (fun b hb => ?_) (fun b hb => ?_) hp1.2
    · simp at hb; subst hb; exact r1.off M.new
    · simp at hb; subst hb; exact newer (ev0.trans ev1) M.new

noncomputable def SFE (X : Cx) (cls : Value) (f : Addr) (d : Nat) (W : List V → Hp → (V → Hp → Prop) → (Hp → Prop) → Prop) : Prop := ∀ A fr, AOk A d → AFr A fr → ∀ hp s, RH X hp s → FrsOk X fr hp s.heap → ∀ args vs, VRs s.heap args vs → ∀ P PE, W args hp P PE → ∀ (R0 : Result → Shared → Prop),
  (∀ v hp' rv s', RH X hp' s' → Ev [] fr hp s hp' s' → VR s'.heap v rv → P v hp' → R0 (.ok (.ret rv)) s') →
  (∀ hp' s' e wr, RH X hp' s' → Ev [] fr hp s hp' s' → ExcOk s'.heap e cls wr → (∀ b ∈ wr, hp' b = none) → (∀ b ∈ wr, s.heap.get? b = none) → PE hp' → R0 (.error (.ref e)) s') → codeAny (MM X) A (.call (.ref f) ⟨vs, []⟩) R0 s
theorem SFE.mono {cls : Value} {f : Addr} {d : Nat} {W W' : List V → Hp → (V → Hp → Prop) → (Hp → Prop) → Prop} (h : SFE X cls f d W) (hw : ∀ args hp P PE, W' args hp P PE → W args hp P PE) : SFE X cls f d W' :=
  fun A fr hA hF hp s H O args vs hv P PE hP R0 k kE => h A fr hA hF hp s H O args vs hv P PE (hw args hp P PE hP) R0 k kE
theorem sf_defE {cls : Value} {fd : FuncData} {f : Addr} {body : List Stmt} {nm ps : List Str} {d : Nat} {Wb : WSx} (N : FnAt X f fd body) (hnm : nm.Nodup) (hps : ps.Nodup) (hpn : ∀ (i : Nat) x, nm[i]? = some x → i < ps.length → ps[i]? = some x)
    (hkind : ∀ L, ∀ x ∈ ps, fd.scope.names.lookup x = some .local ∨ (fd.scope.names.lookup x = some .cell ∧ ((cellsFrom (L + 1) fd.scope.names []).lookup x).isSome = true))
    (hb : ∀ L fr A, AOk A d → AFx A (fnFx fd f nm fr L) → SLx X A (fnFx fd f nm fr L) cls body Wb) :
    SFE X cls f (d + 1) (fun args hp P PE => ∃ vals, BindS X fd ps args vals ∧ vals.length = ps.length ∧ Wb ⟨fun i => vals[i]?, hp⟩ (finW P) (fun st => PE st.hp)) := by
  rintro A fr hA hF hp s H O args vs hv P PE ⟨vals, B, hlen, hW⟩ R0 h hE
  obtain ⟨o, ho, hd⟩ := N.at0
  have hroom : A.depth < recursionLimit := by have := hA.depth; show A.depth < 1000; omega
  have hcd : s.heap.CodeRec fd.code fd.qualname := N.code.keeps H.base
  refine codeAny_call_function hroom (H.base _ _ ho) hd N.co N.gen N.body hcd ?_
  refine B A.in1 hp s vs H hv _ _ fun rvs s1 H1 ev1 hv1 => ?_
  rw [N.clo]
  refine wpAny_newFunctionEnv_cells N.kind (fun x hx => hkind _ x.1 (List.of_mem_zip (a := x.1) (b := x.2) hx).1) fun env he s2 I => ?_
  subst he
  obtain ⟨r, ev2⟩ := R.enter (f := f) (nm := nm) (fr := fr) H1 (O.ev ev1) N hnm hps (fun i x hx hi => hpn i x hx (hlen ▸ hi)) hv1 (hkind _) I
  refine ⟨(N.lim.keeps H1.base).keeps I.toInCall.keep, codeAny_func ?_⟩
  have np : ∀ b o, s1.heap.get? b = some o → b ∉ (fnFx fd f nm fr s1.heap.objs.size).pv := by
    intro b o e hb
    rcases List.mem_cons.mp hb with rfl | hb
    · rw [get_size] at e; cases e
    · obtain ⟨p, hm, hl⟩ := List.mem_filterMap.mp hb
      have := I.above p.1 b (mem_of_lookup hl)
      exact absurd (Heap.lt_size e) (Nat.not_lt.mpr (Nat.le_of_lt this))
  have out : ∀ {hp3 : Hp} {s3 : Shared}, Ev (fnFx fd f nm fr s1.heap.objs.size).pv (fnFx fd f nm fr s1.heap.objs.size).fr hp s1 hp3 s3 → Ev [] fr hp s1 hp3 s3 := fun e3 => by
    refine ⟨fun b o e n _ q => e3.keep b o e n (np b o e) fun hb => ?_, fun b o e n _ q => e3.slots b o e n (np b o e) (List.mem_cons_of_mem _ q), e3.sub, e3.alive, e3.rest⟩
    rcases List.mem_cons.mp hb with rfl | hb
    · rw [get_size] at e; cases e
    · exact q hb
  have hFx : AFx (A.deeper (fnFx fd f nm fr s1.heap.objs.size).env) (fnFx fd f nm fr s1.heap.objs.size) := hF.deeperX N.kind rfl rfl
  refine hb _ fr _ (hA.deeper _) hFx _ s2 r _ _ hW _ _ (fun fl st' rf s3 r3 ev3 hf hp3 => ?_) (fun st' s3 e wr r3 ev3 x off new hp3 => ?_)
  · have ev3' := out (ev2.weaken.trans ev3)
    cases fl with
    | next => have hf' : rf = .next := hf; subst hf'; exact h _ _ _ _ r3.H (ev1.weaken.trans ev3') (.mkNone _) hp3
    | brk => exact hp3.elim
    | cont => exact hp3.elim
    | ret v =>
      obtain ⟨rv, rfl, hvv⟩ := hf
      exact h _ _ _ _ r3.H (ev1.weaken.trans ev3') hvv hp3
  · show wpAny _ _ (do noteFrame (.ref e) _; setFlight (.ref e) none) _ _ _
    refine wpAny_bind (exc_note hFx r3 x off fun s4 wr' r4 ex4 x4 new4 => ?_)
    have ev4 := (ev2.weaken.trans ev3).transX ex4 fun b hb => newer ev2 (new b hb)
    refine hE _ _ _ wr' r4.H (ev1.weaken.trans (out ev4)) x4 (fun b hb => ?_) (fun b hb => ?_) hp3
    · rcases new4 b hb with h9 | h9
      · exact (off b h9).own
      · exact (r3.off h9).own
    · rcases new4 b hb with h9 | h9
      · exact newer (ev1.trans ev2) (new b h9)
      · exact newer (ev1.weaken.trans (ev2.weaken.trans ev3)) h9
end
end Mine
end

noncomputable section
open PySem PySem.W PyProof.Rows
namespace Mine
theorem nx_check (it : Addr) : checkBoundCall "list_iterator.__next__" ⟨[.ref it], []⟩ = pure () := by kernel_rfl
theorem nx_plain : plainId "list_iterator.__next__" = true := by decide +kernel
theorem nx_sub2 : isSubtype (.type "StopIteration") (.type "BaseException") = pure true := by rw [isSubtype_type]; kernel_rfl
theorem nx_sub3 : isSubtype (.type ((Manifest.find? "StopIteration").elim "type" fun y => y.metatype)) (.type "tuple") = pure false := by
  have : ((Manifest.find? "StopIteration").elim "type" fun y => y.metatype) = "type" := by decide +kernel
  rw [this, isSubtype_type]; kernel_rfl

section
variable {X : Cx} {K : Frag} {A : Around} {F : Fx}

theorem nx_call {s : Shared} {m it : Addr} {R0 : Result → Shared → Prop} (hm : s.heap.get? m = some (nextObj it))
    (h : wpAny (MM X) A.in1 (Builtin.«list_iterator.__next__» ⟨[.ref it], []⟩) (fun fin s' => ∃ v, fin = .done (.ret v) ∧ R0 (.ok (.ret v)) s') (fun e s' => R0 (.error e) s') s) : codeAny (MM X) A (.call (.ref m) ⟨[], []⟩) R0 s := by
  refine codeAny_of_tree ?_
  show wpAny _ A.in1 (callAny (.ref m) ⟨[], []⟩) _ _ s
  simp only [callAny]
  refine wpAny_bind (wpAny_load hm ?_)
  show wpAny _ _ (checkBoundCall "list_iterator.__next__" ⟨[.ref it], []⟩ >>= fun _ => again (.builtin "list_iterator.__next__" ⟨[.ref it], []⟩)) _ _ _
  rw [nx_check]
  refine wpAny_bind (wpAny_pure (wpAny_pure ⟨?_, ?_⟩))
  · exact Code.quiet_builtin _ (by decide +kernel)
  · refine codeAny_builtin entry_listiter_next ?_
    rw [Around.under_plainId nx_plain]
    refine wpAny_mono h (fun fin s' z => ?_) fun _ _ z => z
    obtain ⟨v, rfl, z⟩ := z
    exact z

noncomputable def nextCallW (v : V) (hp : Hp) (P : V → Hp → Prop) (PE : Hp → Prop) : Prop := ∃ m it l j xs, v = .ref m ∧ hp m = some (.nextm it) ∧ hp it = some (.liter l j) ∧ hp l = some (.list xs) ∧ (match xs[j]? with | some x => P x (hp.set it (.liter l (j + 1))) | none => PE (hp.set it .dead))
theorem sex_next (hA : A.handled = none) {o i : Expr} {pos' pos : Pos} {W1 : WE} (h1 : SE X A F (.Subscript o i pos') W1)
    (he : eval (.Call (.Subscript o i pos') [] [] pos) F.env = (do callWith pos (← eval (.Subscript o i pos') F.env) [] (backTo pos (starEach [] F.env)) (backToKw pos (keywordEach [] F.env)))) :
    SEx X A F (.type "StopIteration") (.Call (.Subscript o i pos') [] [] pos) (fun st P PE => W1 st fun v st1 => nextCallW v st1.hp (fun r hp => P r ⟨st1.lo, hp⟩) (fun hp => PE ⟨st1.lo, hp⟩)) := by
  intro st s r P PE hP Q E h hE
  refine Call_ (h1 st s r _ hP _ _ fun v st1 rv s1 r1 ev1 hv1 hp1 => ?_) he
  obtain ⟨m, it, l, j, xs, rfl, hm, hi, hl, hp1⟩ := hp1
  have := hv1.unRef; subst this
  have om : s1.heap.get? m = some (nextObj it) := r1.H.own _ _ hm
  have oi : IsLI s1.heap it l j := r1.H.own _ _ hi
  obtain ⟨vs, p1, q1⟩ := r1.H.own _ _ hl
  unfold callWith
  refine wpAny_bind (wpAny_holding (PySem.evalArgs_none (wpAny_bind (wpAny_standAt ?_))))
  refine wpAny_bind (m := keeperOf (.ref m)) ?_
  unfold keeperOf
  refine wpAny_bind (wpAny_load om ?_)
  refine wpAny_pure (a := Keeper.machine) ?_
  refine wpAny_bind (wpAny_call (nx_call om ?_))
  cases hx : xs[j]? with
  | some x =>
    rw [hx] at hp1
    obtain ⟨rx, e1, e2⟩ := q1.get hx
    refine nx_item (x := rx) oi p1.isList (by simpa using e1) fun h' J' sb => ⟨rx, rfl, ?_⟩
    have ev2 : Ev [] [] st1.hp s1 (st1.hp.set it (.liter l (j + 1))) { s1 with heap := h' } := .write (t := s1.toks) hi sb ⟨_, J'⟩
    have H2 : RH X (st1.hp.set it (.liter l (j + 1))) { s1 with heap := h' } := r1.H.write (t := s1.toks) (o' := .liter l (j + 1)) hi sb fun _ => J'
    exact wpAny_bind (wpAny_holding (wpAny_point (wpAny_pure (h x _ rx _ (r1.ev ev2 H2) (ev1.trans ev2.weaken) (e2.mono (ev2.tk0 r1.H)) hp1))))
  | none =>
    rw [hx] at hp1
    have hn : vs[j]? = none := by
      rw [List.getElem?_eq_none_iff, q1.length]; exact List.getElem?_eq_none_iff.mp hx
    refine nx_end oi.li p1.isList (by simpa using hn) hA fun h' e t ob x new ho nt he' => ?_
    obtain ⟨H2, x2⟩ := r1.H.writeX (t := s1.toks) (o' := .dead) hi x fun _ => ⟨ob, ho, nt⟩
    have r2 : R X F ⟨st1.lo, st1.hp.set it .dead⟩ { s1 with heap := h' } := r1.evX (wr := []) H2 x2.wfr (by simp) (by simp)
    have offe := r1.off new
    have hne : e ≠ it := fun q => by subst q; rw [oi] at new; cases new
    refine hE ⟨st1.lo, st1.hp.set it .dead⟩ _ e [e] r2 (ev1.transX x2.wfr (by simp)) (.inl ⟨_, _, _, he', rfl, rfl, rfl, rfl, rfl⟩) (fun b hb => ?_) (fun b hb => ?_) hp1
    · simp at hb; subst hb
      exact ⟨offe.pv, offe.cell, by show st1.hp.set it .dead b = none; rw [Hp.set_ne _ _ hne]; exact offe.own, offe.base, offe.fr⟩
    · simp at hb; subst hb; exact newer ev1 new

theorem exc_flight {st : St} {s : Shared} {e : Addr} {cls : Value} {wr : List Addr} {Q : Unit → Shared → Prop} {E : Value → Shared → Prop} (r : R X F st s) (x : ExcOk s.heap e cls wr) (off : ∀ b ∈ wr, Off X F st.hp b)
    (h : ∀ s₃, R X F st s₃ → EvX wr F.fr st.hp s st.hp s₃ → Q () s₃) : wpAny (MM X) A (setFlight (.ref e) none) Q E s := by
  rcases id x with ⟨oe, vs, a0, x1, x2, x3, x4, x5, x6⟩ | ⟨oe, vs, a0, T, oT, ts, x1, x2, x3, x4, x5, x6, x7, x8, x9, x10⟩
  · unfold setFlight
    refine wpAny_bind (wpAny_field x1 x3 x5 ?_)
    rw [if_neg (by simp)]
    exact wpAny_pure (h s r .refl)
  · let base := hideAll s.heap (F.fr ++ wr)
    have bnone : ∀ b ∈ F.fr ++ wr, base.get? b = none := fun b hb => hideAll_none _ hb
    have bget : ∀ b o, b ∉ F.fr → b ∉ wr → s.heap.get? b = some o → base.get? b = some o := fun b o n1 n2 q => hideAll_get _ q fun hm => (List.mem_append.mp hm).elim n1 n2
    have stays : base.StaysIn s.heap := fun b o q => of_hideAll _ q
    refine wpAny_setFlight_noneW (base := base) (l := []) (cls := cls) (a0 := a0) (fl := .none) stays trivial ⟨oe, vs, T, oT, ts, x1, ⟨x2, x4⟩, x3, x5, bnone T (List.mem_append_right _ (by rw [x10]; simp)), x6, x7, x8, x9⟩ fun h'' j1 j2 j3 j4 => ?_
    have kk : ∀ b o, b ∉ wr → s.heap.get? b = some o → h''.get? b = some o := fun b o n q => by
      by_cases n2 : b ∈ F.fr
      · obtain ⟨_, _, o', es, ep, q', d⟩ := r.fr b n2
        rw [q] at q'; cases q'
        exact j4 b o q fun vs z => by rw [d] at z; cases z
      · exact j1 b o (bget b o n2 n q)
    have ex : EvX wr F.fr st.hp s st.hp { s with heap := h'' } := ⟨fun b o n1 _ q _ => kk b o n1 q, fun b o n1 _ q _ => ⟨o.slots, kk b o n1 q⟩, fun _ _ _ _ n => n, fun b o n1 q => ⟨o, kk b o n1 q⟩, ⟨h'', s.toks, rfl⟩⟩
    have tk := ex.tk r.H x.not r.fr.not
    have H' : RH X st.hp { s with heap := h'' } := by
      refine ⟨fun b o q => kk b o (fun hb => ?_) (r.H.base b o q), r.H.bfree, fun a o q => (r.H.own a o q).keep (fun ob z => kk a ob (fun hb => ?_) z) tk⟩
      · rw [(off b hb).base] at q; cases q
      · rw [(off a hb).own] at q; cases q
    exact h _ (r.evX H' ex x.not off) ex
noncomputable def Meets' (X : Cx) (A : Around) (F : Fx) (cls : Value) (t : Expr) : Prop := ∀ st s e wr, R X F st s → ExcOk s.heap e cls wr → ∀ (Q : Bool → Shared → Prop) (E : Value → Shared → Prop), Q true s → wpAny (MM X) (A.mark (some (.ref e))) (eval t F.env) (fun c s₁ => wpAny (MM X) (A.mark (some (.ref e))) (excMatches (.ref e) c) Q E s₁) E s
theorem ss_try {cls : Value} {body : List Stmt} {t : Expr} {b₀ : Stmt} {suite : List Stmt} {hpos pos : Pos} {W : WSx} {W2 : WS} (hF : AFx A F) (hb : SLx X A F cls body W) (hm : Meets' X A F cls t) (hs : ∀ e, SL X (A.mark (some (.ref e))) F (b₀ :: suite) W2) :
    SS X A F (.Try body [.ExceptHandler (some t) none (b₀ :: suite) hpos] [] [] pos) (fun st P => W st P (fun st1 => W2 st1 P)) := by
  intro st s r P hP Q E h
  refine wpAny_Try_except (hb st s r (fun f st1 => P f st1) _ hP _ _ (fun f st1 rf s1 r1 ev1 hf hp1 => ?_) fun st1 s1 e wr r1 ev1 x off new hp1 => ?_)
  · cases f with
    | next =>
      have hf' : rf = .next := hf
      subst hf'
      exact wpAny_execs_nil (h .next st1 _ s1 r1 ev1 rfl hp1)
    | brk => have hf' : rf = .brk := hf; subst hf'; exact h .brk st1 _ s1 r1 ev1 rfl hp1
    | cont => have hf' : rf = .cont := hf; subst hf'; exact h .cont st1 _ s1 r1 ev1 rfl hp1
    | ret v =>
      obtain ⟨rv, rfl, hv⟩ := id hf
      exact h (.ret v) st1 _ s1 r1 ev1 hf hp1
  · refine exc_note hF r1 x off fun s2 wr2 r2 ex2 x2 new2 => ?_
    have ev2 := ev1.transX ex2 new
    have off2 : ∀ b ∈ wr2, Off X F st1.hp b := fun b hb => (new2 b hb).elim (off b) fun q => r1.off q
    have new2' : ∀ b ∈ wr2, s.heap.get? b = none := fun b hb => (new2 b hb).elim (new b) fun q => newer ev1 q
    refine wpAny_handleBy_cons (codeAny_handlers_test (hm st1 s2 e wr2 r2 x2 _ _ (codeAny_handlers_suite ?_))) (by intro q; cases q)
    refine exc_flight r2 x2 off2 fun s3 r3 ex3 => ?_
    exact hs e st1 s3 r3 P hp1 _ _ fun f st4 rf s4 r4 ev4 hf4 hp4 => h f st4 rf s4 r4 ((ev2.transX ex3 new2').trans ev4) hf4 hp4
theorem w_glob {st : St} {s : Shared} {x : Str} {v : Value} {pos : Pos} (r : R X F st s) (hg : GlobAt X x v) (hk : F.env.kindOf x = some .globalImplicit) (hd : (x == ("__debug__" : Str)) = false) {Q : Value → Shared → Prop} {E : Value → Shared → Prop} (h : Q v s) :
    wpAny (MM X) A (eval (.Name x pos) F.env) Q E s := by
  refine Calls.Name_function_global r.ok.kind hk ?_ hd
  rcases hg with ⟨mg, hn, hv⟩ | ⟨mg, mb, hn, hm, hb, hv⟩
  · exact Calls.loadGlobal_global (by rw [r.ok.glob]; exact hn.keeps r.H.base) hv h
  · exact Calls.loadGlobal_builtin (by rw [r.ok.glob]; exact hn.keeps r.H.base) hm (by rw [r.ok.blt]; exact hb.keeps r.H.base) hv h
theorem meets_builtin {T : String} {x : Str} {p : Pos} (hexc : isSubtype (.type T) (.type "BaseException") = pure true) (hnt : isSubtype (.type ((Manifest.find? T).elim "type" fun x => x.metatype)) (.type "tuple") = pure false) (hsub : isSubtype (.type T) (.type T) = pure true)
    (hg : GlobAt X x (.type T)) (hk : F.env.kindOf x = some .globalImplicit) (hd : (x == ("__debug__" : Str)) = false) : Meets' X A F (.type T) (.Name x p) := by
  intro st s e wr r x Q E h
  refine w_glob r hg hk hd ?_
  obtain ⟨oe, h1, h2⟩ := x.cls
  exact wpAny_excMatches_type ⟨oe, h1, h2⟩ hexc hnt hsub h
end
end Mine
end

noncomputable section
open PySem PySem.W PyProof.Rows
namespace Mine
section
variable {X : Cx} {K : Frag} {A : Around} {F : Fx}
theorem se_joined {x : Str} {k : Nat} {p pos : Pos} : SE X A F (.JoinedStr [.Constant (.str x) k p] pos) (fun st P => P (.str x) st) := by
  intro st s r P hP Q E h
  exact JoinedStr_one (wpAny_Constant_str (h _ _ _ _ (r.toks _) (.toks _) (.mkStr _ _ _) hP))
theorem se_globint {x : Str} {i : Int} {t : Tok} {pos : Pos} (hg : GlobAt X x (.int i t)) (hk : F.env.kindOf x = some .globalImplicit) (hd : (x == ("__debug__" : Str)) = false) : SE X A F (.Name x pos) (fun st P => P (.int i) st) := by
  intro st s r P hP Q E h
  exact w_glob r hg hk hd (h _ _ _ _ r .refl (.mkInt _ _ _) hP)
theorem se_or {e1 e2 : Expr} {pos : Pos} {W1 W2 : WE} (h1 : SE X A F e1 W1) (h2 : SE X A F e2 W2) : SE X A F (.BoolOp .Or [e1, e2] pos) (fun st P => W1 st fun v st1 => ∃ b, v = .bool b ∧ if b then P v st1 else W2 st1 P) := by
  intro st s r P hP Q E h
  refine BoolOp_or (h1 st s r _ hP _ _ fun v st1 rv s1 r1 ev1 hv1 hp1 => ?_)
  obtain ⟨b, rfl, hp1⟩ := hp1
  have e := hv1.unBool
  subst e
  refine wpAny_truthy_bool ?_
  cases b with
  | true => exact h _ _ _ _ r1 ev1 hv1 hp1
  | false =>
    refine BoolOp_one (h2 st1 s1 r1 P hp1 _ _ fun v2 st2 rv2 s2 r2 ev2 hv2 hp2 => h v2 st2 rv2 s2 r2 (ev1.trans ev2) hv2 hp2)
theorem bind_var {fd : FuncData} {ps : List Str} {n : Nat} {args rest : List V} (hn : args.length = n) (hps : ps.length = n + 1) (h : ∀ vs ws : List Value, vs.length = n → bindArgs fd ⟨vs ++ ws, []⟩ = (do let t ← newTuple ws; pure (ps.zip (vs ++ [t])))) (hz : rest.length < 1000000) :
    BindS X fd ps (args ++ rest) (args ++ [.tup rest]) := by
  intro A hp s vs H hv Q E k
  obtain ⟨us, ws, rfl, q1, q2⟩ := hv.split
  have sl := sizeLine_ge
  have l2 := q2.length
  rw [h us ws (by rw [q1.length, hn])]
  refine wpAny_bind (wpAny_newTuple (wpAny_pure ?_) (by omega))
  have e1 : Ev [] [] hp s hp { s with heap := s.heap.push { cls := .type "tuple", data := .seq ws.toArray } } := .push _
  exact k _ _ (H.push _) e1 ((q1.mono fun b i n t => t.push _).append (VRs.one (.mkTup (Heap.get?_push_size _ rfl) (q2.mono fun b i n t => t.push _))))
end
end Mine
end

noncomputable section
open PySem PySem.W PyProof.Rows
namespace Mine
section
variable {X : Cx} {K : Frag} {A : Around} {F : Fx}
structure BoundName (K : Frag) (C : Addr) (name : Str) (f : Addr) : Prop where
  meth : MethName K C name f
  has : hasDictIn K C = true
  get : specialIn K (.ref f) "__get__" = some (some (.builtin "function.__get__"))
  take : takesIn K (.ref f) = some false
  copied : copiedNames.contains name = false
  fn : fnIn K f = true
theorem w_bound (B : Base X K) {C f : Addr} {name : Str} (N : BoundName K C name f) {hp : Hp} {s : Shared} {a dx : Addr} {os : List (Option V)} {fs : List (Str × V)} {ex : Bool} {Q : Value → Shared → Prop} {E : Value → Shared → Prop} (H : RH X hp s) (I : Inst hp a C dx os fs) (hl : fs.lookup name = none)
    (h : Q (.ref s.heap.objs.size) { s with heap := s.heap.push (methodObj (.ref f) (.ref a)), toks := s.toks + 1 }) : wpAny (MM X) A (getAttr (.ref a) name ex) Q E s := by
  obtain ⟨sl, es, n, I', _, _, nn, f'⟩ := I.un H
  have Kh := B.K.keeps H.base
  exact get_bind Kh I' (plainGet_of N.meth.get).1 (findObj_fn N.has N.meth.find N.get N.take N.copied (by show lookIn name (dictOf es n) = _; rw [lookIn_dict, nn _ hl])) (plainGet_of N.meth.get).2
    (wpAny_call (fn_get (s := { s with toks := s.toks + 1 }) Kh (beq_iff_eq.mp N.meth.isf) (handed_on rfl h)))
theorem se_methStar2 (B : Base X K) {C f : Addr} {name : Str} (N : BoundName K C name f) {d : Nat} {o e e2 : Expr} {apos pos p2 : Pos} {W1 W2 W3 : WE} {W : List V → WH} (hA : AOk A d) (hF : AFr A F.fr) (hf : SF X f d W) (h1 : SE X A F o W1) (h2 : SE X A F e W2) (h3 : SE X A F e2 W3)
    (he : eval (.Call (.Attribute o name apos) [e, .Starred e2 p2] [] pos) F.env = (do
      let ov ← eval o F.env
      standAt apos.atName
      let x ← holding [ov] (do let g ← getAttr ov name true; pure (g, ([] : List Value)))
      callWith pos x.1 x.2 (backTo pos (starEach [e, .Starred e2 p2] F.env)) (backToKw pos (keywordEach [] F.env))))
    (hs : starEach [e, .Starred e2 p2] F.env = (false, eval e F.env) :: starEach [.Starred e2 p2] F.env) (hs2 : starEach [.Starred e2 p2] F.env = (true, eval e2 F.env) :: starEach [] F.env) (hpl : (backTo pos (starEach [.Starred e2 p2] F.env)).any (·.1) = true) :
    SE X A F (.Call (.Attribute o name apos) [e, .Starred e2 p2] [] pos) (fun st P => W1 st fun ov st1 => ∃ a dx os fs, ov = .ref a ∧ Inst st1.hp a C dx os fs ∧ fs.lookup name = none ∧ W2 st1 fun v2 st2 => W3 st2 fun v3 st3 => ∃ l xs, v3 = .ref l ∧ st3.hp l = some (.list xs) ∧ xs.length < 1000000 ∧ W (.ref a :: v2 :: xs) st3.hp fun v hp => P v ⟨st3.lo, hp⟩) := by
  intro st s r P hP Q E h
  rw [he]
  refine wpAny_bind (h1 st s r _ hP _ _ fun ov st1 ro s1 r1 ev1 hv1 hp1 => wpAny_bind (wpAny_standAt (wpAny_bind (wpAny_holding (wpAny_bind ?_)))))
  obtain ⟨a, dx, os, fs, rfl, I, hl, hp1⟩ := hp1
  have := hv1.unRef; subst this
  refine w_bound B N r1.H I hl (wpAny_pure ?_)
  generalize hq : s1.heap.objs.size = q
  have evq : Ev [] [] st1.hp s1 st1.hp { s1 with heap := s1.heap.push (methodObj (.ref f) (.ref a)), toks := s1.toks + 1 } := (Ev.push _).trans (.toks _)
  have rq : R X F st1 { s1 with heap := s1.heap.push (methodObj (.ref f) (.ref a)), toks := s1.toks + 1 } := r1.ev evq ((r1.H.push _).toks _)
  have oq : (s1.heap.push (methodObj (.ref f) (.ref a))).get? q = some (methodObj (.ref f) (.ref a)) := by rw [← hq]; exact Heap.get?_push_size _ rfl
  have offq := r1.off (b := q) (by rw [← hq]; exact get_size)
  have hsplit := hs
  refine ks_call (P := MethP K q f (.ref a)) (by rw [hs]; show (false || (backTo pos (starEach [.Starred e2 p2] F.env)).any (·.1)) = true; rw [hpl]; rfl) (keeps_M N.fn) ?_
  have key : wpAny (MM X) A (spliced (backTo pos (starEach [e, .Starred e2 p2] F.env))) (fun vs s₁ => MethP K q f (.ref a) s₁.heap ∧ wpAny (MM X) A (call (.ref q) ([] ++ vs)) Q E s₁) E { s1 with heap := s1.heap.push (methodObj (.ref f) (.ref a)), toks := s1.toks + 1 } := by
    refine args_cons (h2 st1 _ rq _ hp1 _ _ fun v2 st2 rv2 s2 r2 ev2 hv2 hp2 => ?_) hs
    refine items_star (h3 st2 s2 r2 _ hp2 _ _ fun v3 st3 rv3 s3 r3 ev3 hv3 hp3 => ?_) hs2
    obtain ⟨l, xs, rfl, hx, hz, hp3⟩ := hp3
    have := hv3.unRef; subst this
    obtain ⟨vs, ⟨n, p1⟩, q1⟩ := r3.H.own _ _ hx
    have sl := sizeLine_ge
    have hlen := q1.length
    have o3 : s3.heap.get? q = some (methodObj (.ref f) (.ref a)) := (ev2.trans ev3).keep q _ oq offq.own offq.pv offq.fr
    unfold StarOf notIterableAtAll
    refine wpAny_bind (wpAny_specialOf (T := "list") ⟨_, p1, rfl⟩ PySem.F.slot_list_iter.lookup (wpAny_pure ⟨rfl, ?_⟩))
    refine wpAny_collect_seq l (.inl rfl) p1 rfl rfl (fun h' hk => args_nil ⟨⟨hk _ _ o3, B.K.keeps fun b o e => hk b o (r3.H.base b o e)⟩, ?_⟩) (by rw [List.size_toArray]; omega)
    have ev4 : Ev [] [] st3.hp s3 st3.hp { s3 with heap := h' } := .keeps hk ⟨h', s3.toks, rfl⟩
    have r4 : R X F st3 { s3 with heap := h' } := r3.ev ev4 (r3.H.keeps hk)
    have tk4 : TK s3.heap h' := fun b i n t => hk b _ t
    have hvs : VRs h' (.ref a :: v2 :: xs) (.ref a :: rv2 :: vs) := VRs.cons (.mkRef _ _) (VRs.cons ((hv2.mono (r2.tk ev3)).mono tk4) (q1.mono tk4))
    refine wpAny_call (method_call (hk _ _ o3) ?_)
    refine hf A F.fr hA hF st3.hp _ r4.H r4.fr (.ref a :: v2 :: xs) _ (by simpa using hvs) _ hp3 _ fun v hp' rv s' H' ev' hv' hp => h v ⟨st3.lo, hp'⟩ rv s' (r4.evF ev' H') (((((ev1.trans evq.weaken).trans ev2).trans ev3).trans ev4.weaken).trans ev'.wpv) hv' hp
  rw [hs] at key ⊢
  exact Calls.evalArgs_plain key
theorem bind_dflt (B : Base X K) {fd : FuncData} {ps : List Str} {args : List V} {T : Addr} {o : Obj} {items : Array Value} {n : Nat} (hd : fd.defaults = .ref T) (ho : K.lookup T = some o) (hs : o.data = .seq items n)
    (h : ∀ vs : List Value, vs.length = args.length → ∃ k, bindArgs fd ⟨vs, []⟩ = seqItems? fd.defaults >>= k ∧ k (some items) = pure (ps.zip vs)) : BindS X fd ps args args := by
  intro A hp s vs H hv Q E k
  obtain ⟨kk, h1, h2⟩ := h vs hv.length
  rw [h1, hd]
  refine wpAny_bind (wpAny_seqItems (H.base _ _ (B.K _ _ ho)) hs ?_)
  rw [h2]
  exact wpAny_pure (k vs s H .refl hv)
end
end Mine
end

noncomputable section
open PySem PySem.W PyProof.Rows
namespace Mine

abbrev WA := St → (List V → St → Prop) → Prop
abbrev WF := List V → WH
noncomputable def wLoc (i : Nat) : WE := fun st P => ∃ v, st.lo i = some v ∧ P v st
noncomputable def wInt (i : Int) : WE := fun st P => P (.int i) st
noncomputable def wBool (b : Bool) : WE := fun st P => P (.bool b) st
noncomputable def wNone : WE := fun st P => P .none st
noncomputable def wStr (x : Str) : WE := fun st P => P (.str x) st
noncomputable def wCon (v : Value) : WE := fun st P => P (.con v) st
noncomputable def wOp (op : Operator) (W1 W2 : WE) : WE := fun st P => W1 st fun a st1 => W2 st1 fun b st2 => binW op a b st2.hp fun v hp => P v ⟨st2.lo, hp⟩
noncomputable def wCmp (X : Cx) (op : CmpOp) (W1 W2 : WE) : WE := fun st P => W1 st fun a st1 => W2 st1 fun b st2 => ∃ q, CmpR X st2.hp op a b q ∧ P (.bool q) st2
noncomputable def bCmp (X : Cx) (op : CmpOp) (W1 W2 : WE) : WB := fun st P => W1 st fun a st1 => W2 st1 fun b st2 => ∃ q, CmpR X st2.hp op a b q ∧ P q st2
noncomputable def bVal (W : WE) : WB := fun st P => W st fun v st1 => ∃ b, TruR st1.hp v b ∧ P b st1
noncomputable def bNot (W : WB) : WB := fun st P => W st fun b st1 => P (!b) st1
noncomputable def bAnd (W1 W2 : WB) : WB := fun st P => W1 st fun b st1 => if b then W2 st1 P else P false st1
noncomputable def bOr (W1 W2 : WB) : WB := fun st P => W1 st fun b st1 => if b then P true st1 else W2 st1 P
noncomputable def wOr (W1 W2 : WE) : WE := fun st P => W1 st fun v st1 => ∃ b, v = .bool b ∧ if b then P v st1 else W2 st1 P
noncomputable def wSub (W1 W2 : WE) : WE := fun st P => W1 st fun o st1 => W2 st1 fun i st2 => ∃ v, GetR st2.hp o i v ∧ P v st2
noncomputable def pNone : WP := fun st P => P none st
noncomputable def pSome (W : WE) : WP := fun st P => W st fun v st1 => ∃ i, v = .int i ∧ P (some i) st1
noncomputable def wSlice (X : Cx) (W : WE) (W1 W2 W3 : WP) : WE := fun st P => W st fun o st1 => W1 st1 fun l st2 => W2 st2 fun u st3 => W3 st3 fun k st4 => ∃ xs, LstR X st4.hp o xs ∧ xs.length < 1000000 ∧ k ≠ some 0 ∧
      ∀ c, st4.hp c = none → P (.ref c) (st4.setH c (.list (pickV xs l u k)))
noncomputable def aNil : WA := fun st P => P [] st
noncomputable def aCons (W : WE) (Ws : WA) : WA := fun st P => W st fun v st1 => Ws st1 fun vs st2 => P (v :: vs) st2
noncomputable def wList (Ws : WA) : WE := fun st P => Ws st fun vs st1 => vs.length < 1000 ∧ ∀ c, st1.hp c = none → P (.ref c) (st1.setH c (.list vs))
noncomputable def wTuple (Ws : WA) : WE := fun st P => Ws st fun vs st1 => vs.length < 1000 ∧ P (.tup vs) st1
noncomputable def wDict0 : WE := fun st P => ∀ c, st.hp c = none → P (.ref c) (st.setH c (.dict [] 0))
noncomputable def wWal (W : WE) (T : WT) : WE := fun st P => W st fun v st1 => T v st1 fun st2 => P v st2
noncomputable def wCall (Wf : WF) (Ws : WA) : WE := fun st P => Ws st fun vs st1 => Wf vs st1.hp fun v hp => P v ⟨st1.lo, hp⟩
noncomputable def wCallv (X : Cx) (d : Nat) (W1 : WE) (Ws : WA) : WE := fun st P => W1 st fun fv st1 => (∃ f, fv = .con (.ref f) ∧ ∃ o fd, X.h₀.get? f = some o ∧ o.data = .func fd) ∧ Ws st1 fun vs st2 => callW X d fv vs st2.hp fun v hp => P v ⟨st2.lo, hp⟩
noncomputable def wB (w : V → WH) (W : WE) : WE := fun st P => W st fun v st1 => w v st1.hp fun r hp => P r ⟨st1.lo, hp⟩
noncomputable def wB0 (w : WH) : WE := fun st P => w st.hp fun r hp => P r ⟨st.lo, hp⟩
noncomputable def wMeth (C : Addr) (name : Str) (Wf : WF) (W1 : WE) (Ws : WA) : WE := fun st P => W1 st fun ov st1 => ∃ a dx os fs, ov = .ref a ∧ Inst st1.hp a C dx os fs ∧ fs.lookup name = none ∧ Ws st1 fun vs st2 => Wf (.ref a :: vs) st2.hp fun v hp => P v ⟨st2.lo, hp⟩
noncomputable def wMeth0 (C : Addr) (name : Str) (Wf : WF) (W1 : WE) : WE := fun st P => W1 st fun ov st1 => ∃ a dx os fs, ov = .ref a ∧ Inst st1.hp a C dx os fs ∧ fs.lookup name = none ∧ Wf [.ref a] st1.hp fun v hp => P v ⟨st1.lo, hp⟩
noncomputable def wMethS (C : Addr) (name : Str) (Wf : WF) (W1 W2 W3 : WE) : WE := fun st P => W1 st fun ov st1 => ∃ a dx os fs, ov = .ref a ∧ Inst st1.hp a C dx os fs ∧ fs.lookup name = none ∧ W2 st1 fun v2 st2 => W3 st2 fun v3 st3 => ∃ l xs, v3 = .ref l ∧ st3.hp l = some (.list xs) ∧ xs.length < 1000000 ∧ Wf (.ref a :: v2 :: xs) st3.hp fun v hp => P v ⟨st3.lo, hp⟩
noncomputable def wNew (C : Addr) (Wi : WF) (Ws : WA) : WE := fun st P => Ws st fun vs st1 => newW C Wi vs st1.hp fun v hp => P v ⟨st1.lo, hp⟩
noncomputable def wNew0 (C : Addr) (Wi : WF) : WE := fun st P => newW C Wi [] st.hp fun v hp => P v ⟨st.lo, hp⟩
noncomputable def wAppend (W1 W2 : WE) : WE := fun st P => W1 st fun ov st1 => ∃ a, ov = .ref a ∧ (∃ ys, st1.hp a = some (.list ys)) ∧ W2 st1 fun v st2 => ∃ xs, st2.hp a = some (.list xs) ∧ xs.length < 1000000 ∧ P .none (st2.setH a (.list (xs ++ [v])))
noncomputable def wPop (W1 : WE) : WE := fun st P => W1 st fun ov st1 => ∃ a xs v, ov = .ref a ∧ st1.hp a = some (.list (xs ++ [v])) ∧ xs.length < 1000000 - 1 ∧ P v (st1.setH a (.list xs))
noncomputable def wClear (W1 : WE) : WE := fun st P => W1 st fun ov st1 => ∃ a xs, ov = .ref a ∧ st1.hp a = some (.list xs) ∧ xs.length < 1000000 ∧ P .none (st1.setH a (.list []))
noncomputable def wCount (W1 W2 : WE) : WE := fun st P => W1 st fun ov st1 => ∃ a, ov = .ref a ∧ (∃ ys, st1.hp a = some (.list ys)) ∧ W2 st1 fun v st2 => ∃ (is : List Int) (k : Int), st2.hp a = some (.list (is.map .int)) ∧ v = .int k ∧ P (.int (is.count k)) st2
noncomputable def wDget (W1 W2 : WE) : WE := fun st P => W1 st fun ov st1 => ∃ a, ov = .ref a ∧ (∃ ys ep, st1.hp a = some (.dict ys ep)) ∧ W2 st1 fun v st2 => ∃ kvs ep k, st2.hp a = some (.dict kvs ep) ∧ v = .int k ∧ P ((kvs.lookup k).getD .none) st2
noncomputable def wSadd (W1 W2 : WE) : WE := fun st P => W1 st fun ov st1 => ∃ a, ov = .ref a ∧ (∃ ys, st1.hp a = some (.set ys)) ∧ W2 st1 fun v st2 => ∃ ks k, st2.hp a = some (.set ks) ∧ v = .int k ∧ ks.length < 4000 ∧ P .none (st2.setH a (.set (if ks.contains k then ks else k :: ks)))
noncomputable def addL (We : WE) : WAdd := fun o st P => ∃ xs, o = .list xs ∧ xs.length < 1000000 ∧ We st fun v st' => P (.list (xs ++ [v])) st'
noncomputable def bTrue : WB := fun st P => P true st
noncomputable def tName (i : Nat) : WT := fun v st P => P (st.setL i v)
noncomputable def tSub (W1 W2 : WE) : WT := fun v st P => W1 st fun ov st1 => W2 st1 fun iv st2 => ∃ a N, SetR st2.hp ov iv v a N ∧ ∀ n, N n → P (st2.setH a n)
noncomputable def tAttr (W : WE) (w : V → V → St → (St → Prop) → Prop) : WT := fun v st P => W st fun ov st1 => w ov v st1 P
abbrev WTs := List V → St → (St → Prop) → Prop
noncomputable def tsNil : WTs := fun vs st P => vs = [] ∧ P st
noncomputable def tsCons (W : WT) (Ws : WTs) : WTs := fun vs st P => ∃ v vs', vs = v :: vs' ∧ W v st fun st1 => Ws vs' st1 P
noncomputable def tTup (n : Nat) (Ws : WTs) : WT := fun v st P => ∃ vs, v = .tup vs ∧ vs.length = n ∧ Ws vs st P
noncomputable def iList (W : WE) : WI := fun st P => W st fun v st1 => ∃ a xs, v = .ref a ∧ st1.hp a = some (.list xs) ∧ P (listSrc a) st1
noncomputable def iTup (W : WE) : WI := fun st P => W st fun v st1 => ∃ xs, v = .tup xs ∧ P (tupSrc xs) st1
noncomputable def iRange (W : WE) : WI := fun st P => W st fun v st1 => ∃ n, v = .int n ∧ 0 ≤ n ∧ n < 2 ^ 62 ∧ P (rangeSrc n) st1
noncomputable def iEnum (W : WE) : WI := fun st P => W st fun v st1 => ∃ a xs, v = .ref a ∧ st1.hp a = some (.list xs) ∧ P (enumSrc a) st1
noncomputable def iKeys (W : WE) : WI := fun st P => W st fun v st1 => ∃ d kvs ep, v = .ref d ∧ st1.hp d = some (.dict kvs ep) ∧ P (keysSrc d kvs.length ep) st1
noncomputable def iValues (W : WE) : WI := fun st P => W st fun v st1 => ∃ d kvs ep, v = .ref d ∧ st1.hp d = some (.dict kvs ep) ∧ P (valuesSrc d kvs.length ep) st1
noncomputable def iItems (W : WE) : WI := fun st P => W st fun v st1 => ∃ d kvs ep, v = .ref d ∧ st1.hp d = some (.dict kvs ep) ∧ P (itemsSrc d kvs.length ep) st1
noncomputable def iLiter (W : WE) : WI := fun st P => W st fun v st1 => ∃ a l j, v = .ref a ∧ st1.hp a = some (.liter l j) ∧ P (literSrc a) st1
noncomputable def sNil : WS := fun st P => P .next st
noncomputable def sCons (W Ws : WS) : WS := fun st P => W st fun f st1 => match f with | .next => Ws st1 P | f => P f st1
noncomputable def sBreak : WS := fun st P => P .brk st
noncomputable def sCont : WS := fun st P => P .cont st
noncomputable def sRet (W : WE) : WS := fun st P => W st fun v st1 => P (.ret v) st1
noncomputable def sIf (W : WB) (W1 W2 : WS) : WS := fun st P => W st fun b st1 => if b then W1 st1 P else W2 st1 P
noncomputable def sAssign (i : Nat) (W : WE) : WS := fun st P => W st fun v st1 => P .next (st1.setL i v)
noncomputable def sAssign1 (W : WE) (T : WT) : WS := fun st P => W st fun v st1 => T v st1 fun st2 => P .next st2
noncomputable def sAssign2 (W : WE) (T1 T2 : WT) : WS := fun st P => W st fun v st1 => T1 v st1 fun st2 => T2 v st2 fun st3 => P .next st3
noncomputable def sSwap2 (i j : Nat) (W : WE) : WS := fun st P => W st fun v st1 => ∃ a b, v = .tup [a, b] ∧ P .next ((st1.setL j b).setL i a)
noncomputable def sAug (i : Nat) (op : Operator) (W : WE) : WS := fun st P => ∃ a, st.lo i = some a ∧ W st fun b st1 => iopW op a b st1.hp fun v hp => P .next (St.setL ⟨st1.lo, hp⟩ i v)
noncomputable def sAugSub (op : Operator) (W1 W2 W3 : WE) : WS := fun st P => W1 st fun ov st1 => W2 st1 fun iv st2 => ∃ a xs k old, ov = .ref a ∧ iv = .int k ∧ st2.hp a = some (.list xs) ∧ 0 ≤ k ∧ k < 2 ^ 62 ∧ xs[k.toNat]? = some old ∧ W3 st2 fun v st3 => iopW op old v st3.hp fun new hp => ∃ a N, SetR hp ov iv new a N ∧ ∀ n, N n → P .next (St.setH ⟨st3.lo, hp⟩ a n)
noncomputable def sAugAttr (op : Operator) (W1 : WE) (w : V → WH) (W3 : WE) (w2 : V → V → St → (St → Prop) → Prop) : WS := fun st P => W1 st fun ov st1 => w ov st1.hp fun old hp => W3 ⟨st1.lo, hp⟩ fun v st3 => iopW op old v st3.hp fun new hp => w2 ov new ⟨st3.lo, hp⟩ fun st4 => P .next st4
noncomputable def sExpr (W : WE) : WS := fun st P => W st fun _ st1 => P .next st1
noncomputable def sWhile (W : WB) (W1 : WS) : WS := fun st P => ∃ (I : Nat → St → Prop), (∃ n, I n st) ∧
      ∀ n st1, I n st1 → W st1 fun b st2 => if b then W1 st2 fun f st3 => match f with
        | .next | .cont => ∃ m, m < n ∧ I m st3
        | .brk => P .next st3
        | .ret v => P (.ret v) st3 else P .next st2
noncomputable def sWhileE (W : WB) (W1 W2 : WS) : WS := fun st P => ∃ (I : Nat → St → Prop), (∃ n, I n st) ∧
      ∀ n st1, I n st1 → W st1 fun b st2 => if b then W1 st2 fun f st3 => match f with
        | .next | .cont => ∃ m, m < n ∧ I m st3
        | .brk => P .next st3
        | .ret v => P (.ret v) st3 else W2 st2 P
noncomputable def sFor (Wi : WI) (Wt : WT) (Wb : WS) : WS := fun st P => Wi st fun src st1 => ∃ (N : Nat) (I : Nat → St → Prop), I 0 st1 ∧ ∀ i st2, I i st2 →
      (∃ v, src.nx i st2.hp (some v) ∧ i < N ∧ Wt v ⟨st2.lo, src.adv i st2.hp⟩ fun st3 => Wb st3 fun f st4 => match f with
        | .next | .cont => I (i + 1) st4
        | .brk => P .next st4
        | .ret v => P (.ret v) st4) ∨ (src.nx i st2.hp none ∧ P .next ⟨st2.lo, src.fin i st2.hp⟩)
noncomputable def sComp (i : Nat) (W : WE) : WS := fun st P => W st fun v st1 => P .next (st1.setL i v)
noncomputable def sDel (W1 W2 : WE) : WS := fun st P => W1 st fun ov st1 => W2 st1 fun iv st2 => ∃ d kvs ep k, ov = .ref d ∧ iv = .int k ∧ st2.hp d = some (.dict kvs ep) ∧ (kvs.lookup k).isSome = true ∧ kvs.length < 1000000 ∧ ∀ ep', P .next (st2.setH d (.dict (dwithout kvs k) ep'))
noncomputable def sNever : WS := fun _ _ => False
noncomputable def sTry (W : WSx) (W2 : WS) : WS := fun st P => W st P (fun st1 => W2 st1 P)
noncomputable def xOf (W : WS) : WSx := fun st P PE => W st P
noncomputable def xNil : WSx := fun st P PE => P .next st
noncomputable def xCons (W Ws : WSx) : WSx := fun st P PE => W st (fun f st1 => match f with | .next => Ws st1 P PE | f => P f st1) PE
noncomputable def xIf (W : WB) (W1 W2 : WSx) : WSx := fun st P PE => W st fun b st1 => if b then W1 st1 P PE else W2 st1 P PE
noncomputable def xAssign (i : Nat) (W : WEx) : WSx := fun st P PE => W st (fun v st1 => P .next (st1.setL i v)) PE
noncomputable def xRaise (Ws : WA) : WSx := fun st P PE => Ws st fun vs st1 => vs.length < 1000 ∧ PE st1
noncomputable def exNext (W1 : WE) : WEx := fun st P PE => W1 st fun v st1 => nextCallW v st1.hp (fun r hp => P r ⟨st1.lo, hp⟩) (fun hp => PE ⟨st1.lo, hp⟩)

noncomputable def posW (n : Nat) (W : WS) : WF := fun args hp P => args.length = n ∧ W ⟨fun i => args[i]?, hp⟩ (finW P)
noncomputable def varW (n : Nat) (W : WS) : WF := fun args hp P => ∃ as rest, args = as ++ rest ∧ as.length = n ∧ rest.length < 1000000 ∧ W ⟨fun i => (as ++ [V.tup rest])[i]?, hp⟩ (finW P)
noncomputable def posWx (n : Nat) (W : WSx) : List V → Hp → (V → Hp → Prop) → (Hp → Prop) → Prop := fun args hp P PE => args.length = n ∧ W ⟨fun i => args[i]?, hp⟩ (finW P) (fun st => PE st.hp)

theorem ite_t {A B : Prop} (h : A) : if true = true then A else B := h
theorem ite_f {A B : Prop} (h : B) : if false = true then A else B := h
theorem ite_dt {A B p : Prop} [Decidable p] (hp : p) (h : A) : if decide p = true then A else B := by rw [if_pos (decide_eq_true hp)]; exact h
theorem ite_df {A B p : Prop} [Decidable p] (hp : ¬ p) (h : B) : if decide p = true then A else B := by rw [if_neg (by simp [hp])]; exact h
section
variable {X : Cx} {A : Around} {F : Fx}
theorem nmOk {nm ps : List Str} (h : nm.take ps.length = ps) : ∀ (i : Nat) x, nm[i]? = some x → i < ps.length → ps[i]? = some x := by
  intro i x h1 h2
  rw [← h, List.getElem?_take, if_pos h2]; exact h1
theorem sf_pos {fd : FuncData} {f : Addr} {body : List Stmt} {nm ps : List Str} {d n : Nat} {W : WS} (N : FnAt X f fd body) (hnm : nm.Nodup) (hps : ps.Nodup) (hpn : nm.take ps.length = ps) (hn : ps.length = n)
    (hkind : ∀ L, ∀ x ∈ ps, fd.scope.names.lookup x = some .local ∨ (fd.scope.names.lookup x = some .cell ∧ ((cellsFrom (L + 1) fd.scope.names []).lookup x).isSome = true))
    (hbind : ∀ vs : List Value, vs.length = n → bindArgs fd ⟨vs, []⟩ = pure (ps.zip vs))
    (hb : ∀ L fr A, AOk A d → AFx A (fnFx fd f nm fr L) → SL X A (fnFx fd f nm fr L) body W) : SF X f (d + 1) (posW n W) :=
  (sf_def N hnm hps (nmOk hpn) hkind hb).mono fun args hp P hP => ⟨args, bind_pos fun vs hv => hbind vs (hv.trans hP.1), hP.1.trans hn.symm, hP.2⟩
theorem sf_var {fd : FuncData} {f : Addr} {body : List Stmt} {nm ps : List Str} {d n : Nat} {W : WS} (N : FnAt X f fd body) (hnm : nm.Nodup) (hps : ps.Nodup) (hpn : nm.take ps.length = ps) (hn : ps.length = n + 1)
    (hkind : ∀ L, ∀ x ∈ ps, fd.scope.names.lookup x = some .local ∨ (fd.scope.names.lookup x = some .cell ∧ ((cellsFrom (L + 1) fd.scope.names []).lookup x).isSome = true))
    (hbind : ∀ vs ws : List Value, vs.length = n → bindArgs fd ⟨vs ++ ws, []⟩ = (do let t ← newTuple ws; pure (ps.zip (vs ++ [t]))))
    (hb : ∀ L fr A, AOk A d → AFx A (fnFx fd f nm fr L) → SL X A (fnFx fd f nm fr L) body W) : SF X f (d + 1) (varW n W) :=
  (sf_def N hnm hps (nmOk hpn) hkind hb).mono fun args hp P hP => by
    obtain ⟨as, rest, rfl, h1, h2, h3⟩ := hP
    exact ⟨as ++ [.tup rest], bind_var h1 hn hbind h2, by simp [h1, hn], h3⟩
theorem sf_posx {cls : Value} {fd : FuncData} {f : Addr} {body : List Stmt} {nm ps : List Str} {d n : Nat} {W : WSx} (N : FnAt X f fd body) (hnm : nm.Nodup) (hps : ps.Nodup) (hpn : nm.take ps.length = ps) (hn : ps.length = n)
    (hkind : ∀ L, ∀ x ∈ ps, fd.scope.names.lookup x = some .local ∨ (fd.scope.names.lookup x = some .cell ∧ ((cellsFrom (L + 1) fd.scope.names []).lookup x).isSome = true))
    (hbind : ∀ vs : List Value, vs.length = n → bindArgs fd ⟨vs, []⟩ = pure (ps.zip vs))
    (hb : ∀ L fr A, AOk A d → AFx A (fnFx fd f nm fr L) → SLx X A (fnFx fd f nm fr L) cls body W) : SFE X cls f (d + 1) (posWx n W) :=
  (sf_defE N hnm hps (nmOk hpn) hkind hb).mono fun args hp P PE hP => ⟨args, bind_pos fun vs hv => hbind vs (hv.trans hP.1), hP.1.trans hn.symm, hP.2⟩
theorem sf_dflt {K : Frag} (B : Base X K) {fd : FuncData} {f T : Addr} {o : Obj} {items : Array Value} {m : Nat} {body : List Stmt} {nm ps : List Str} {d n : Nat} {W : WS} (N : FnAt X f fd body) (hnm : nm.Nodup) (hps : ps.Nodup) (hpn : nm.take ps.length = ps) (hn : ps.length = n)
    (hkind : ∀ L, ∀ x ∈ ps, fd.scope.names.lookup x = some .local ∨ (fd.scope.names.lookup x = some .cell ∧ ((cellsFrom (L + 1) fd.scope.names []).lookup x).isSome = true))
    (hd : fd.defaults = .ref T) (ho : K.lookup T = some o) (hs : o.data = .seq items m)
    (hbind : ∀ vs : List Value, vs.length = n → ∃ k, bindArgs fd ⟨vs, []⟩ = seqItems? fd.defaults >>= k ∧ k (some items) = pure (ps.zip vs))
    (hb : ∀ L fr A, AOk A d → AFx A (fnFx fd f nm fr L) → SL X A (fnFx fd f nm fr L) body W) : SF X f (d + 1) (posW n W) :=
  (sf_def N hnm hps (nmOk hpn) hkind hb).mono fun args hp P hP => ⟨args, bind_dflt B hd ho hs fun vs hv => hbind vs (hv.trans hP.1), hP.1.trans hn.symm, hP.2⟩
end
end Mine
end

noncomputable section
open PySem PySem.W PyProof.Rows
namespace Mine
section
variable {X : Cx} {K : Frag} {A : Around} {F : Fx} {st : St}
theorem r_loc {i : Nat} {x : Str} {pos : Pos} (hs : LdOk F i x) : SE X A F (.Name x pos) (wLoc i) := se_loc hs
theorem r_int {i : Int} {k : Nat} {pos : Pos} : SE X A F (.Constant (.int i) k pos) (wInt i) := se_int
theorem r_bool {b : Bool} {k : Nat} {pos : Pos} : SE X A F (.Constant (.bool b) k pos) (wBool b) := se_bool
theorem r_none {k : Nat} {pos : Pos} : SE X A F (.Constant .none k pos) wNone := se_none
theorem r_joined {x : Str} {k : Nat} {p pos : Pos} : SE X A F (.JoinedStr [.Constant (.str x) k p] pos) (wStr x) := se_joined
theorem r_fn (B : Base X K) {x : Str} {v : Value} {pos : Pos} (e : nsIn K mainGlobals x = some (some v)) (hk : F.env.kindOf x = some .globalImplicit) (hd : (x == ("__debug__" : Str)) = false) : SE X A F (.Name x pos) (wCon v) := se_glob (B.fn e) hk hd
theorem r_gint (B : Base X K) {x : Str} {i : Int} {t : Tok} {pos : Pos} (e : nsIn K mainGlobals x = some (some (.int i t))) (hk : F.env.kindOf x = some .globalImplicit) (hd : (x == ("__debug__" : Str)) = false) : SE X A F (.Name x pos) (wInt i) := se_globint (B.fn e) hk hd
theorem r_blt (B : Base X K) {x : Str} {v : Value} {pos : Pos} (e : nsIn K mainGlobals x = some none) (h : bootBuiltins x = some v) (hn : x ≠ "__name__") (hk : F.env.kindOf x = some .globalImplicit) (hd : (x == ("__debug__" : Str)) = false) : SE X A F (.Name x pos) (wCon v) := se_glob (B.blt e h hn) hk hd
theorem r_op {l r : Expr} {op : Operator} {pos : Pos} {W1 W2 : WE} (h1 : SE X A F l W1) (h2 : SE X A F r W2) : SE X A F (.BinOp l op r pos) (wOp op W1 W2) := se_op h1 h2
theorem r_cmp {l r : Expr} {op : CmpOp} {pos : Pos} {W1 W2 : WE} (C : COk X) {d : Nat} (hA : AOk A d) (h1 : SE X A F l W1) (h2 : SE X A F r W2) (hm : behindInMarks op r = false) : SE X A F (.Compare l [op] [r] pos) (wCmp X op W1 W2) := se_cmp h1 h2 C hA hm
theorem q_cmp {l r : Expr} {op : CmpOp} {pos : Pos} {W1 W2 : WE} (C : COk X) {d : Nat} (hA : AOk A d) (h1 : SE X A F l W1) (h2 : SE X A F r W2) (hm : behindInMarks op r = false) : SB X A F (.Compare l [op] [r] pos) (bCmp X op W1 W2) := sb_cmp h1 h2 C hA hm
theorem q_val {e : Expr} {W : WE} (h1 : SE X A F e W) (he : ∀ (whole : Sem Value), isTrue e F.env whole = (do let v ← whole; standAt e.pos; holding [v] (truthy v))) : SB X A F e (bVal W) := sb_val h1 he
theorem q_not {e : Expr} {pos : Pos} {W : WB} (h1 : SB X A F e W) : SB X A F (.UnaryOp .Not e pos) (bNot W) := sb_not h1
theorem q_and {e1 e2 : Expr} {pos : Pos} {W1 W2 : WB} (h1 : SB X A F e1 W1) (h2 : SB X A F e2 W2) : SB X A F (.BoolOp .And [e1, e2] pos) (bAnd W1 W2) := sb_and h1 h2
theorem q_or {e1 e2 : Expr} {pos : Pos} {W1 W2 : WB} (h1 : SB X A F e1 W1) (h2 : SB X A F e2 W2) : SB X A F (.BoolOp .Or [e1, e2] pos) (bOr W1 W2) := sb_or h1 h2
theorem r_or {e1 e2 : Expr} {pos : Pos} {W1 W2 : WE} (h1 : SE X A F e1 W1) (h2 : SE X A F e2 W2) : SE X A F (.BoolOp .Or [e1, e2] pos) (wOr W1 W2) := se_or h1 h2
theorem r_sub {value slice : Expr} {pos : Pos} {W1 W2 : WE} (h1 : SE X A F value W1) (h2 : SE X A F slice W2) (hs : ∀ o i, subscripted slice false o i = operate [o, i] (getItem o i)) : SE X A F (.Subscript value slice pos) (wSub W1 W2) := se_sub h1 h2 hs
theorem p_none : SP X A F none pNone := sp_none
theorem p_some {e : Expr} {W : WE} (h1 : SE X A F e W) : SP X A F (some e) (pSome W) := sp_some h1
theorem r_slice {value : Expr} {lo hi sp : Option Expr} {p pos : Pos} {W : WE} {W1 W2 W3 : WP} (h1 : SE X A F value W) (hl : SP X A F lo W1) (hh : SP X A F hi W2) (hs : SP X A F sp W3)
    (hops : ∀ o i, ∃ ops, subscripted (.Slice lo hi sp p) false o i = operate ops (getItem o i)) : SE X A F (.Subscript value (.Slice lo hi sp p) pos) (wSlice X W W1 W2 W3) := se_slice h1 hl hh hs hops
theorem a_nil {pos : Pos} : SA X A F pos [] aNil := sa_nil
theorem a_cons {pos : Pos} {e : Expr} {es : List Expr} {W : WE} {Ws : WA} (h1 : SE X A F e W) (h2 : SA X A F pos es Ws) (he : starEach (e :: es) F.env = (false, eval e F.env) :: starEach es F.env) : SA X A F pos (e :: es) (aCons W Ws) := sa_cons h1 h2 he
theorem r_list {pos : Pos} {es : List Expr} {Ws : WA} (h1 : SA X A F pos es Ws) : SE X A F (.List es pos) (wList Ws) := se_list h1
theorem r_tuple {pos : Pos} {k : Nat} {es : List Expr} {Ws : WA} (h1 : SA X A F pos es Ws) : SE X A F (.Tuple es k pos) (wTuple Ws) := se_tuple h1
theorem r_dict0 {pos : Pos} : SE X A F (.Dict [] [] pos) wDict0 := se_dict0
theorem r_wal {t value : Expr} {pos : Pos} {W : WE} {Wt : WT} (he : SE X A F value W) (ht : ST X A F t Wt) : SE X A F (.NamedExpr t value pos) (wWal W Wt) := se_walrus he ht
theorem r_call {x : Str} {p pos : Pos} {f : Addr} {d d' : Nat} {e : Expr} {es : List Expr} {W : WF} {Ws : WA} (hA : AOk A d') (hF : AFx A F) (hd : d ≤ d') (hf : SF X f d W) (hfn : ∃ o fd, X.h₀.get? f = some o ∧ o.data = .func fd)
    (hn : SE X A F (.Name x p) (wCon (.ref f))) (ha : SA X A F pos (e :: es) Ws) (he : starEach (e :: es) F.env = (false, eval e F.env) :: starEach es F.env) : SE X A F (.Call (.Name x p) (e :: es) [] pos) (wCall W Ws) := se_call (hA.mono hd) hF.afr hf hfn hn ha he
theorem r_callv {x : Str} {p pos : Pos} {d d' : Nat} {e : Expr} {es : List Expr} {W1 : WE} {Ws : WA} (hA : AOk A d') (hF : AFx A F) (hd : d ≤ d') (hn : SE X A F (.Name x p) W1) (ha : SA X A F pos (e :: es) Ws) (he : starEach (e :: es) F.env = (false, eval e F.env) :: starEach es F.env) :
    SE X A F (.Call (.Name x p) (e :: es) [] pos) (wCallv X d W1 Ws) := se_callv (hA.mono hd) hF.afr hn ha he
theorem r_len {x : Str} {p pos : Pos} {e : Expr} {W : WE} (hn : SE X A F (.Name x p) (wCon (.builtin "len"))) (h1 : SE X A F e W) (hs : starEach [e] F.env = (false, eval e F.env) :: starEach [] F.env) : SE X A F (.Call (.Name x p) [e] [] pos) (wB lenW W) := se_blt1 hn h1 hs fun _ _ _ _ => so_len
theorem r_sum {x : Str} {p pos : Pos} {e : Expr} {W : WE} (hA : A.handled = none) (hn : SE X A F (.Name x p) (wCon (.builtin "sum"))) (h1 : SE X A F e W) (hs : starEach [e] F.env = (false, eval e F.env) :: starEach [] F.env) : SE X A F (.Call (.Name x p) [e] [] pos) (wB sumW W) := se_blt1 hn h1 hs fun _ _ _ _ => so_sum hA
theorem r_iter {x : Str} {p pos : Pos} {e : Expr} {W : WE} (hn : SE X A F (.Name x p) (wCon (.builtin "iter"))) (h1 : SE X A F e W) (hs : starEach [e] F.env = (false, eval e F.env) :: starEach [] F.env) : SE X A F (.Call (.Name x p) [e] [] pos) (wB iterW W) := se_blt1 hn h1 hs fun _ _ _ _ => so_iter
theorem r_intc {x : Str} {p pos : Pos} {e : Expr} {W : WE} (hn : SE X A F (.Name x p) (wCon (.type "int"))) (h1 : SE X A F e W) (hs : starEach [e] F.env = (false, eval e F.env) :: starEach [] F.env) : SE X A F (.Call (.Name x p) [e] [] pos) (wB intW W) := se_type1 hn h1 hs fun _ _ _ _ => so_int
theorem r_tuplec {x : Str} {p pos : Pos} {e : Expr} {W : WE} (hn : SE X A F (.Name x p) (wCon (.type "tuple"))) (h1 : SE X A F e W) (hs : starEach [e] F.env = (false, eval e F.env) :: starEach [] F.env) : SE X A F (.Call (.Name x p) [e] [] pos) (wB tupleW W) := se_type1 hn h1 hs fun _ _ _ _ => so_tuple
theorem r_listc {x : Str} {p pos : Pos} {e : Expr} {W : WE} (hn : SE X A F (.Name x p) (wCon (.type "list"))) (h1 : SE X A F e W) (hs : starEach [e] F.env = (false, eval e F.env) :: starEach [] F.env) : SE X A F (.Call (.Name x p) [e] [] pos) (wB listW W) := se_type1 hn h1 hs fun _ _ _ _ => so_list
theorem r_boolc {x : Str} {p pos : Pos} {e : Expr} {W : WE} (hn : SE X A F (.Name x p) (wCon (.type "bool"))) (h1 : SE X A F e W) (hs : starEach [e] F.env = (false, eval e F.env) :: starEach [] F.env) : SE X A F (.Call (.Name x p) [e] [] pos) (wB boolW W) := se_type1 hn h1 hs fun _ _ _ _ => so_bool
theorem r_setc {x : Str} {p pos : Pos} (hn : SE X A F (.Name x p) (wCon (.type "set"))) : SE X A F (.Call (.Name x p) [] [] pos) (wB0 setW) := se_type0 hn fun _ _ => so_set
theorem r_getOwn (B : Base X K) {C : Addr} {name : Str} (N : OwnName K C name) {value : Expr} {pos : Pos} {W : WE} (h1 : SE X A F value W)
    (he : eval (.Attribute value name pos) F.env = (do
      let o ← eval value F.env
      standAt pos.atName
      let r ← holding [o] (getAttr o name true)
      letTemporaryGo value o r
      pure r)) : SE X A F (.Attribute value name pos) (wB (getOwnW C name) W) := se_attr h1 (fun _ _ _ _ => so_getOwn B N) he
theorem r_getSlot (B : Base X K) {C : Addr} {name : Str} {i : Nat} (N : SlotName K C name i) {value : Expr} {pos : Pos} {W : WE} (h1 : SE X A F value W)
    (he : eval (.Attribute value name pos) F.env = (do
      let o ← eval value F.env
      standAt pos.atName
      let r ← holding [o] (getAttr o name true)
      letTemporaryGo value o r
      pure r)) : SE X A F (.Attribute value name pos) (wB (getSlotW C i) W) := se_attr h1 (fun _ _ _ _ => so_getSlot B N) he
theorem r_nextm {value : Expr} {pos : Pos} {W : WE} (h1 : SE X A F value W)
    (he : eval (.Attribute value "__next__" pos) F.env = (do
      let o ← eval value F.env
      standAt pos.atName
      let r ← holding [o] (getAttr o "__next__" true)
      letTemporaryGo value o r
      pure r)) : SE X A F (.Attribute value "__next__" pos) (wB nextW W) := se_attr h1 (fun _ _ _ _ => so_next) he
theorem r_append {o e : Expr} {apos pos : Pos} {W1 W2 : WE} (h1 : SE X A F o W1) (h2 : SE X A F e W2) (hf : MForm F o "append" apos pos [e] [(false, eval e F.env)]) : SE X A F (.Call (.Attribute o "append" apos) [e] [] pos) (wAppend W1 W2) := se_append h1 h2 hf
theorem r_pop {o : Expr} {apos pos : Pos} {W1 : WE} (h1 : SE X A F o W1) (hf : MForm F o "pop" apos pos [] []) : SE X A F (.Call (.Attribute o "pop" apos) [] [] pos) (wPop W1) := se_pop h1 hf
theorem r_clear {o : Expr} {apos pos : Pos} {W1 : WE} (h1 : SE X A F o W1) (hf : MForm F o "clear" apos pos [] []) : SE X A F (.Call (.Attribute o "clear" apos) [] [] pos) (wClear W1) := se_clear h1 hf
theorem r_count {o e : Expr} {apos pos : Pos} {W1 W2 : WE} (h1 : SE X A F o W1) (h2 : SE X A F e W2) (hf : MForm F o "count" apos pos [e] [(false, eval e F.env)]) : SE X A F (.Call (.Attribute o "count" apos) [e] [] pos) (wCount W1 W2) := se_count h1 h2 hf
theorem r_dget {o e : Expr} {apos pos : Pos} {W1 W2 : WE} (C : COk X) (h1 : SE X A F o W1) (h2 : SE X A F e W2) (hf : MForm F o "get" apos pos [e] [(false, eval e F.env)]) : SE X A F (.Call (.Attribute o "get" apos) [e] [] pos) (wDget W1 W2) := se_dget C h1 h2 hf
theorem r_sadd {o e : Expr} {apos pos : Pos} {W1 W2 : WE} (h1 : SE X A F o W1) (h2 : SE X A F e W2) (hf : MForm F o "add" apos pos [e] [(false, eval e F.env)]) : SE X A F (.Call (.Attribute o "add" apos) [e] [] pos) (wSadd W1 W2) := se_sadd h1 h2 hf
theorem r_meth0 (B : Base X K) {C f : Addr} {name : Str} (N : MethName K C name f) {d d' : Nat} {o : Expr} {apos pos : Pos} {W1 : WE} {W : WF} {pl : Sem Bool} (hA : AOk A d') (hF : AFx A F) (hd : d ≤ d') (hf : SF X f d W) (h1 : SE X A F o W1)
    (he : eval (.Call (.Attribute o name apos) [] [] pos) F.env = (do
      let ov ← eval o F.env
      standAt apos.atName
      let (f, first) ← holding [ov] (getMethod ov name pl)
      callWith pos f first (backTo pos (starEach [] F.env)) (backToKw pos (keywordEach [] F.env)))) : SE X A F (.Call (.Attribute o name apos) [] [] pos) (wMeth0 C name W W1) := se_meth0 B N (hA.mono hd) hF.afr hf h1 he
theorem r_meth (B : Base X K) {C f : Addr} {name : Str} (N : MethName K C name f) {d d' : Nat} {o e : Expr} {es : List Expr} {apos pos : Pos} {W1 : WE} {Ws : WA} {W : WF} {pl : Sem Bool} (hA : AOk A d') (hF : AFx A F) (hd : d ≤ d') (hf : SF X f d W) (h1 : SE X A F o W1) (h2 : SA X A F pos (e :: es) Ws)
    (he : eval (.Call (.Attribute o name apos) (e :: es) [] pos) F.env = (do
      let ov ← eval o F.env
      standAt apos.atName
      let (f, first) ← holding [ov] (getMethod ov name pl)
      callWith pos f first (backTo pos (starEach (e :: es) F.env)) (backToKw pos (keywordEach [] F.env))))
    (hs : starEach (e :: es) F.env = (false, eval e F.env) :: starEach es F.env) (hpl : (backTo pos (starEach es F.env)).any (·.1) = false) : SE X A F (.Call (.Attribute o name apos) (e :: es) [] pos) (wMeth C name W W1 Ws) := se_meth B N (hA.mono hd) hF.afr hf h1 h2 he hs hpl
theorem r_methS (B : Base X K) {C f : Addr} {name : Str} (N : BoundName K C name f) {d d' : Nat} {o e e2 : Expr} {apos pos p2 : Pos} {W1 W2 W3 : WE} {W : WF} (hA : AOk A d') (hF : AFx A F) (hd : d ≤ d') (hf : SF X f d W) (h1 : SE X A F o W1) (h2 : SE X A F e W2) (h3 : SE X A F e2 W3)
    (he : eval (.Call (.Attribute o name apos) [e, .Starred e2 p2] [] pos) F.env = (do
      let ov ← eval o F.env
      standAt apos.atName
      let x ← holding [ov] (do let g ← getAttr ov name true; pure (g, ([] : List Value)))
      callWith pos x.1 x.2 (backTo pos (starEach [e, .Starred e2 p2] F.env)) (backToKw pos (keywordEach [] F.env))))
    (hs : starEach [e, .Starred e2 p2] F.env = (false, eval e F.env) :: starEach [.Starred e2 p2] F.env) (hs2 : starEach [.Starred e2 p2] F.env = (true, eval e2 F.env) :: starEach [] F.env) (hpl : (backTo pos (starEach [.Starred e2 p2] F.env)).any (·.1) = true) :
    SE X A F (.Call (.Attribute o name apos) [e, .Starred e2 p2] [] pos) (wMethS C name W W1 W2 W3) := se_methStar2 B N (hA.mono hd) hF.afr hf h1 h2 h3 he hs hs2 hpl
theorem r_neg {i : Int} {k : Nat} {p pos : Pos} : SE X A F (.UnaryOp .USub (.Constant (.int i) k p) pos) (wInt (-i)) := by
  intro st s r P hP Q E h
  exact UnaryOp_ (wpAny_Constant_int (PyProof.Rows.neg_int (h _ _ _ _ ((r.toks _).toks _) ((Ev.toks _).trans (.toks _)) (.mkInt _ _ _) hP)))
theorem r_new (B : Base X K) {C fI : Addr} (N : MakesName K C fI) {d d' : Nat} {Wi : WF} {x : Str} {p pos : Pos} {e : Expr} {es : List Expr} {Ws : WA} (hA : AOk A d') (hF : AFx A F) (hd : d + 1 ≤ d') (hf : SF X fI d Wi) (hn : SE X A F (.Name x p) (wCon (.ref C))) (ha : SA X A F pos (e :: es) Ws)
    (hs : starEach (e :: es) F.env = (false, eval e F.env) :: starEach es F.env) (hpl : (backTo pos (starEach es F.env)).any (·.1) = false) : SE X A F (.Call (.Name x p) (e :: es) [] pos) (wNew C Wi Ws) := se_new B N hf (hA.mono hd) hF.afr hn ha hs hpl
theorem r_new0 (B : Base X K) {C fI : Addr} (N : MakesName K C fI) {d d' : Nat} {Wi : WF} {x : Str} {p pos : Pos} (hA : AOk A d') (hF : AFx A F) (hd : d + 1 ≤ d') (hf : SF X fI d Wi) (hn : SE X A F (.Name x p) (wCon (.ref C))) : SE X A F (.Call (.Name x p) [] [] pos) (wNew0 C Wi) := se_new0 B N hf (hA.mono hd) hF.afr hn
theorem r_comp {elt tgt iter : Expr} {ifs : List Expr} {scope : Scope} {cl : List (Str × Addr)} {nm : List Str} {mp : List (Option Nat)} {pos : Pos} {Wi : WI} {Wt : WT} {Wc : WB} {We : WE}
    (hs : ∀ x, foldedSetIterable iter F.env x = pure x) (K : CompOk F scope cl nm mp)
    (hi : SI X A F iter tgt Wi) (ht : ∀ C, ST X A (cmpFx F scope cl nm C) tgt Wt) (hc : ∀ C, STst X A (cmpFx F scope cl nm C) ifs Wc) (he : ∀ C, SE X A (cmpFx F scope cl nm C) elt We) :
    SE X A F (.ListComp elt [⟨tgt, iter, ifs, 0⟩] scope pos) (compW mp (.list []) Wi Wt Wc (addL We)) := se_listcomp hs K hi ht hc he
theorem c_nil : STst X A F [] bTrue := tst_nil
theorem c_one {c : Expr} {W : WB} (h1 : SB X A F c W) : STst X A F [c] W := tst_one h1
theorem t_name {i : Nat} {x : Str} {pos : Pos} (hs : StOk F i x) : ST X A F (.Name x pos) (tName i) := tg_name hs
theorem t_sub {o i : Expr} {pos : Pos} {W1 W2 : WE} (h1 : SE X A F o W1) (h2 : SE X A F i W2) : ST X A F (.Subscript o i pos) (tSub W1 W2) := tg_sub h1 h2
theorem t_own (B : Base X K) {C : Addr} {name : Str} (N : OwnName K C name) {o : Expr} {pos : Pos} {W : WE} (h1 : SE X A F o W) : ST X A F (.Attribute o name pos) (tAttr W (setOwnW C name)) := tg_attr h1 (sset_own B N)
theorem t_slot (B : Base X K) {C : Addr} {name : Str} {i : Nat} (N : SlotName K C name i) {o : Expr} {pos : Pos} {W : WE} (h1 : SE X A F o W) : ST X A F (.Attribute o name pos) (tAttr W (setSlotW C i)) := tg_attr h1 (sset_slot B N)
theorem ts_nil : STs X A F [] tsNil := tgs_nil
theorem ts_cons {t : Expr} {ts : List Expr} {W : WT} {Ws : WTs} (h1 : ST X A F t W) (h2 : STs X A F ts Ws) (he : assignEach (t :: ts) F.env = (false, assign t F.env) :: assignEach ts F.env) : STs X A F (t :: ts) (tsCons W Ws) := tgs_cons h1 h2 he
theorem t_tup {ts : List Expr} {k n : Nat} {pos : Pos} {Ws : WTs} (hA : A.handled = none) (hn : ts.length = n) (h1 : STs X A F ts Ws) (hl : (assignEach ts F.env).length = ts.length) (hs : (assignEach ts F.env).findIdx? (·.1) = none) : ST X A F (.Tuple ts k pos) (tTup n Ws) := by subst hn; exact tg_tuple hA h1 hl hs
theorem i_list {e tgt : Expr} {W : WE} (hA : A.handled = none) (he : SE X A F e W) : SI X A F e tgt (iList W) := si_list hA he
theorem i_tup {e tgt : Expr} {W : WE} (hA : A.handled = none) (he : SE X A F e W) : SI X A F e tgt (iTup W) := si_tup hA he
theorem i_range {e tgt : Expr} {p pos : Pos} {x : Str} {W : WE} (hA : A.handled = none) (ht : ∀ it v, letOwnedTupleGo tgt it v = pure ()) (hn : SE X A F (.Name x p) (wCon (.type "range"))) (h1 : SE X A F e W) (hs : starEach [e] F.env = (false, eval e F.env) :: starEach [] F.env) : SI X A F (.Call (.Name x p) [e] [] pos) tgt (iRange W) := si_range hA ht hn h1 hs
theorem i_enum {e : Expr} {x : Str} {elts : List Expr} {x1} {tp p pos : Pos} {W : WE} (hA : A.handled = none) (hn : SE X A F (.Name x p) (wCon (.type "enumerate"))) (h1 : SE X A F e W) (hs : starEach [e] F.env = (false, eval e F.env) :: starEach [] F.env) : SI X A F (.Call (.Name x p) [e] [] pos) (.Tuple elts x1 tp) (iEnum W) := si_enum hA hn h1 hs
theorem i_keys {e tgt : Expr} {W : WE} (C : COk X) (hA : A.handled = none) (he : SE X A F e W) : SI X A F e tgt (iKeys W) := si_keys C hA he
theorem i_values {o tgt : Expr} {apos pos : Pos} {W : WE} (C : COk X) (hA : A.handled = none) (he : SE X A F o W) (hf : MForm F o "values" apos pos [] []) : SI X A F (.Call (.Attribute o "values" apos) [] [] pos) tgt (iValues W) := si_values C hA he hf
theorem i_items {o : Expr} {elts : List Expr} {x1} {tp : Pos} {apos pos : Pos} {W : WE} (C : COk X) (hA : A.handled = none) (he : SE X A F o W) (hf : MForm F o "items" apos pos [] []) : SI X A F (.Call (.Attribute o "items" apos) [] [] pos) (.Tuple elts x1 tp) (iItems W) := si_items C hA he hf
theorem i_liter {e tgt : Expr} {W : WE} (hA : A.handled = none) (he : SE X A F e W) : SI X A F e tgt (iLiter W) := si_liter hA he
theorem m_nil : SL X A F [] sNil := ss_nil
theorem m_cons {c : Stmt} {cs : List Stmt} {W Ws : WS} (h1 : SS X A F c W) (h2 : SL X A F cs Ws) : SL X A F (c :: cs) (sCons W Ws) := ss_cons h1 h2
theorem m_never {c : List Stmt} : SL X A F c sNever := ss_never
theorem m_break {pos : Pos} : SS X A F (.Break pos) sBreak := ss_break
theorem m_cont {pos : Pos} : SS X A F (.Continue pos) sCont := ss_continue
theorem m_ret {e : Expr} {pos : Pos} {W : WE} (he : SE X A F e W) : SS X A F (.Return (some e) pos) (sRet W) := ss_return he
theorem m_if {test : Expr} {body orelse : List Stmt} {pos : Pos} {W : WB} {W1 W2 : WS} (ht : SB X A F test W) (h1 : SL X A F body W1) (h2 : SL X A F orelse W2) : SS X A F (.If test body orelse pos) (sIf W W1 W2) := ss_if ht h1 h2
theorem m_assign {i : Nat} {x : Str} {pos' pos : Pos} {value : Expr} {W : WE} (hs : StOk F i x) (he : SE X A F value W) (hsw : swapsWith value (some (.Name x pos')) pos.line F.env = pure false) : SS X A F (.Assign [.Name x pos'] value pos) (sAssign i W) := ss_assign hs he hsw
theorem m_assign1 {t value : Expr} {pos : Pos} {W : WE} {Wt : WT} (he : SE X A F value W) (ht : ST X A F t Wt) (h1 : swapsWithSole [t] value pos.line F.env = pure false) (h2 : swappedStores [t] value F.env = pure none) (h3 : (assignEach [t] F.env).map (·.2) = [assign t F.env]) : SS X A F (.Assign [t] value pos) (sAssign1 W Wt) := ss_assign1 he ht h1 h2 h3
theorem m_assign2 {t1 t2 value : Expr} {pos : Pos} {W : WE} {Wt1 Wt2 : WT} (he : SE X A F value W) (ht1 : ST X A F t1 Wt1) (ht2 : ST X A F t2 Wt2) (h3 : (assignEach [t1, t2] F.env).map (·.2) = [assign t1 F.env, assign t2 F.env]) (h2 : swappedStores [t1, t2] value F.env = pure none) : SS X A F (.Assign [t1, t2] value pos) (sAssign2 W Wt1 Wt2) := ss_assign2 he ht1 ht2 h3 h2
theorem m_swap2 {ts : List Expr} {k : Nat} {tpos pos : Pos} {value : Expr} {W : WE} {i j : Nat} {x y : Str} (hA : A.handled = none) (he : SE X A F value W) (hx : StOk F i x) (hy : StOk F j y) (h1 : swapsWithSole [.Tuple ts k tpos] value pos.line F.env = pure false) (h2 : swappedStores [.Tuple ts k tpos] value F.env = pure (some [x, y])) : SS X A F (.Assign [.Tuple ts k tpos] value pos) (sSwap2 i j W) := ss_swap2 hA he hx hy h1 h2
theorem m_aug {i : Nat} {x : Str} {npos pos : Pos} {op : Operator} {value : Expr} {W : WE} (hl : LdOk F i x) (hs : StOk F i x) (he : SE X A F value W) : SS X A F (.AugAssign (.Name x npos) op value pos) (sAug i op W) := ss_aug hl hs he
theorem m_augsub {o i value : Expr} {tpos pos : Pos} {op : Operator} {W1 W2 W3 : WE} (h1 : SE X A F o W1) (h2 : SE X A F i W2) (h3 : SE X A F value W3) (hi : ∀ ov iv new, augStore i ov iv new = (do holding [new, ov, iv] (setItem ov iv new); release [new, ov, iv] []; pure .next)) : SS X A F (.AugAssign (.Subscript o i tpos) op value pos) (sAugSub op W1 W2 W3) := ss_augsub h1 h2 h3 hi
theorem m_augown (B : Base X K) {C : Addr} {name : Str} (N : OwnName K C name) {o value : Expr} {tpos pos : Pos} {op : Operator} {W1 W3 : WE} (h1 : SE X A F o W1) (h3 : SE X A F value W3) : SS X A F (.AugAssign (.Attribute o name tpos) op value pos) (sAugAttr op W1 (getOwnW C name) W3 (setOwnW C name)) := ss_augattr h1 (fun _ _ _ _ => so_getOwn B N) h3 (sset_own B N)
theorem m_augslot (B : Base X K) {C : Addr} {name : Str} {i : Nat} (N : SlotName K C name i) {o value : Expr} {tpos pos : Pos} {op : Operator} {W1 W3 : WE} (h1 : SE X A F o W1) (h3 : SE X A F value W3) : SS X A F (.AugAssign (.Attribute o name tpos) op value pos) (sAugAttr op W1 (getSlotW C i) W3 (setSlotW C i)) := ss_augattr h1 (fun _ _ _ _ => so_getSlot B N) h3 (sset_slot B N)
theorem m_expr {e : Expr} {pos : Pos} {W : WE} (he : SE X A F e W) (hi : interactive F.env = false) (hs : swapsWith e none pos.line F.env = pure false) : SS X A F (.Expr e pos) (sExpr W) := ss_expr he hi hs
theorem m_while {test : Expr} {body : List Stmt} {pos : Pos} {W : WB} {W1 : WS} (ht : SB X A F test W) (h1 : SL X A F body W1) : SS X A F (.While test body [] pos) (sWhile W W1) := ss_while ht h1
theorem m_whileE {test : Expr} {body orelse : List Stmt} {pos : Pos} {W : WB} {W1 W2 : WS} (ht : SB X A F test W) (h1 : SL X A F body W1) (h2 : SL X A F orelse W2) : SS X A F (.While test body orelse pos) (sWhileE W W1 W2) := ss_whileE ht h1 h2
theorem m_for {tgt iter : Expr} {body : List Stmt} {pos : Pos} {Wi : WI} {Wt : WT} {Wb : WS} (hi : SI X A F iter tgt Wi) (ht : ST X A F tgt Wt) (hb : SL X A F body Wb) (hs : ∀ x, foldedSetIterable iter F.env x = pure x) : SS X A F (.For tgt iter body [] pos) (sFor Wi Wt Wb) := ss_for hi ht hb hs
theorem m_comp {elt tgt iter : Expr} {ifs : List Expr} {scope : Scope} {cl : List (Str × Addr)} {nm : List Str} {mp : List (Option Nat)} {pos xpos spos : Pos} {i : Nat} {x : Str} {Wi : WI} {Wt : WT} {Wc : WB} {We : WE} (hst : StOk F i x)
    (hsw : swapsWith (.ListComp elt [⟨tgt, iter, ifs, 0⟩] scope pos) (some (.Name x xpos)) spos.line F.env = pure true)
    (hs : ∀ x, foldedSetIterable iter F.env x = pure x) (K : CompOk F scope cl nm mp)
    (hi : SI X A F iter tgt Wi) (ht : ∀ C, ST X A (cmpFx F scope cl nm C) tgt Wt) (hc : ∀ C, STst X A (cmpFx F scope cl nm C) ifs Wc) (he : ∀ C, SE X A (cmpFx F scope cl nm C) elt We) :
    SS X A F (.Assign [.Name x xpos] (.ListComp elt [⟨tgt, iter, ifs, 0⟩] scope pos) spos) (sComp i (compW mp (.list []) Wi Wt Wc (addL We))) := ss_listcomp hst hsw hs K hi ht hc he
theorem m_del {o i : Expr} {pos' pos : Pos} {W1 W2 : WE} (h1 : SE X A F o W1) (h2 : SE X A F i W2) : SS X A F (.Delete [.Subscript o i pos'] pos) (sDel W1 W2) := ss_delsub h1 h2
theorem m_try {cls : Value} {body : List Stmt} {t : Expr} {b₀ : Stmt} {suite : List Stmt} {hpos pos : Pos} {W : WSx} {W2 : WS} (hF : AFx A F) (hb : SLx X A F cls body W) (hm : Meets' X A F cls t) (hs : ∀ e, SL X (A.mark (some (.ref e))) F (b₀ :: suite) W2) :
    SS X A F (.Try body [.ExceptHandler (some t) none (b₀ :: suite) hpos] [] [] pos) (sTry W W2) := ss_try hF hb hm hs
theorem x_of {cls : Value} {c : Stmt} {W : WS} (h : SS X A F c W) : SSx X A F cls c (xOf W) := sx_of h
theorem x_nil {cls : Value} : SLx X A F cls [] xNil := sx_nil
theorem x_cons {cls : Value} {c : Stmt} {cs : List Stmt} {W Ws : WSx} (h1 : SSx X A F cls c W) (h2 : SLx X A F cls cs Ws) : SLx X A F cls (c :: cs) (xCons W Ws) := sx_cons h1 h2
theorem x_if {cls : Value} {test : Expr} {body orelse : List Stmt} {pos : Pos} {W : WB} {W1 W2 : WSx} (ht : SB X A F test W) (h1 : SLx X A F cls body W1) (h2 : SLx X A F cls orelse W2) : SSx X A F cls (.If test body orelse pos) (xIf W W1 W2) := sx_if ht h1 h2
theorem x_assign {cls : Value} {i : Nat} {x : Str} {pos' pos : Pos} {value : Expr} {W : WEx} (hs : StOk F i x) (he : SEx X A F cls value W) (hsw : swapsWith value (some (.Name x pos')) pos.line F.env = pure false) : SSx X A F cls (.Assign [.Name x pos'] value pos) (xAssign i W) := sx_assign hs he hsw
theorem x_raise (B : Base X K) {x : Str} {C : Addr} {bmB : List Value} {Bn newId initId : String} (ex : nsIn K mainGlobals x = some (some (.ref C))) (q : excIn K C bmB newId = true) (FB : ExcBaseFacts Bn newId initId bmB) (hh : A.handled = none)
    {np cpos pos : Pos} {e : Expr} {es : List Expr} {Ws : WA} (hn : SE X A F (.Name x np) (wCon (.ref C))) (ha : SA X A F cpos (e :: es) Ws)
    (he : starEach (e :: es) F.env = (false, eval e F.env) :: starEach es F.env) (hpl : (backTo cpos (starEach es F.env)).any (·.1) = false) :
    SSx X A F (.ref C) (.Raise (some (.Call (.Name x np) (e :: es) [] cpos)) none pos) (xRaise Ws) := sx_raise B ex q FB hh hn ha he hpl
theorem ex_next (hA : A.handled = none) {o i : Expr} {pos' pos : Pos} {W1 : WE} (h1 : SE X A F (.Subscript o i pos') W1)
    (he : eval (.Call (.Subscript o i pos') [] [] pos) F.env = (do callWith pos (← eval (.Subscript o i pos') F.env) [] (backTo pos (starEach [] F.env)) (backToKw pos (keywordEach [] F.env)))) : SEx X A F (.type "StopIteration") (.Call (.Subscript o i pos') [] [] pos) (exNext W1) := sex_next hA h1 he
end
end Mine
end

noncomputable section
open PySem PySem.W PyProof.Rows
namespace Mine
noncomputable def lle (a b : List Int) : Prop := lexLt b a = false
theorem lle_refl (a : List Int) : lle a a := by
  unfold lle
  induction a with
  | nil => rfl
  | cons x xs ih => simp [lexLt, ih]
theorem lexLt_asymm : ∀ a b : List Int, lexLt a b = true → lexLt b a = false
  | [], [], h => by simp [lexLt] at h
  | [], _ :: _, _ => by simp [lexLt]
  | _ :: _, [], h => by simp [lexLt] at h
  | x :: xs, y :: ys, h => by
    simp only [lexLt] at h ⊢
    by_cases e : x = y
    · subst e; simp at h ⊢; exact lexLt_asymm xs ys h
    · have e' : ¬ y = x := fun q => e q.symm
      simp [e, e'] at h ⊢; omega
theorem lle_trans : ∀ {a b c : List Int}, a.length = b.length → b.length = c.length → lle a b → lle b c → lle a c
  | [], b, c, h1, h2, _, _ => by simp [lle]; cases c <;> simp [lexLt]
  | x :: xs, [], c, h1, h2, _, _ => by simp at h1
  | x :: xs, y :: ys, [], h1, h2, _, _ => by simp at h2
  | x :: xs, y :: ys, z :: zs, h1, h2, p, q => by
    simp only [lle, lexLt] at p q ⊢
    simp at h1 h2
    by_cases e : y = x
    · subst e
      by_cases e' : z = y
      · subst e'; simp at p q ⊢; exact lle_trans h1 h2 p q
      · simp [e'] at q ⊢; exact q
    · simp [e] at p
      by_cases e' : z = y
      · subst e'; simp [e] at ⊢; exact p
      · simp [e'] at q
        have : ¬ z = x := by omega
        simp [this]; omega
theorem lle_of_lt {a b : List Int} (h : lexLt a b = true) : lle a b := lexLt_asymm _ _ h

noncomputable def nth (ys : List (List Int)) (i : Nat) : List Int := ys.getD i []
noncomputable def par (i : Nat) : Nat := (i - 1) / 2
noncomputable def sw (ys : List (List Int)) (i j : Nat) : List (List Int) := (ys.set i (nth ys j)).set j (nth ys i)
theorem nth_set {ys : List (List Int)} {i : Nat} {a : List Int} (h : i < ys.length) (k : Nat) : nth (ys.set i a) k = if k = i then a else nth ys k := by
  unfold nth
  rw [List.getD_eq_getElem?_getD, List.getElem?_set, List.getD_eq_getElem?_getD]
  by_cases e : i = k
  · subst e; simp [h]
  · have : ¬ k = i := fun q => e q.symm
    simp [e, this]
theorem nth_sw {ys : List (List Int)} {i j : Nat} (hi : i < ys.length) (hj : j < ys.length) (k : Nat) : nth (sw ys i j) k = if k = j then nth ys i else if k = i then nth ys j else nth ys k := by
  unfold sw
  rw [nth_set (by simpa using hj), nth_set hi]
theorem length_sw (ys : List (List Int)) (i j : Nat) : (sw ys i j).length = ys.length := by simp [sw]
theorem nth_eq {ys : List (List Int)} {i : Nat} (h : i < ys.length) : nth ys i = ys[i] := by
  unfold nth; rw [List.getD_eq_getElem?_getD]; simp [h]
theorem sw_perm {ys : List (List Int)} {i j : Nat} (hi : i < ys.length) (hj : j < ys.length) : (sw ys i j).Perm ys := by
  have h := Array.swap_perm (xs := ys.toArray) (i := i) (j := j) (by simpa using hi) (by simpa using hj)
  have h' := h.toList
  rw [Array.toList_swap] at h'
  simpa [sw, nth_eq hi, nth_eq hj] using h'
theorem nth_mem {ys : List (List Int)} {i : Nat} (h : i < ys.length) : nth ys i ∈ ys := by rw [nth_eq h]; exact List.getElem_mem h

noncomputable def Lens (m : Nat) (ys : List (List Int)) : Prop := ∀ y ∈ ys, y.length = m
theorem Lens.nth {m : Nat} {ys : List (List Int)} (h : Lens m ys) {i : Nat} (hi : i < ys.length) : (nth ys i).length = m := h _ (nth_mem hi)
theorem Lens.perm {m : Nat} {ys zs : List (List Int)} (h : Lens m ys) (p : zs.Perm ys) : Lens m zs := fun y hy => h y (p.subset hy)

noncomputable def IsHeap (ys : List (List Int)) : Prop := ∀ i, 0 < i → i < ys.length → lle (nth ys (par i)) (nth ys i)
theorem IsHeap.least {m : Nat} {ys : List (List Int)} (L : Lens m ys) (h : IsHeap ys) : ∀ (i : Nat), i < ys.length → lle (nth ys 0) (nth ys i) := by
  intro i
  induction i using Nat.strongRecOn with
  | ind i ih =>
    intro hi
    by_cases e : i = 0
    · subst e; exact lle_refl _
    · have hp : par i < i := by unfold par; omega
      exact lle_trans ((L.nth (by omega)).trans (L.nth (by omega)).symm) ((L.nth (by omega)).trans (L.nth (by omega)).symm) (ih (par i) hp (by omega)) (h i (by omega) hi)
structure HoleU (ys : List (List Int)) (pos : Nat) : Prop where
  o : ∀ i, 0 < i → i < ys.length → i ≠ pos → lle (nth ys (par i)) (nth ys i)
  g : 0 < pos → ∀ i, 0 < i → i < ys.length → par i = pos → lle (nth ys (par pos)) (nth ys i)
structure HoleD (ys : List (List Int)) (pos : Nat) : Prop where
  o : ∀ i, 0 < i → i < ys.length → i ≠ pos → par i ≠ pos → lle (nth ys (par i)) (nth ys i)
  g : 0 < pos → ∀ i, 0 < i → i < ys.length → par i = pos → lle (nth ys (par pos)) (nth ys i)
theorem HoleU.up {m : Nat} {ys : List (List Int)} {pos : Nat} (L : Lens m ys) (h : HoleU ys pos) (hp : 0 < pos) (hl : pos < ys.length) (lt : lexLt (nth ys pos) (nth ys (par pos)) = true) : HoleU (sw ys pos (par pos)) (par pos) := by
  have q : par pos < pos := by unfold par; omega
  have len : ∀ {i j}, i < ys.length → j < ys.length → (nth ys i).length = (nth ys j).length := fun a b => (L.nth a).trans (L.nth b).symm
  have tr : ∀ {i j k}, i < ys.length → j < ys.length → k < ys.length → lle (nth ys i) (nth ys j) → lle (nth ys j) (nth ys k) → lle (nth ys i) (nth ys k) := fun a b c x y => lle_trans (len a b) (len b c) x y
  refine ⟨fun i h0 h1 h2 => ?_, fun g0 i h0 h1 h2 => ?_⟩
  · rw [length_sw] at h1
    rw [nth_sw hl (by omega), nth_sw hl (by omega), if_neg h2]
    by_cases e : i = pos
    · subst e; rw [if_pos rfl, if_pos rfl]; exact lle_of_lt lt
    · rw [if_neg e]
      by_cases e1 : par i = par pos
      · rw [if_pos e1]
        exact tr hl (by omega) h1 (lle_of_lt lt) (e1 ▸ h.o i h0 h1 e)
      · rw [if_neg e1]
        by_cases e2 : par i = pos
        · rw [if_pos e2]; exact h.g hp i h0 h1 e2
        · rw [if_neg e2]; exact h.o i h0 h1 e
  · rw [length_sw] at h1
    have q2 : par (par pos) < par pos := by unfold par at g0 ⊢; omega
    have q3 : i ≠ par pos := by intro e; subst e; omega
    rw [nth_sw hl (by omega), nth_sw hl (by omega), if_neg (by omega), if_neg (by omega), if_neg q3]
    have A := h.o (par pos) g0 (by omega) (by omega)
    by_cases e : i = pos
    · subst e; rw [if_pos rfl]; exact A
    · rw [if_neg e]
      exact tr (by omega) (by omega) h1 A (h2 ▸ h.o i h0 h1 e)
theorem HoleU.done {ys : List (List Int)} {pos : Nat} (h : HoleU ys pos) (lt : 0 < pos → lle (nth ys (par pos)) (nth ys pos)) : IsHeap ys := by
  intro i h0 h1
  by_cases e : i = pos
  · subst e; exact lt h0
  · exact h.o i h0 h1 e
theorem HoleD.down {ys : List (List Int)} {pos c : Nat} (h : HoleD ys pos) (hl : c < ys.length) (hc0 : 0 < c) (hc : par c = pos) (mn : ∀ i, 0 < i → i < ys.length → par i = pos → lle (nth ys c) (nth ys i)) : HoleD (sw ys pos c) c := by
  have q : pos < c := by subst hc; unfold par; omega
  refine ⟨fun i h0 h1 h2 h3 => ?_, fun g0 i h0 h1 h2 => ?_⟩
  · rw [length_sw] at h1
    rw [nth_sw (by omega) hl, nth_sw (by omega) hl, if_neg h2, if_neg h3]
    by_cases e : i = pos
    · subst e
      have : par i ≠ i := by unfold par; omega
      rw [if_pos rfl, if_neg this]
      exact h.g h0 c hc0 hl hc
    · rw [if_neg e]
      by_cases e1 : par i = pos
      · rw [if_pos e1]; exact mn i h0 h1 e1
      · rw [if_neg e1]; exact h.o i h0 h1 e e1
  · rw [length_sw] at h1
    have q4 : i ≠ c := by intro e; subst e; omega
    have q5 : i ≠ pos := by
      intro e; subst e
      have : par i ≤ i := by unfold par; omega
      omega
    rw [nth_sw (by omega) hl, nth_sw (by omega) hl, hc, if_neg (by omega), if_pos rfl, if_neg q4, if_neg q5]
    rw [← h2]
    exact h.o i h0 h1 q5 (by omega)
theorem HoleD.toU {ys : List (List Int)} {pos : Nat} (h : HoleD ys pos) (hl : ys.length ≤ 2 * pos + 1) : HoleU ys pos := by
  refine ⟨fun i h0 h1 h2 => h.o i h0 h1 h2 ?_, h.g⟩
  unfold par; omega
end Mine
end

noncomputable section
open PySem PySem.W PyProof.Rows
set_option maxRecDepth 100000
set_option maxHeartbeats 2000000
namespace Mine

noncomputable def w__siftdown (X : Cx)  : WS :=
  sCons (sAssign 3 (wSub (wLoc 0) (wLoc 2)))
  (sCons (sWhile (bCmp X .Gt (wLoc 2) (wLoc 1)) (sCons (sAssign 4 (wOp .RShift (wOp .Sub (wLoc 2) (wInt (1))) (wInt (1))))
  (sCons (sAssign 5 (wSub (wLoc 0) (wLoc 4)))
  (sCons (sIf (bCmp X .Lt (wLoc 3) (wLoc 5)) (sCons (sAssign1 (wLoc 5) (tSub (wLoc 0) (wLoc 2)))
  (sCons (sAssign 2 (wLoc 4))
  (sCons (sCont)
  (sNil)))) (sNil))
  (sCons (sBreak)
  (sNil))))))
  (sCons (sAssign1 (wLoc 3) (tSub (wLoc 0) (wLoc 2)))
  (sNil)))

noncomputable def w__siftup (X : Cx) (W_siftdown : WF) : WS :=
  sCons (sAssign 2 (wB lenW (wLoc 0)))
  (sCons (sAssign 3 (wLoc 1))
  (sCons (sAssign 4 (wSub (wLoc 0) (wLoc 1)))
  (sCons (sAssign 5 (wOp .Add (wOp .Mult (wInt (2)) (wLoc 1)) (wInt (1))))
  (sCons (sWhile (bCmp X .Lt (wLoc 5) (wLoc 2)) (sCons (sAssign 6 (wOp .Add (wLoc 5) (wInt (1))))
  (sCons (sIf (bAnd (bCmp X .Lt (wLoc 6) (wLoc 2)) (bNot (bCmp X .Lt (wSub (wLoc 0) (wLoc 5)) (wSub (wLoc 0) (wLoc 6))))) (sCons (sAssign 5 (wLoc 6))
  (sNil)) (sNil))
  (sCons (sAssign1 (wSub (wLoc 0) (wLoc 5)) (tSub (wLoc 0) (wLoc 1)))
  (sCons (sAssign 1 (wLoc 5))
  (sCons (sAssign 5 (wOp .Add (wOp .Mult (wInt (2)) (wLoc 1)) (wInt (1))))
  (sNil)))))))
  (sCons (sAssign1 (wLoc 4) (tSub (wLoc 0) (wLoc 1)))
  (sCons (sExpr (wCall W_siftdown (aCons (wLoc 0) (aCons (wLoc 3) (aCons (wLoc 1) (aNil))))))
  (sNil)))))))

noncomputable def w_heappush (X : Cx) (W_siftdown : WF) : WS :=
  sCons (sExpr (wAppend (wLoc 0) (wLoc 1)))
  (sCons (sExpr (wCall W_siftdown (aCons (wLoc 0) (aCons (wInt (0)) (aCons (wOp .Sub (wB lenW (wLoc 0)) (wInt (1))) (aNil))))))
  (sNil))

noncomputable def w_heappop (X : Cx) (W_siftup : WF) : WS :=
  sCons (sAssign 1 (wPop (wLoc 0)))
  (sCons (sIf (bVal (wLoc 0)) (sCons (sAssign 2 (wSub (wLoc 0) (wInt (0))))
  (sCons (sAssign1 (wLoc 1) (tSub (wLoc 0) (wInt (0))))
  (sCons (sExpr (wCall W_siftup (aCons (wLoc 0) (aCons (wInt (0)) (aNil)))))
  (sCons (sRet (wLoc 2))
  (sNil))))) (sNil))
  (sCons (sRet (wLoc 1))
  (sNil)))

noncomputable def w_ni_init (X : Cx)  : WS :=
  sCons (sAssign1 (wLoc 1) (tAttr (wLoc 0) (setSlotW 40 0)))
  (sCons (sAssign1 (wInt (0)) (tAttr (wLoc 0) (setSlotW 40 1)))
  (sCons (sAssign1 (wList (aNil)) (tAttr (wLoc 0) (setSlotW 40 2)))
  (sNil)))

noncomputable def w_tsget_nodeinfo (X : Cx) (Wni_init : WF) : WS :=
  sCons (sIf (bCmp X .Is (wWal (wDget (wB (getOwnW 137 "_node2info") (wLoc 0)) (wLoc 1)) (tName 2)) (wNone)) (sCons (sAssign2 (wNew 40 Wni_init (aCons (wLoc 1) (aNil))) (tSub (wB (getOwnW 137 "_node2info") (wLoc 0)) (wLoc 1)) (tName 2))
  (sNil)) (sNil))
  (sCons (sRet (wLoc 2))
  (sNil))

noncomputable def w_ts_add (X : Cx) (Wtsget_nodeinfo : WF) : WS :=
  sCons (sIf (bCmp X .IsNot (wB (getOwnW 137 "_ready_nodes") (wLoc 0)) (wNone)) (sNever) (sNil))
  (sCons (sAssign 3 (wMeth 137 "_get_nodeinfo" Wtsget_nodeinfo (wLoc 0) (aCons (wLoc 1) (aNil))))
  (sCons (sAugAttr .Add (wLoc 3) (getSlotW 40 1) (wB lenW (wLoc 2)) (setSlotW 40 1))
  (sCons (sFor (iTup (wLoc 2)) (tName 4) (sCons (sAssign 5 (wMeth 137 "_get_nodeinfo" Wtsget_nodeinfo (wLoc 0) (aCons (wLoc 4) (aNil))))
  (sCons (sExpr (wAppend (wB (getSlotW 40 2) (wLoc 5)) (wLoc 1)))
  (sNil))))
  (sNil))))

noncomputable def w_ts_init (X : Cx) (Wts_add : WF) : WS :=
  sCons (sAssign1 (wDict0) (tAttr (wLoc 0) (setOwnW 137 "_node2info")))
  (sCons (sAssign1 (wNone) (tAttr (wLoc 0) (setOwnW 137 "_ready_nodes")))
  (sCons (sAssign1 (wInt (0)) (tAttr (wLoc 0) (setOwnW 137 "_npassedout")))
  (sCons (sAssign1 (wInt (0)) (tAttr (wLoc 0) (setOwnW 137 "_nfinished")))
  (sCons (sIf (bCmp X .IsNot (wLoc 1) (wNone)) (sCons (sFor (iItems (wLoc 1)) (tTup 2 (tsCons (tName 2) (tsCons (tName 3) (tsNil)))) (sCons (sExpr (wMethS 137 "add" Wts_add (wLoc 0) (wLoc 2) (wLoc 3)))
  (sNil)))
  (sNil)) (sNil))
  (sNil)))))

noncomputable def w_tsfind_cycle (X : Cx)  : WS :=
  sCons (sAssign 1 (wB (getOwnW 137 "_node2info") (wLoc 0)))
  (sCons (sAssign 2 (wList (aNil)))
  (sCons (sAssign 3 (wList (aNil)))
  (sCons (sAssign 4 (wB0 setW))
  (sCons (sAssign 5 (wDict0))
  (sCons (sFor (iKeys (wLoc 1)) (tName 6) (sCons (sIf (bCmp X .In (wLoc 6) (wLoc 4)) (sCons (sCont)
  (sNil)) (sNil))
  (sCons (sWhile (bVal (wBool true)) (sCons (sIf (bCmp X .In (wLoc 6) (wLoc 4)) (sCons (sIf (bCmp X .In (wLoc 6) (wLoc 5)) (sCons (sRet (wOp .Add (wSlice X (wLoc 2) (pSome (wSub (wLoc 5) (wLoc 6))) (pNone) (pNone)) (wList (aCons (wLoc 6) (aNil)))))
  (sNil)) (sNil))
  (sNil)) (sCons (sExpr (wSadd (wLoc 4) (wLoc 6)))
  (sCons (sExpr (wAppend (wLoc 3) (wB nextW (wB iterW (wB (getSlotW 40 2) (wSub (wLoc 1) (wLoc 6)))))))
  (sCons (sAssign1 (wB lenW (wLoc 2)) (tSub (wLoc 5) (wLoc 6)))
  (sCons (sExpr (wAppend (wLoc 2) (wLoc 6)))
  (sNil))))))
  (sCons (sWhileE (bVal (wLoc 2)) (sCons (sTry (xCons (xAssign 6 (exNext (wSub (wLoc 3) (wInt (-1)))))
  (xCons (xOf (sBreak))
  (xNil))) (sCons (sDel (wLoc 5) (wPop (wLoc 2)))
  (sCons (sExpr (wPop (wLoc 3)))
  (sNil))))
  (sNil)) (sCons (sBreak)
  (sNil)))
  (sNil))))
  (sNil))))
  (sCons (sRet (wNone))
  (sNil)))))))

noncomputable def w_ts_prepare (X : Cx) (Wtsfind_cycle : WF) : WSx :=
  xCons (xOf (sIf (bCmp X .IsNot (wB (getOwnW 137 "_ready_nodes") (wLoc 0)) (wNone)) (sNever) (sNil)))
  (xCons (xOf (sAssign1 (compW [none] (.list []) (iValues (wB (getOwnW 137 "_node2info") (wLoc 0))) (tName 0) (bCmp X .Eq (wB (getSlotW 40 1) (wLoc 0)) (wInt (0))) (addL (wB (getSlotW 40 0) (wLoc 0)))) (tAttr (wLoc 0) (setOwnW 137 "_ready_nodes"))))
  (xCons (xOf (sAssign 1 (wMeth0 137 "_find_cycle" Wtsfind_cycle (wLoc 0))))
  (xCons (xIf (bVal (wLoc 1)) (xCons (xRaise (aCons (wStr "nodes are in a cycle") (aCons (wLoc 1) (aNil))))
  (xNil)) (xNil))
  (xNil))))

noncomputable def w_ts_get_ready (X : Cx)  : WS :=
  sCons (sIf (bCmp X .Is (wB (getOwnW 137 "_ready_nodes") (wLoc 0)) (wNone)) (sNever) (sNil))
  (sCons (sAssign 1 (wB tupleW (wB (getOwnW 137 "_ready_nodes") (wLoc 0))))
  (sCons (sAssign 2 (wB (getOwnW 137 "_node2info") (wLoc 0)))
  (sCons (sFor (iTup (wLoc 1)) (tName 3) (sCons (sAssign1 (wInt (-1)) (tAttr (wSub (wLoc 2) (wLoc 3)) (setSlotW 40 1)))
  (sNil)))
  (sCons (sExpr (wClear (wB (getOwnW 137 "_ready_nodes") (wLoc 0))))
  (sCons (sAugAttr .Add (wLoc 0) (getOwnW 137 "_npassedout") (wB lenW (wLoc 1)) (setOwnW 137 "_npassedout"))
  (sCons (sRet (wLoc 1))
  (sNil)))))))

noncomputable def w_ts_is_active (X : Cx)  : WS :=
  sCons (sIf (bCmp X .Is (wB (getOwnW 137 "_ready_nodes") (wLoc 0)) (wNone)) (sNever) (sNil))
  (sCons (sRet (wOr (wCmp X .Lt (wB (getOwnW 137 "_nfinished") (wLoc 0)) (wB (getOwnW 137 "_npassedout") (wLoc 0))) (wB boolW (wB (getOwnW 137 "_ready_nodes") (wLoc 0)))))
  (sNil))

noncomputable def w_ts_done (X : Cx)  : WS :=
  sCons (sIf (bCmp X .Is (wB (getOwnW 137 "_ready_nodes") (wLoc 0)) (wNone)) (sNever) (sNil))
  (sCons (sAssign 2 (wB (getOwnW 137 "_node2info") (wLoc 0)))
  (sCons (sFor (iTup (wLoc 1)) (tName 3) (sCons (sIf (bCmp X .Is (wWal (wDget (wLoc 2) (wLoc 3)) (tName 4)) (wNone)) (sNever) (sNil))
  (sCons (sAssign 5 (wB (getSlotW 40 1) (wLoc 4)))
  (sCons (sIf (bCmp X .NotEq (wLoc 5) (wInt (-1))) (sNever) (sNil))
  (sCons (sAssign1 (wInt (-2)) (tAttr (wLoc 4) (setSlotW 40 1)))
  (sCons (sFor (iList (wB (getSlotW 40 2) (wLoc 4))) (tName 6) (sCons (sAssign 7 (wSub (wLoc 2) (wLoc 6)))
  (sCons (sAugAttr .Sub (wLoc 7) (getSlotW 40 1) (wInt (1)) (setSlotW 40 1))
  (sCons (sIf (bCmp X .Eq (wB (getSlotW 40 1) (wLoc 7)) (wInt (0))) (sCons (sExpr (wAppend (wB (getOwnW 137 "_ready_nodes") (wLoc 0)) (wLoc 6)))
  (sNil)) (sNil))
  (sNil)))))
  (sCons (sAugAttr .Add (wLoc 0) (getOwnW 137 "_nfinished") (wInt (1)) (setOwnW 137 "_nfinished"))
  (sNil))))))))
  (sNil)))

noncomputable def w_reduce (X : Cx) (dv : Nat)  : WS :=
  sCons (sAssign 3 (wB iterW (wLoc 1)))
  (sCons (sIf (bCmp X .Is (wLoc 2) (wCon (.ref 142))) (sNever) (sCons (sAssign 4 (wLoc 2))
  (sNil)))
  (sCons (sFor (iLiter (wLoc 3)) (tName 5) (sCons (sAssign 4 (wCallv X dv (wLoc 0) (aCons (wLoc 4) (aCons (wLoc 5) (aNil)))))
  (sNil)))
  (sCons (sRet (wLoc 4))
  (sNil))))

end Mine
end

noncomputable section
open PySem PySem.W PyProof.Rows
set_option maxHeartbeats 2000000
namespace Mine
noncomputable def tupV (is : List Int) : V := .tup (is.map .int)
theorem Hp.set_same {hp : Hp} {a : Addr} {o : O} (h : hp a = some o) : hp.set a o = hp := by
  funext b; unfold Hp.set; split
  · rename_i e; rw [e, h]
  · rfl
theorem Hp.set_set (hp : Hp) (a : Addr) (o o' : O) : (hp.set a o).set a o' = hp.set a o' := by
  funext b; unfold Hp.set; split <;> rfl
theorem map_nth {ys : List (List Int)} {i : Nat} (h : i < ys.length) : (ys.map tupV)[i]? = some (tupV (nth ys i)) := by
  rw [nth_eq h]; simp [h]
theorem set_nth_self {ys : List (List Int)} {i : Nat} (h : i < ys.length) : ys.set i (nth ys i) = ys := by
  rw [nth_eq h]; simp
theorem par_int {p : Nat} (h : 0 < p) : ((p : Int) - 1) / 2 ^ (1 : Int).toNat = ((par p : Nat) : Int) := by
  unfold par
  show ((p : Int) - 1) / 2 = _
  omega
noncomputable def dwnW (m : Nat) : WF := fun args hp P => ∃ l pos ys, args = [.ref l, .int 0, .int (pos : Nat)] ∧ hp l = some (.list (ys.map tupV)) ∧ Lens m ys ∧ pos < ys.length ∧ ys.length < 1000000 ∧ HoleU ys pos ∧
    ∀ zs, zs.Perm ys → IsHeap zs → P .none (hp.set l (.list (zs.map tupV)))
theorem dwn_ok {X : Cx} {m : Nat} (args : List V) (hp : Hp) (P : V → Hp → Prop) (h : dwnW m args hp P) : posW 3 (w__siftdown X) args hp P := by
  obtain ⟨l, pos, ys, rfl, hl, L, hpos, hn, hole, k⟩ := h
  refine ⟨rfl, ?_⟩
  unfold w__siftdown
  dsimp only [sCons, sAssign, wSub, wLoc, sWhile]
  refine ⟨_, rfl, _, rfl, tupV (nth ys pos), .list hl (by omega) (by omega) (by simpa using map_nth hpos), ?_⟩
  refine ⟨fun n st => ∃ (p : Nat) (cur : List (List Int)), n = p ∧ st.lo 0 = some (.ref l) ∧ st.lo 1 = some (.int 0) ∧ st.lo 2 = some (.int (p : Nat)) ∧ st.lo 3 = some (tupV (nth ys pos)) ∧ st.hp = hp.set l (.list (cur.map tupV)) ∧ p < cur.length ∧ cur.length = ys.length ∧
    HoleU (cur.set p (nth ys pos)) p ∧ (cur.set p (nth ys pos)).Perm ys, ⟨pos, pos, ys, rfl, rfl, rfl, rfl, rfl, (Hp.set_same hl).symm, hpos, rfl, ?_, ?_⟩, ?_⟩
  · rw [set_nth_self hpos]; exact hole
  · rw [set_nth_self hpos]
  · rintro n st ⟨p, cur, rfl, e0, e1, e2, e3, eh, hp1, hlen, hU, hP⟩
    have fin : ∀ st : St, st.lo 0 = some (.ref l) → st.lo 2 = some (.int (n : Nat)) → st.lo 3 = some (tupV (nth ys pos)) → st.hp = hp.set l (.list (cur.map tupV)) → IsHeap (cur.set n (nth ys pos)) → sCons (sAssign1 (wLoc 3) (tSub (wLoc 0) (wLoc 2))) sNil st (finW P) := by
      intro st e0 e2 e3 eh hh
      refine ⟨_, e3, _, e0, _, e2, _, _, .list (by rw [eh, Hp.set_self]) (by omega) (by simpa using hp1) (by simp; omega), ?_⟩
      rintro _ rfl
      have := k _ hP hh
      simp only [sNil, finW, St.setH, eh, Hp.set_set]
      simpa [List.map_set] using this
    refine ⟨_, e2, _, e1, decide (0 < n), .int (by simp [cmpI]), ?_⟩
    by_cases h0 : 0 < n
    · refine ite_dt h0 ?_
      have hpar : par n < n := by unfold par; omega
      have hU' := hU
      dsimp only [sCons, sAssign, wSub, wLoc, sIf, wOp, wInt, binW, binI, bCmp]
      refine ⟨_, e2, by omega, ?_⟩
      rw [par_int h0]
      have hg : (cur.map tupV)[par n]? = some (tupV (nth cur (par n))) := map_nth (by omega)
      refine ⟨_, e0, _, rfl, tupV (nth cur (par n)), .list (by simp [St.setL]; rw [eh, Hp.set_self]) (by omega) (by omega) (by simpa using hg), ?_⟩
      have Lc : Lens m (cur.set n (nth ys pos)) := L.perm hP
      have n1 : nth (cur.set n (nth ys pos)) n = nth ys pos := by rw [nth_set hp1]; simp
      have n2 : nth (cur.set n (nth ys pos)) (par n) = nth cur (par n) := by rw [nth_set hp1, if_neg (by omega)]
      have l1 := Lc.nth (i := n) (by simpa using hp1)
      have l2 := Lc.nth (i := par n) (by simp; omega)
      rw [n1] at l1; rw [n2] at l2
      refine ⟨_, e3, _, rfl, _, .tupLt (l1.trans l2.symm), ?_⟩
      by_cases lt : lexLt (nth ys pos) (nth cur (par n)) = true
      · rw [lt]
        refine ite_t ?_
        refine ⟨_, rfl, _, e0, _, e2, _, _, .list (by simp [St.setL]; rw [eh, Hp.set_self]) (by omega) (by simpa using hp1) (by simp; omega), ?_⟩
        rintro _ rfl
        refine ⟨_, rfl, ?_⟩
        refine ⟨par n, hpar, par n, cur.set n (nth cur (par n)), rfl, ?_, ?_, ?_, ?_, ?_, ?_, ?_, ?_, ?_⟩
        · simpa [St.setL, setLo, St.setH] using e0
        · simpa [St.setL, setLo, St.setH] using e1
        · simp [St.setL, setLo, St.setH]
        · simpa [St.setL, setLo, St.setH] using e3
        · simp [St.setL, St.setH, eh, Hp.set_set, List.map_set]
        · simp; omega
        · simp; omega
        · have := hU.up Lc h0 (by simpa using hp1) (by rw [n1, n2]; exact lt)
          unfold sw at this; rw [n1, n2] at this; simpa using this
        · have := (sw_perm (ys := cur.set n (nth ys pos)) (i := n) (j := par n) (by simpa using hp1) (by simp; omega)).trans hP
          unfold sw at this; rw [n1, n2] at this; simpa using this
      · have lt' : lexLt (nth ys pos) (nth cur (par n)) = false := by simpa using lt
        rw [lt']
        simp only [Bool.false_eq_true, if_false, sNil, sBreak]
        exact fin _ e0 e2 e3 eh (hU.done fun _ => by rw [n1, n2]; exact lt')
    · refine ite_df h0 ?_
      exact fin _ e0 e2 e3 eh (hU.done fun q => absurd q h0)
end Mine
end

noncomputable section
open PySem PySem.W PyProof.Rows
set_option maxHeartbeats 2000000
namespace Mine
noncomputable def upW (m : Nat) : WF := fun args hp P => ∃ l ys, args = [.ref l, .int 0] ∧ hp l = some (.list (ys.map tupV)) ∧ Lens m ys ∧ 0 < ys.length ∧ ys.length < 1000000 ∧ HoleD ys 0 ∧
    ∀ zs, zs.Perm ys → IsHeap zs → P .none (hp.set l (.list (zs.map tupV)))
noncomputable def upI (hp : Hp) (l : Addr) (ys : List (List Int)) (n : Nat) (st : St) : Prop := ∃ (p : Nat) (cur : List (List Int)), n = ys.length - p ∧ st.lo 0 = some (.ref l) ∧ st.lo 1 = some (.int (p : Nat)) ∧ st.lo 2 = some (.int (ys.length : Nat)) ∧ st.lo 3 = some (.int 0) ∧ st.lo 4 = some (tupV (nth ys 0)) ∧ st.lo 5 = some (.int (2 * (p : Nat) + 1)) ∧ st.hp = hp.set l (.list (cur.map tupV)) ∧ p < cur.length ∧ cur.length = ys.length ∧
    HoleD (cur.set p (nth ys 0)) p ∧ (cur.set p (nth ys 0)).Perm ys
theorem up_ok {X : Cx} {m : Nat} (args : List V) (hp : Hp) (P : V → Hp → Prop) (h : upW m args hp P) : posW 2 (w__siftup X (dwnW m)) args hp P := by
  obtain ⟨l, ys, rfl, hl, L, hpos, hn, hole, k⟩ := h
  refine ⟨rfl, ?_⟩
  unfold w__siftup
  dsimp only [sCons, sAssign, wSub, wLoc, sWhile, wB, lenW, wOp, wInt, binW, binI]
  refine ⟨_, rfl, ys.length, ?_, _, rfl, _, rfl, _, rfl, tupV (nth ys 0), .list hl (by omega) (by omega) (by simpa using map_nth hpos), _, rfl, by decide, ?_⟩
  · have := LenR.list (hp := hp) hl (by simp; omega); simpa using this
  refine ⟨fun n st => upI hp l ys n st, ⟨_, 0, ys, rfl, rfl, rfl, rfl, rfl, rfl, rfl, (Hp.set_same hl).symm, hpos, rfl, ?_, ?_⟩, ?_⟩
  · rw [set_nth_self hpos]; exact hole
  · rw [set_nth_self hpos]
  · rintro n st ⟨p, cur, hn', e0, e1, e2, e3, e4, e5, eh, hp1, hlen, hD, hP⟩
    have Lc : Lens m (cur.set p (nth ys 0)) := L.perm hP
    have n1 : nth (cur.set p (nth ys 0)) p = nth ys 0 := by rw [nth_set hp1]; simp
    refine ⟨_, e5, _, e2, decide (2 * p + 1 < ys.length), .int (by simp [cmpI]; omega), ?_⟩
    by_cases h0 : 2 * p + 1 < ys.length
    · refine ite_dt h0 ?_
      refine ⟨_, e5, ?_⟩
      have rest : ∀ (c : Nat) (st : St) (Q : Fl → St → Prop), (∀ st3, upI hp l ys (ys.length - c) st3 → Q .next st3) → st.lo 0 = some (.ref l) → st.lo 1 = some (.int (p : Nat)) → st.lo 2 = some (.int (ys.length : Nat)) → st.lo 3 = some (.int 0) → st.lo 4 = some (tupV (nth ys 0)) → st.lo 5 = some (.int (c : Nat)) → st.hp = hp.set l (.list (cur.map tupV)) →
          0 < c → c < ys.length → par c = p → (∀ i, 0 < i → i < ys.length → par i = p → lle (nth cur c) (nth cur i)) →
          sCons (sAssign1 (wSub (wLoc 0) (wLoc 5)) (tSub (wLoc 0) (wLoc 1))) (sCons (sAssign 1 (wLoc 5)) (sCons (sAssign 5 (wOp .Add (wOp .Mult (wInt (2)) (wLoc 1)) (wInt (1)))) sNil)) st Q := by
        intro c st Q hQ e0 e1 e2 e3 e4 e5 eh c0 c1 c2 c3
        have hpc : p < c := by subst c2; unfold par; omega
        dsimp only [sCons, sAssign, wSub, wLoc, wOp, wInt, binW, binI, sAssign1, tSub]
        refine ⟨_, e0, _, e5, tupV (nth cur c), .list (by rw [eh, Hp.set_self]) (by omega) (by omega) (by simpa using map_nth (ys := cur) (by omega)), _, e0, _, e1, _, _, .list (by rw [eh, Hp.set_self]) (by omega) (by simpa using hp1) (by simp; omega), ?_⟩
        rintro _ rfl
        refine ⟨_, e5, _, rfl, by omega, ?_⟩
        have n2 : nth (cur.set p (nth ys 0)) c = nth cur c := by rw [nth_set hp1, if_neg (by omega)]
        refine hQ _ ⟨c, cur.set p (nth cur c), rfl, e0, rfl, e2, e3, e4, rfl, ?_, ?_, ?_, ?_, ?_⟩
        · simp [St.setL, St.setH, eh, Hp.set_set, List.map_set]
        · simp; omega
        · simp; omega
        · have := hD.down (c := c) (by simp; omega) c0 c2 (by
            intro i i0 i1 i2
            have : i ≠ p := by intro q; subst q; unfold par at i2; omega
            rw [nth_set hp1, nth_set hp1, if_neg (by omega), if_neg this]
            exact c3 i i0 (by simpa [hlen] using i1) i2)
          unfold sw at this; rw [n1, n2] at this; simpa using this
        · have := (sw_perm (ys := cur.set p (nth ys 0)) (i := p) (j := c) (by simpa using hp1) (by simp; omega)).trans hP
          unfold sw at this; rw [n1, n2] at this; simpa using this
      have len : ∀ i, i ≠ p → i < ys.length → (nth cur i).length = m := by
        intro i hi hi'
        have := Lc.nth (i := i) (by simp; omega)
        rwa [nth_set hp1, if_neg hi] at this
      dsimp only [sIf, bAnd, bCmp, bNot, wLoc, wSub]
      refine ⟨_, rfl, _, e2, decide (2 * p + 2 < ys.length), .int (by simp [cmpI]; omega), ?_⟩
      by_cases h1 : 2 * p + 2 < ys.length
      · refine ite_dt h1 ?_
        refine ⟨_, e0, _, e5, tupV (nth cur (2 * p + 1)), .list (by simp [St.setL]; rw [eh, Hp.set_self]) (by omega) (by omega) (by rw [show (2 * (p : Int) + 1).toNat = 2 * p + 1 by omega]; exact map_nth (by omega)), _, e0, _, rfl, tupV (nth cur (2 * p + 2)), .list (by simp [St.setL]; rw [eh, Hp.set_self]) (by omega) (by omega) ?_, _, .tupLt ((len _ (by omega) h0).trans (len _ (by omega) h1).symm), ?_⟩
        · have : ((2 * (p : Int) + 1) + 1).toNat = 2 * p + 2 := by omega
          rw [this]; exact map_nth (by omega)
        by_cases lt : lexLt (nth cur (2 * p + 1)) (nth cur (2 * p + 2)) = true
        · rw [lt]
          refine rest (2 * p + 1) _ _ (fun st3 q => ⟨_, by omega, q⟩) e0 e1 e2 e3 e4 e5 eh (by omega) (by omega) (by unfold par; omega) ?_
          intro i i0 i1 i2
          have : i = 2 * p + 1 ∨ i = 2 * p + 2 := by unfold par at i2; omega
          rcases this with rfl | rfl
          · exact lle_refl _
          · exact lle_of_lt lt
        · have lt' : lexLt (nth cur (2 * p + 1)) (nth cur (2 * p + 2)) = false := by simpa using lt
          rw [lt']
          refine ⟨_, rfl, rest (2 * p + 2) _ _ (fun st3 q => ⟨_, by omega, q⟩) e0 e1 e2 e3 e4 rfl eh (by omega) (by omega) (by unfold par; omega) ?_⟩
          intro i i0 i1 i2
          have : i = 2 * p + 1 ∨ i = 2 * p + 2 := by unfold par at i2; omega
          rcases this with rfl | rfl
          · exact lt'
          · exact lle_refl _
      · refine ite_df h1 ?_
        refine rest (2 * p + 1) _ _ (fun st3 q => ⟨_, by omega, q⟩) e0 e1 e2 e3 e4 e5 eh (by omega) (by omega) (by unfold par; omega) ?_
        intro i i0 i1 i2
        have : i = 2 * p + 1 := by unfold par at i2; omega
        subst this; exact lle_refl _
    · refine ite_df h0 ?_
      refine ⟨_, e4, _, e0, _, e1, _, _, .list (by rw [eh, Hp.set_self]) (by omega) (by simpa using hp1) (by simp; omega), ?_⟩
      rintro _ rfl
      refine ⟨_, e0, _, e3, _, e1, l, p, cur.set p (nth ys 0), rfl, ?_, Lc, by simpa using hp1, by simp; omega, hD.toU (by simp; omega), ?_⟩
      · simp [St.setH, Hp.set_self, List.map_set]
      · intro zs h1 h2
        have := k zs (h1.trans hP) h2
        simpa [finW, sNil, St.setH, eh, Hp.set_set] using this
noncomputable def pushW (m : Nat) : WF := fun args hp P => ∃ l ys y, args = [.ref l, tupV y] ∧ hp l = some (.list (ys.map tupV)) ∧ Lens m ys ∧ y.length = m ∧ ys.length + 1 < 1000000 ∧ IsHeap ys ∧
    ∀ zs, zs.Perm (y :: ys) → IsHeap zs → P .none (hp.set l (.list (zs.map tupV)))
theorem nth_append_lt {ys : List (List Int)} {y : List Int} {i : Nat} (h : i < ys.length) : nth (ys ++ [y]) i = nth ys i := by
  unfold nth; rw [List.getD_eq_getElem?_getD, List.getElem?_append_left h, List.getD_eq_getElem?_getD]
theorem push_ok {X : Cx} {m : Nat} (args : List V) (hp : Hp) (P : V → Hp → Prop) (h : pushW m args hp P) : posW 2 (w_heappush X (dwnW m)) args hp P := by
  obtain ⟨l, ys, y, rfl, hl, L, hy, hn, hh, k⟩ := h
  refine ⟨rfl, ?_⟩
  unfold w_heappush
  dsimp only [sCons, sExpr, wAppend, wLoc, wCall, aCons, aNil, wB, lenW, wOp, wInt, binW, binI]
  refine ⟨_, rfl, l, rfl, ⟨_, hl⟩, _, rfl, _, hl, by simp; omega, _, rfl, _, rfl, ys.length + 1, ?_, ?_⟩
  · have := LenR.list (hp := hp.set l (.list (ys.map tupV ++ [tupV y]))) (a := l) (Hp.set_self _ _ _) (by simp; omega)
    simpa [St.setH] using this
  · refine ⟨l, ys.length, ys ++ [y], ?_, ?_, ?_, by simp, by simp; omega, ⟨?_, ?_⟩, ?_⟩
    · simp
    · simp [St.setH, Hp.set_self]
    · intro z hz
      simp at hz
      rcases hz with hz | rfl
      · exact L z hz
      · exact hy
    · intro i h0 h1 h2
      simp at h1
      have : par i < i := by unfold par; omega
      rw [nth_append_lt (by omega), nth_append_lt (by omega)]
      exact hh i h0 (by omega)
    · intro _ i h0 h1 h2
      simp at h1
      unfold par at h2; omega
    · intro zs h1 h2
      have := k zs (h1.trans (List.perm_append_singleton y ys)) h2
      simpa [finW, sNil, St.setH, Hp.set_set] using this
noncomputable def popW (m : Nat) : WF := fun args hp P => ∃ l y ys, args = [.ref l] ∧ hp l = some (.list ((y :: ys).map tupV)) ∧ Lens m (y :: ys) ∧ ys.length + 1 < 1000000 - 1 ∧ IsHeap (y :: ys) ∧
    ((∀ z ∈ ys, lle y z) → ∀ zs, zs.Perm ys → IsHeap zs → P (tupV y) (hp.set l (.list (zs.map tupV))))
theorem pop_ok {X : Cx} {m : Nat} (args : List V) (hp : Hp) (P : V → Hp → Prop) (h : popW m args hp P) : posW 1 (w_heappop X (upW m)) args hp P := by
  obtain ⟨l, y, ys, rfl, hl, L, hn, hh, k⟩ := h
  have least : ∀ z ∈ ys, lle y z := by
    intro z hz
    obtain ⟨i, hi, rfl⟩ := List.getElem_of_mem hz
    have := hh.least L (i + 1) (by simp; omega)
    simpa [nth, hi] using this
  replace k := k least
  refine ⟨rfl, ?_⟩
  unfold w_heappop
  dsimp only [sCons, sAssign, wPop, wLoc, sIf, bVal]
  rcases List.eq_nil_or_concat ys with rfl | ⟨ys', last, rfl⟩
  · refine ⟨_, rfl, l, [], tupV y, rfl, by simpa using hl, by simp, _, rfl, _, .list (Hp.set_self _ _ _) (by simp), ?_⟩
    have := k [] (.refl _) (by intro i _ h; simp at h)
    exact ⟨_, rfl, by simpa [finW, St.setH, St.setL] using this⟩
  · rw [List.concat_eq_append] at *
    refine ⟨_, rfl, l, (y :: ys').map tupV, tupV last, rfl, by simpa using hl, by simp at hn ⊢; omega, _, rfl, _, .list (Hp.set_self _ _ _) (by simp at hn ⊢; omega), ?_⟩
    simp only [List.map_cons, List.isEmpty_cons, Bool.not_false, if_true]
    refine ⟨_, rfl, tupV y, .list (Hp.set_self _ _ _) (by omega) (by omega) (by simp), ?_⟩
    refine ⟨_, rfl, _, rfl, _, _, .list (Hp.set_self _ _ _) (by omega) (by simp) (by simp at hn ⊢; omega), ?_⟩
    rintro _ rfl
    refine ⟨_, rfl, l, last :: ys', rfl, ?_, ?_, by simp, by simp at hn ⊢; omega, ⟨?_, ?_⟩, ?_⟩
    · simp [St.setH, St.setL, Hp.set_self]
    · intro z hz
      simp at hz
      rcases hz with rfl | hz
      · exact L _ (by simp)
      · exact L _ (by simp [hz])
    · intro i h0 h1 h2 h3
      have q := hh i h0 (by simp at h1 ⊢; omega)
      have e : ∀ j, 0 < j → j < (last :: ys').length → nth (y :: (ys' ++ [last])) j = nth (last :: ys') j := by
        intro j j0 j1
        obtain ⟨j, rfl⟩ : ∃ i, j = i + 1 := ⟨j - 1, by omega⟩
        simp at j1
        simp [nth, List.getElem?_append_left j1]
      have : par i ≤ i := by unfold par; omega
      rwa [e i h0 h1, e (par i) (by omega) (by omega)] at q
    · intro h; omega
    · intro zs h1 h2
      have := k zs (h1.trans (List.perm_append_singleton last ys').symm) h2
      refine ⟨_, rfl, ?_⟩
      simpa [finW, St.setH, St.setL, Hp.set_set] using this
end Mine
end

noncomputable section
namespace Mine
structure Good (nd : Nat → List Nat) (L : List Nat) : Prop where
  nodup : L.Nodup
  lt : ∀ n ∈ L, n < 9
  pre : ∀ A n B, L = A ++ n :: B → ∀ m ∈ nd n, m ∈ A
theorem Good.nil {nd : Nat → List Nat} : Good nd [] := ⟨.nil, by simp, by intro A n B h; simp at h⟩
theorem Good.snoc {nd : Nat → List Nat} {L : List Nat} {n : Nat} (G : Good nd L) (h9 : n < 9) (hn : n ∉ L) (h : ∀ m ∈ nd n, m ∈ L) : Good nd (L ++ [n]) := by
  refine ⟨?_, ?_, ?_⟩
  · rw [List.nodup_append]
    refine ⟨G.nodup, by simp, ?_⟩
    intro a ha b hb e
    simp at hb; subst hb; subst e; exact hn ha
  · intro k hk
    simp at hk
    rcases hk with hk | rfl
    · exact G.lt k hk
    · exact h9
  · intro A k B e
    rcases List.eq_nil_or_concat B with rfl | ⟨B', x, rfl⟩
    · have := List.append_inj' e (by simp)
      obtain ⟨e1, e2⟩ := this
      simp at e2; subst e1; subst e2; exact h
    · rw [List.concat_eq_append, ← List.cons_append, ← List.append_assoc] at e
      have := List.append_inj' e (by simp)
      exact G.pre A k B' this.1
theorem nodup_len : ∀ (N : Nat) (L : List Nat), L.Nodup → (∀ n ∈ L, n < N) → L.length ≤ N
  | 0, L, _, h => by
    cases L with
    | nil => simp
    | cons a l => have := h a (by simp); omega
  | N + 1, L, hd, h => by
    by_cases hN : N ∈ L
    · have hp := List.perm_cons_erase hN
      have h1 := hp.length_eq
      have hd' : (N :: L.erase N).Nodup := hp.nodup hd
      have := nodup_len N (L.erase N) (List.nodup_cons.mp hd').2 (by
        intro n hn
        have q := h n (hp.mem_iff.mpr (List.mem_cons_of_mem _ hn))
        have : n ≠ N := by rintro rfl; exact (List.nodup_cons.mp hd').1 hn
        omega)
      simp at h1; omega
    · have := nodup_len N L hd (by
        intro n hn
        have q := h n hn
        have : n ≠ N := by rintro rfl; exact hN hn
        omega)
      omega
end Mine
end

noncomputable section
namespace Mine
end Mine
end

noncomputable section
open PySem PySem.W PyProof.Rows
set_option maxHeartbeats 2000000
namespace Mine
noncomputable def Ext (hp hp' : Hp) : Prop := ∀ b o, hp b = some o → hp' b = some o
theorem Ext.refl (hp : Hp) : Ext hp hp := fun _ _ h => h
theorem Ext.trans {a b c : Hp} (h : Ext a b) (k : Ext b c) : Ext a c := fun x o q => k x o (h x o q)
theorem Ext.new {hp hp' : Hp} {c : Addr} {o : O} (h : Ext hp hp') (hc : hp' c = none) : Ext hp (hp'.set c o) := by
  intro b o' q
  have := h b o' q
  rw [Hp.set_ne _ _ (by rintro rfl; rw [hc] at this; cases this)]; exact this
theorem Ext.free {hp hp' : Hp} (h : Ext hp hp') {b : Addr} (q : hp' b = none) : hp b = none := by
  cases e : hp b with
  | none => rfl
  | some o => have := h b o e; rw [q] at this; cases this
theorem Ext.upd {hp hp' : Hp} {c : Addr} {o : O} (h : Ext hp hp') (hc : hp c = none) : Ext hp (hp'.set c o) := by
  intro b o' q
  rw [Hp.set_ne _ _ (by rintro rfl; rw [hc] at q; cases q)]; exact h b o' q

theorem cb_run {src : Src} {mp : List (Option Nat)} {o0 : O} {Wt : WT} {Wc : WB} {Wa : WAdd} {P : V → St → Prop} {st1 : St} (xs : List V) (Inv : Nat → O → St → Prop)
    (hadv : ∀ i hp, src.adv i hp = hp) (hfin : ∀ i hp, src.fin i hp = hp)
    (hnx : ∀ i acc st, Inv i acc st → src.nx i st.hp xs[i]?)
    (h0 : Inv 0 o0 ⟨loC mp st1.lo, st1.hp⟩)
    (hb : ∀ i v acc st, Inv i acc st → xs[i]? = some v → Wt v st fun st3 => Wc st3 fun ok st4 => if ok then Wa acc st4 fun acc' st5 => Inv (i + 1) acc' st5 else Inv (i + 1) acc st4)
    (hend : ∀ acc st, Inv xs.length acc st → ∀ D, st.hp D = none → P (.ref D) ⟨st1.lo, st.hp.set D acc⟩) :
    ∃ (N : Nat) (I : Nat → O → St → Prop), I 0 o0 ⟨loC mp st1.lo, st1.hp⟩ ∧ ∀ i acc st2, I i acc st2 →
      (∃ v, src.nx i st2.hp (some v) ∧ i < N ∧ Wt v ⟨st2.lo, src.adv i st2.hp⟩ fun st3 => Wc st3 fun ok st4 => if ok then Wa acc st4 fun acc' st5 => I (i + 1) acc' st5 else I (i + 1) acc st4) ∨
      (src.nx i st2.hp none ∧ ∀ D, src.fin i st2.hp D = none → P (.ref D) ⟨st1.lo, (src.fin i st2.hp).set D acc⟩) := by
  refine ⟨xs.length, fun i acc st => if i ≤ xs.length then Inv i acc st else False, by simp only [Nat.zero_le, if_true]; exact h0, ?_⟩
  intro i acc st hI
  by_cases hi : i ≤ xs.length
  · simp only [hi, if_true] at hI
    have hn := hnx i acc st hI
    by_cases hl : i < xs.length
    · left
      have e : xs[i]? = some xs[i] := by simp [hl]
      rw [e] at hn
      refine ⟨xs[i], hn, hl, ?_⟩
      simp only [hadv, (by omega : i + 1 ≤ xs.length), if_true]
      exact hb i _ acc st hI e
    · right
      have : i = xs.length := by omega
      subst this
      rw [hfin]
      exact ⟨by simpa using hn, hend acc st hI⟩
  · simp only [hi, if_false] at hI
theorem for_run {src : Src} {Wt : WT} {Wb : WS} {P : Fl → St → Prop} {st1 : St} (xs : List V) (Inv : Nat → St → Prop)
    (hadv : ∀ i hp, src.adv i hp = hp) (hfin : ∀ i hp, src.fin i hp = hp)
    (hnx : ∀ i st, Inv i st → src.nx i st.hp xs[i]?)
    (h0 : Inv 0 st1)
    (hb : ∀ i v st, Inv i st → xs[i]? = some v → Wt v st fun st3 => Wb st3 fun f st4 => match f with
        | .next | .cont => Inv (i + 1) st4
        | .brk => P .next st4
        | .ret v => P (.ret v) st4)
    (hend : ∀ st, Inv xs.length st → P .next st) :
    ∃ (N : Nat) (I : Nat → St → Prop), I 0 st1 ∧ ∀ i st2, I i st2 →
      (∃ v, src.nx i st2.hp (some v) ∧ i < N ∧ Wt v ⟨st2.lo, src.adv i st2.hp⟩ fun st3 => Wb st3 fun f st4 => match f with
        | .next | .cont => I (i + 1) st4
        | .brk => P .next st4
        | .ret v => P (.ret v) st4) ∨ (src.nx i st2.hp none ∧ P .next ⟨st2.lo, src.fin i st2.hp⟩) := by
  refine ⟨xs.length, fun i st => if i ≤ xs.length then Inv i st else False, by simp only [Nat.zero_le, if_true]; exact h0, ?_⟩
  intro i st hI
  by_cases hi : i ≤ xs.length
  · simp only [hi, if_true] at hI
    have hn := hnx i st hI
    by_cases hl : i < xs.length
    · left
      have e : xs[i]? = some xs[i] := by simp [hl]
      rw [e] at hn
      refine ⟨xs[i], hn, hl, ?_⟩
      simp only [hadv, (by omega : i + 1 ≤ xs.length), if_true]
      exact hb i _ st hI e
    · right
      have : i = xs.length := by omega
      subst this
      rw [hfin]
      exact ⟨by simpa using hn, hend st hI⟩
  · simp only [hi, if_false] at hI
theorem comp_run {mp : List (Option Nat)} {o0 : O} {Wi : WI} {Wt : WT} {Wc : WB} {Wa : WAdd} {st : St} {P : V → St → Prop} (src : Src) (st1 : St) (xs : List V) (Inv : Nat → O → St → Prop) (hw : ∀ K : Src → St → Prop, K src st1 → Wi st K)
    (hadv : ∀ i hp, src.adv i hp = hp) (hfin : ∀ i hp, src.fin i hp = hp)
    (hnx : ∀ i acc st, Inv i acc st → src.nx i st.hp xs[i]?)
    (h0 : Inv 0 o0 ⟨loC mp st1.lo, st1.hp⟩)
    (hb : ∀ i v acc st, Inv i acc st → xs[i]? = some v → Wt v st fun st3 => Wc st3 fun ok st4 => if ok then Wa acc st4 fun acc' st5 => Inv (i + 1) acc' st5 else Inv (i + 1) acc st4)
    (hend : ∀ acc st, Inv xs.length acc st → ∀ D, st.hp D = none → P (.ref D) ⟨st1.lo, st.hp.set D acc⟩) : compW mp o0 Wi Wt Wc Wa st P :=
  hw _ (cb_run xs Inv hadv hfin hnx h0 hb hend)
theorem sFor_run {Wi : WI} {Wt : WT} {Wb : WS} {st : St} {P : Fl → St → Prop} (src : Src) (st1 : St) (xs : List V) (Inv : Nat → St → Prop) (hw : ∀ K : Src → St → Prop, K src st1 → Wi st K)
    (hadv : ∀ i hp, src.adv i hp = hp) (hfin : ∀ i hp, src.fin i hp = hp)
    (hnx : ∀ i st, Inv i st → src.nx i st.hp xs[i]?)
    (h0 : Inv 0 st1)
    (hb : ∀ i v st, Inv i st → xs[i]? = some v → Wt v st fun st3 => Wb st3 fun f st4 => match f with
        | .next | .cont => Inv (i + 1) st4
        | .brk => P .next st4
        | .ret v => P (.ret v) st4)
    (hend : ∀ st, Inv xs.length st → P .next st) : sFor Wi Wt Wb st P :=
  hw _ (for_run xs Inv hadv hfin hnx h0 hb hend)
theorem sFor_gen {Wi : WI} {Wt : WT} {Wb : WS} {st : St} {P : Fl → St → Prop} (h : ∀ PP, PP = P → sFor Wi Wt Wb st PP) : sFor Wi Wt Wb st P := h P rfl
theorem comp_gen {mp : List (Option Nat)} {o0 : O} {Wi : WI} {Wt : WT} {Wc : WB} {Wa : WAdd} {st : St} {P : V → St → Prop} (h : ∀ PP, PP = P → compW mp o0 Wi Wt Wc Wa st PP) : compW mp o0 Wi Wt Wc Wa st P := h P rfl
theorem body_gen {Wt : WT} {Wb : WS} {v : V} {st : St} {R : Fl → St → Prop} (h : ∀ Q, Q = R → Wt v st fun st3 => Wb st3 Q) : Wt v st fun st3 => Wb st3 R := h R rfl
noncomputable def rangeV (n : Nat) : List V := (List.range n).map fun (i : Nat) => .int i
theorem rangeV_get (n i : Nat) : (rangeV n)[i]? = if (i : Int) < (n : Int) then some (.int i) else none := by
  unfold rangeV
  by_cases h : i < n
  · simp [h]
  · simp [h]
noncomputable def enumV (xs : List V) : List V := xs.mapIdx fun i x => .tup [.int (i : Nat), x]
theorem enumV_get (xs : List V) (i : Nat) : (enumV xs)[i]? = (xs[i]?).map fun x => .tup [.int (i : Nat), x] := by
  simp [enumV]

end Mine
end

noncomputable section
open PySem PySem.W PyProof.Rows
set_option maxHeartbeats 2000000
namespace Mine
end Mine
end

noncomputable section
open PySem PySem.W PyProof.Rows
set_option maxHeartbeats 2000000
namespace Mine
end Mine
end

noncomputable section
open PySem PySem.W PyProof.Rows
set_option maxHeartbeats 2000000
namespace Mine
noncomputable def intN (l : List Nat) : List V := l.map fun (m : Nat) => .int m
end Mine
end

noncomputable section
open PySem PySem.W PyProof.Rows
set_option maxHeartbeats 2000000
namespace Mine
theorem comp_fm {mp : List (Option Nat)} {Wi : WI} {Wt : WT} {Wc : WB} {We : WE} {st : St} {P : V → St → Prop} (src : Src) (st1 : St) (xs : List V) (c : V → Bool) (g : V → V) (Lo : (Nat → Option V) → Prop) (hw : ∀ K : Src → St → Prop, K src st1 → Wi st K)
    (hadv : ∀ i hp, src.adv i hp = hp) (hfin : ∀ i hp, src.fin i hp = hp)
    (hnx : ∀ i hp', Ext st1.hp hp' → src.nx i hp' xs[i]?) (hlen : xs.length < 1000000)
    (h0 : Lo (loC mp st1.lo))
    (he : ∀ v st, v ∈ xs → Ext st1.hp st.hp → Lo st.lo → ∀ (acc : List V) (Q1 : O → St → Prop) (Q0 : St → Prop), acc.length < 1000000 → (c v = true → ∀ lo' hp', Lo lo' → Ext st1.hp hp' → Q1 (.list (acc ++ [g v])) ⟨lo', hp'⟩) →
      (c v = false → ∀ lo' hp', Lo lo' → Ext st1.hp hp' → Q0 ⟨lo', hp'⟩) → Wt v st fun st3 => Wc st3 fun ok st4 => if ok then addL We (.list acc) st4 Q1 else Q0 st4)
    (hend : ∀ hp' D, Ext st1.hp hp' → hp' D = none → P (.ref D) ⟨st1.lo, hp'.set D (.list ((xs.filter c).map g))⟩) : compW mp (.list []) Wi Wt Wc (addL We) st P := by
  refine comp_run src st1 xs (fun i acc st => acc = .list (((xs.take i).filter c).map g) ∧ Lo st.lo ∧ Ext st1.hp st.hp) hw hadv hfin ?_ ?_ ?_ ?_
  · rintro i acc st ⟨_, _, ex⟩; exact hnx i _ ex
  · exact ⟨rfl, h0, .refl _⟩
  · rintro i v acc st ⟨rfl, l, ex⟩ hv
    have hi := List.getElem?_eq_some_iff.mp hv
    obtain ⟨hi, rfl⟩ := hi
    have ht : xs.take (i + 1) = xs.take i ++ [xs[i]] := by simp
    refine he xs[i] st (List.getElem_mem hi) ex l _ _ _ ?_ ?_ ?_
    · rw [List.length_map]
      exact Nat.lt_of_le_of_lt (List.length_filter_le _ _) (by simp; omega)
    · intro hc lo' hp' l' ex'
      refine ⟨?_, l', ex'⟩
      rw [ht, List.filter_append, List.map_append, List.filter_cons_of_pos hc]; rfl
    · intro hc lo' hp' l' ex'
      refine ⟨?_, l', ex'⟩
      rw [ht, List.filter_append, List.map_append, List.filter_cons_of_neg (by simp [hc])]; simp
  · rintro acc st ⟨rfl, l, ex⟩ D hD
    have : xs.take xs.length = xs := by simp
    rw [this]
    exact hend st.hp D ex hD
theorem filter_true (xs : List V) : xs.filter (fun _ => true) = xs := by simp
theorem comp_map {mp : List (Option Nat)} {Wi : WI} {We : WE} {st : St} {P : V → St → Prop} (src : Src) (st1 : St) (xs : List V) (g : V → V) (Lo : (Nat → Option V) → Prop) (hw : ∀ K : Src → St → Prop, K src st1 → Wi st K)
    (hadv : ∀ i hp, src.adv i hp = hp) (hfin : ∀ i hp, src.fin i hp = hp)
    (hnx : ∀ i hp', Ext st1.hp hp' → src.nx i hp' xs[i]?) (hlen : xs.length < 1000000)
    (h0 : Lo (loC mp st1.lo)) (hLo : ∀ lo v, Lo lo → Lo (setLo lo 0 v))
    (he : ∀ v lo hp', v ∈ xs → Ext st1.hp hp' → Lo lo → lo 0 = some v → ∀ (Q : V → St → Prop), (∀ hp'', Ext st1.hp hp'' → Q (g v) ⟨lo, hp''⟩) → We ⟨lo, hp'⟩ Q)
    (hend : ∀ hp' D, Ext st1.hp hp' → hp' D = none → P (.ref D) ⟨st1.lo, hp'.set D (.list (xs.map g))⟩) : compW mp (.list []) Wi (tName 0) bTrue (addL We) st P := by
  refine comp_fm src st1 xs (fun _ => true) g Lo hw hadv hfin hnx hlen h0 ?_ ?_
  · intro v st hv ex l acc Q1 Q0 ha h1 h2
    refine ⟨acc, rfl, ha, ?_⟩
    exact he v (setLo st.lo 0 v) st.hp hv ex (hLo _ _ l) (by simp [setLo]) _ fun hp'' ex'' => h1 rfl _ _ (hLo _ _ l) ex''
  · rw [filter_true]; exact hend
end Mine
end

noncomputable section
open PySem PySem.W PyProof.Rows
set_option maxHeartbeats 2000000
namespace Mine
noncomputable def natOf : V → Nat
  | .int i => i.toNat
  | _ => 0
theorem mem_rangeV {n : Nat} {v : V} (h : v ∈ rangeV n) : ∃ k : Nat, k < n ∧ v = .int k := by
  simp only [rangeV, List.mem_map, List.mem_range] at h
  obtain ⟨k, hk, rfl⟩ := h; exact ⟨k, hk, rfl⟩
end Mine
end

noncomputable section
namespace Mine
variable {bs : List Box} {D : Nat → Int} {sd en : Nat → Nat} {L : List Nat} {now : Int}
end Mine
end

noncomputable section
open PySem PySem.W PyProof.Rows
set_option maxHeartbeats 2000000
namespace Mine
noncomputable def itemV (i : Nat) : V → V
  | .tup xs => xs.getD i .none
  | _ => .none
end Mine
end

noncomputable section
open PySem PySem.W PyProof.Rows
set_option maxHeartbeats 2000000
namespace Mine
end Mine
end

noncomputable section
open PySem PySem.W PyProof.Rows
set_option maxHeartbeats 2000000
namespace Mine
end Mine
end

noncomputable section
open PySem PySem.W PyProof.Rows
set_option maxHeartbeats 2000000
namespace Mine
end Mine
end

noncomputable section
open PySem PySem.W PyProof.Rows
set_option maxHeartbeats 2000000
namespace Mine
end Mine
end

noncomputable section
open PySem PySem.W PyProof.Rows
set_option maxHeartbeats 2000000
namespace Mine
theorem fresh_set {hp : Hp} {c a : Addr} {o : O} (h : (hp.set c o) a = none) : a ≠ c ∧ hp a = none := by
  have : a ≠ c := by rintro rfl; rw [Hp.set_self] at h; cases h
  exact ⟨this, by rwa [Hp.set_ne _ _ this] at h⟩
end Mine
end

noncomputable section
open PySem PySem.W PyProof.Rows
set_option maxHeartbeats 2000000
namespace Mine
theorem Hp.comm (hp : Hp) {a b : Addr} (o o' : O) (h : a ≠ b) : (hp.set a o).set b o' = (hp.set b o').set a o := by
  funext x; unfold Hp.set
  by_cases h1 : x = b
  · have : ¬ x = a := fun e => h (e.symm.trans h1)
    simp [h1, Ne.symm h]
  · simp [h1]
theorem ne_of {hp : Hp} {a b : Addr} {x y : O} (h1 : hp a = some x) (h2 : hp b = some y) (h : x ≠ y) : a ≠ b := by
  rintro rfl; rw [h1] at h2; exact h (Option.some.inj h2)
noncomputable def infO (dx : Addr) (n : Nat) (p : Int) (s : Addr) : O := .inst 40 dx [some (.int (n : Nat)), some (.int p), some (.ref s)]
noncomputable def four (d : Addr) (rd : V) (po fi : Int) : List (Str × V) := [("_node2info", .ref d), ("_ready_nodes", rd), ("_npassedout", .int po), ("_nfinished", .int fi)]
noncomputable def niW : WF := fun args hp P => ∃ (a dx : Addr) (n : Nat), args = [.ref a, .int (n : Nat)] ∧ hp a = some (.inst 40 dx []) ∧ hp dx = some (.adict []) ∧ ∀ c, hp c = none → P .none ((hp.set c (.list [])).set a (infO dx n 0 c))
theorem ni_ok {X : Cx} (args : List V) (hp : Hp) (P : V → Hp → Prop) (h : niW args hp P) : posW 2 (w_ni_init X) args hp P := by
  obtain ⟨a, dx, n, rfl, ha, hdx, k⟩ := h
  refine ⟨rfl, ?_⟩
  have had : dx ≠ a := ne_of hdx ha (by simp)
  unfold w_ni_init
  dsimp only [sCons, sAssign1, wLoc, tAttr, setSlotW, wInt, wList, aNil]
  refine ⟨_, rfl, _, rfl, a, dx, _, _, rfl, ⟨ha, hdx⟩, ?_⟩
  refine ⟨_, rfl, a, dx, _, _, rfl, ⟨Hp.set_self _ _ _, (Hp.set_ne _ _ had).trans hdx⟩, ?_⟩
  refine ⟨by simp, ?_⟩
  intro c hc
  obtain ⟨n1, hc⟩ := fresh_set hc
  obtain ⟨n2, hc⟩ := fresh_set hc
  have hcd : dx ≠ c := by rintro rfl; change hp dx = none at hc; rw [hdx] at hc; cases hc
  refine ⟨_, rfl, a, dx, _, _, rfl, ⟨(Hp.set_ne _ _ n1.symm).trans (Hp.set_self _ _ _), (Hp.set_ne _ _ hcd).trans ((Hp.set_ne _ _ had).trans ((Hp.set_ne _ _ had).trans hdx))⟩, ?_⟩
  have := k c hc
  have e : ((((hp.set a (.inst 40 dx (sset [] 0 (.int (n : Nat))))).set a (.inst 40 dx (sset (sset [] 0 (.int (n : Nat))) 1 (.int 0)))).set c (.list [])).set a (.inst 40 dx (sset (sset (sset [] 0 (.int (n : Nat))) 1 (.int 0)) 2 (.ref c)))) = (hp.set c (.list [])).set a (infO dx n 0 c) := by
    rw [Hp.set_set, Hp.comm _ _ _ n1.symm, Hp.set_set]; rfl
  show P .none _
  rw [← e] at this
  exact this
end Mine
end

noncomputable section
open PySem PySem.W PyProof.Rows
set_option maxHeartbeats 2000000
namespace Mine
set_option genInjectivity false in
set_option genSizeOf false in
structure TR where
  sf : Addr
  dx : Addr
  d : Addr
  ns : List Nat
  ia : Nat → Addr
  sa : Nat → Addr
  da : Nat → Addr
  np : Nat → Int
  sc : Nat → List Nat
  rd : Option Addr
  rl : List Nat
  po : Int
  fi : Int
noncomputable def rdV : Option Addr → V
  | some a => .ref a
  | none => .none
noncomputable def n2i (ns : List Nat) (ia : Nat → Addr) : List (Int × V) := ns.map fun (n : Nat) => ((n : Int), .ref (ia n))
structure TS (T : TR) (hp : Hp) : Prop where
  me : hp T.sf = some (.inst 137 T.dx [])
  dict : hp T.dx = some (.adict (four T.d (rdV T.rd) T.po T.fi))
  keys : ∃ ep, hp T.d = some (.dict (n2i T.ns T.ia) ep)
  info : ∀ n ∈ T.ns, hp (T.ia n) = some (infO (T.da n) n (T.np n) (T.sa n))
  idict : ∀ n ∈ T.ns, hp (T.da n) = some (.adict [])
  succ : ∀ n ∈ T.ns, hp (T.sa n) = some (.list (intN (T.sc n)))
  injs : ∀ m n, m ∈ T.ns → n ∈ T.ns → T.sa m = T.sa n → m = n
  nodup : T.ns.Nodup
  lt : ∀ n ∈ T.ns, n < 9
  ready : ∀ r, T.rd = some r → hp r = some (.list (intN T.rl)) ∧ ∀ n ∈ T.ns, T.sa n ≠ r
noncomputable def TR.Own (T : TR) (b : Addr) : Prop := b = T.sf ∨ b = T.dx ∨ b = T.d ∨ (∃ n ∈ T.ns, b = T.ia n ∨ b = T.da n ∨ b = T.sa n) ∨ T.rd = some b
theorem TS.live {T : TR} {hp : Hp} (S : TS T hp) {b : Addr} (h : T.Own b) : ∃ o, hp b = some o := by
  rcases h with rfl | rfl | rfl | ⟨n, hn, rfl | rfl | rfl⟩ | h
  · exact ⟨_, S.me⟩
  · exact ⟨_, S.dict⟩
  · obtain ⟨ep, h⟩ := S.keys; exact ⟨_, h⟩
  · exact ⟨_, S.info n hn⟩
  · exact ⟨_, S.idict n hn⟩
  · exact ⟨_, S.succ n hn⟩
  · exact ⟨_, (S.ready b h).1⟩
theorem TS.free {T : TR} {hp : Hp} (S : TS T hp) {b : Addr} (h : hp b = none) : ¬ T.Own b := by
  intro q
  obtain ⟨o, e⟩ := S.live q
  rw [h] at e; cases e
theorem TS.inj {T : TR} {hp : Hp} (S : TS T hp) {m n : Nat} (hm : m ∈ T.ns) (hn : n ∈ T.ns) (e : T.ia m = T.ia n) : m = n := by
  have h1 := S.info m hm
  have h2 := S.info n hn
  rw [e, h2] at h1
  have := Option.some.inj h1
  simp [infO] at this
  omega
theorem n2i_lookup {ia : Nat → Addr} : ∀ {ns : List Nat} {n : Nat}, (n2i ns ia).lookup (n : Int) = if n ∈ ns then some (.ref (ia n)) else none
  | [], n => by simp [n2i]
  | m :: ns, n => by
    have ih := n2i_lookup (ia := ia) (ns := ns) (n := n)
    show List.lookup _ (((m : Int), V.ref (ia m)) :: n2i ns ia) = _
    rw [List.lookup_cons, ih]
    by_cases e : n = m
    · subst e; simp
    · have e2 : ((n : Int) == (m : Int)) = false := by simp; omega
      rw [e2]; simp [e]
theorem n2i_len (ns : List Nat) (ia : Nat → Addr) : (n2i ns ia).length = ns.length := by simp [n2i]
theorem TS.inst {T : TR} {hp : Hp} (S : TS T hp) : Inst hp T.sf 137 T.dx [] (four T.d (rdV T.rd) T.po T.fi) := ⟨S.me, S.dict⟩
theorem TS.iinst {T : TR} {hp : Hp} (S : TS T hp) {n : Nat} (h : n ∈ T.ns) : Inst hp (T.ia n) 40 (T.da n) [some (.int (n : Nat)), some (.int (T.np n)), some (.ref (T.sa n))] [] := ⟨S.info n h, S.idict n h⟩
theorem TS.len {T : TR} {hp : Hp} (S : TS T hp) : T.ns.length ≤ 9 := nodup_len 9 _ S.nodup S.lt
structure Frm (T : TR) (hp : Hp) (T' : TR) (hp' : Hp) : Prop where
  keep : ∀ b o, hp b = some o → ¬ T.Own b → hp' b = some o
  own : ∀ b, T'.Own b → T.Own b ∨ hp b = none
theorem Frm.refl (T : TR) (hp : Hp) : Frm T hp T hp := ⟨fun _ _ h _ => h, fun _ h => .inl h⟩
theorem Frm.off {T T' : TR} {hp hp' : Hp} (f : Frm T hp T' hp') {b : Addr} {o : O} (h : hp b = some o) (n : ¬ T.Own b) : ¬ T'.Own b := by
  intro q
  rcases f.own b q with q | q
  · exact n q
  · rw [h] at q; cases q
theorem Frm.trans {T T' T'' : TR} {hp hp' hp'' : Hp} (f : Frm T hp T' hp') (g : Frm T' hp' T'' hp'') : Frm T hp T'' hp'' := by
  refine ⟨fun b o h n => g.keep b o (f.keep b o h n) (f.off h n), fun b h => ?_⟩
  rcases g.own b h with q | q
  · exact f.own b q
  · by_cases c : T.Own b
    · exact .inl c
    · right
      cases e : hp b with
      | none => rfl
      | some o => have := f.keep b o e c; rw [q] at this; cases this
theorem set_keep {hp : Hp} {x y : Addr} {o1 o2 o : O} (h1 : hp x = some o1) (h2 : hp y = some o2) (h : o1 ≠ o2) : (hp.set y o) x = some o1 :=
  (Hp.set_ne _ _ (ne_of h1 h2 h)).trans h1
theorem set_keep' {hp : Hp} {x y : Addr} {o1 o : O} (h1 : hp x = some o1) (h : x ≠ y) : (hp.set y o) x = some o1 := (Hp.set_ne _ _ h).trans h1
theorem set_keepN {hp : Hp} {x y : Addr} {o1 o : O} (h1 : hp x = some o1) (h : hp y = none) : (hp.set y o) x = some o1 := (Hp.set_ne _ _ (by rintro rfl; rw [h] at h1; cases h1)).trans h1
noncomputable def fup {α : Type} (f : Nat → α) (n : Nat) (v : α) : Nat → α := fun x => if x = n then v else f x
theorem fup_self {α : Type} (f : Nat → α) (n : Nat) (v : α) : fup f n v n = v := by simp [fup]
theorem fup_ne {α : Type} (f : Nat → α) {n m : Nat} (v : α) (h : m ≠ n) : fup f n v m = f m := by simp [fup, h]
theorem TS.frame {T : TR} {hp hp' : Hp} (S : TS T hp) (h : ∀ b o, T.Own b → hp b = some o → hp' b = some o) : TS T hp' := by
  obtain ⟨ep, hk⟩ := S.keys
  refine ⟨h _ _ (by simp [TR.Own]) S.me, h _ _ (by simp [TR.Own]) S.dict, ⟨ep, h _ _ (by simp [TR.Own]) hk⟩, fun n hn => h _ _ (.inr (.inr (.inr (.inl ⟨n, hn, .inl rfl⟩)))) (S.info n hn), fun n hn => h _ _ (.inr (.inr (.inr (.inl ⟨n, hn, .inr (.inl rfl)⟩)))) (S.idict n hn), fun n hn => h _ _ (.inr (.inr (.inr (.inl ⟨n, hn, .inr (.inr rfl)⟩)))) (S.succ n hn), S.injs, S.nodup, S.lt, fun r hr => ⟨h _ _ (.inr (.inr (.inr (.inr hr)))) (S.ready r hr).1, (S.ready r hr).2⟩⟩
theorem TS.out {T : TR} {hp : Hp} (S : TS T hp) {c : Addr} {o : O} (h : ¬ T.Own c) : TS T (hp.set c o) :=
  S.frame fun b o' hb e => set_keep' e (by rintro rfl; exact h hb)
theorem TS.ext {T : TR} {hp hp' : Hp} (S : TS T hp) (x : Ext hp hp') : TS T hp' := S.frame fun b o _ e => x b o e
theorem frm_set {T T' : TR} {hp : Hp} {b : Addr} {o : O} (hb : T.Own b) (h : ∀ c, T'.Own c → T.Own c) : Frm T hp T' (hp.set b o) :=
  ⟨fun c o' e n => set_keep' e (by rintro rfl; exact n hb), fun c q => .inl (h c q)⟩
noncomputable def TR.setNp (T : TR) (n : Nat) (v : Int) : TR := { T with np := fup T.np n v }
noncomputable def TR.setSc (T : TR) (n : Nat) (l : List Nat) : TR := { T with sc := fup T.sc n l }
noncomputable def TR.setRl (T : TR) (l : List Nat) : TR := { T with rl := l }
theorem TS.setNp {T : TR} {hp : Hp} (S : TS T hp) {n : Nat} (hn : n ∈ T.ns) (v : Int) : TS (T.setNp n v) (hp.set (T.ia n) (infO (T.da n) n v (T.sa n))) := by
  obtain ⟨ep, hk⟩ := S.keys
  have hi := S.info n hn
  refine ⟨set_keep S.me hi (by simp [infO]), set_keep S.dict hi (by simp [infO]), ⟨ep, set_keep hk hi (by simp [infO])⟩, ?_, fun m hm => set_keep (S.idict m hm) hi (by simp [infO]), fun m hm => set_keep (S.succ m hm) hi (by simp [infO]), S.injs, S.nodup, S.lt, fun r hr => ⟨set_keep (S.ready r hr).1 hi (by simp [infO]), (S.ready r hr).2⟩⟩
  intro m hm
  by_cases e : m = n
  · subst e
    show (hp.set (T.ia m) _) (T.ia m) = some (infO (T.da m) m (fup T.np m v m) (T.sa m))
    rw [fup_self]; exact Hp.set_self _ _ _
  · show (hp.set (T.ia n) _) (T.ia m) = some (infO (T.da m) m (fup T.np n v m) (T.sa m))
    rw [fup_ne _ _ e]
    exact set_keep' (S.info m hm) (fun q => e (S.inj hm hn q))
theorem frm_setNp {T : TR} {hp : Hp} {n : Nat} (hn : n ∈ T.ns) (v : Int) (o : O) : Frm T hp (T.setNp n v) (hp.set (T.ia n) o) :=
  frm_set (.inr (.inr (.inr (.inl ⟨n, hn, .inl rfl⟩)))) (fun c h => h)
theorem TS.setSc {T : TR} {hp : Hp} (S : TS T hp) {n : Nat} (hn : n ∈ T.ns) (l : List Nat) : TS (T.setSc n l) (hp.set (T.sa n) (.list (intN l))) := by
  obtain ⟨ep, hk⟩ := S.keys
  have hi := S.succ n hn
  refine ⟨set_keep S.me hi (by simp), set_keep S.dict hi (by simp), ⟨ep, set_keep hk hi (by simp)⟩, fun m hm => set_keep (S.info m hm) hi (by simp [infO]), fun m hm => set_keep (S.idict m hm) hi (by simp), ?_, S.injs, S.nodup, S.lt, fun r hr => ⟨set_keep' (S.ready r hr).1 (Ne.symm ((S.ready r hr).2 n hn)), (S.ready r hr).2⟩⟩
  intro m hm
  by_cases e : m = n
  · subst e
    show (hp.set (T.sa m) _) (T.sa m) = some (.list (intN (fup T.sc m l m)))
    rw [fup_self]; exact Hp.set_self _ _ _
  · show (hp.set (T.sa n) _) (T.sa m) = some (.list (intN (fup T.sc n l m)))
    rw [fup_ne _ _ e]
    exact set_keep' (S.succ m hm) (fun q => e (S.injs m n hm hn q))
theorem frm_setSc {T : TR} {hp : Hp} {n : Nat} (hn : n ∈ T.ns) (l : List Nat) (o : O) : Frm T hp (T.setSc n l) (hp.set (T.sa n) o) :=
  frm_set (.inr (.inr (.inr (.inl ⟨n, hn, .inr (.inr rfl)⟩)))) (fun c h => h)
theorem TS.setRl {T : TR} {hp : Hp} (S : TS T hp) {r : Addr} (hr : T.rd = some r) (l : List Nat) : TS (T.setRl l) (hp.set r (.list (intN l))) := by
  obtain ⟨ep, hk⟩ := S.keys
  have hi := (S.ready r hr).1
  refine ⟨set_keep S.me hi (by simp), set_keep S.dict hi (by simp), ⟨ep, set_keep hk hi (by simp)⟩, fun m hm => set_keep (S.info m hm) hi (by simp [infO]), fun m hm => set_keep (S.idict m hm) hi (by simp), fun m hm => set_keep' (S.succ m hm) ((S.ready r hr).2 m hm), S.injs, S.nodup, S.lt, fun r' hr' => ?_⟩
  have hr2 : T.rd = some r' := hr'
  rw [hr] at hr2; cases hr2
  exact ⟨Hp.set_self _ _ _, (S.ready r hr).2⟩
theorem frm_setRl {T : TR} {hp : Hp} {r : Addr} (hr : T.rd = some r) (l : List Nat) (o : O) : Frm T hp (T.setRl l) (hp.set r o) :=
  frm_set (.inr (.inr (.inr (.inr hr)))) (fun c h => h)
theorem TS.setDx {T : TR} {hp : Hp} (S : TS T hp) (po fi : Int) : TS { T with po := po, fi := fi } (hp.set T.dx (.adict (four T.d (rdV T.rd) po fi))) := by
  obtain ⟨ep, hk⟩ := S.keys
  have hi := S.dict
  exact ⟨set_keep S.me hi (by simp), Hp.set_self _ _ _, ⟨ep, set_keep hk hi (by simp)⟩, fun m hm => set_keep (S.info m hm) hi (by simp [infO]), fun m hm => set_keep (S.idict m hm) hi (by simp [four]), fun m hm => set_keep (S.succ m hm) hi (by simp), S.injs, S.nodup, S.lt, fun r hr => ⟨set_keep (S.ready r hr).1 hi (by simp), (S.ready r hr).2⟩⟩
theorem frm_setDx {T : TR} {hp : Hp} (po fi : Int) (o : O) : Frm T hp { T with po := po, fi := fi } (hp.set T.dx o) :=
  frm_set (.inr (.inl rfl)) (fun c h => h)
theorem TS.setRd {T : TR} {hp : Hp} (S : TS T hp) (h0 : T.rd = none) {r : Addr} {l : List Nat} (hr : hp r = some (.list (intN l))) (hn : ¬ T.Own r) : TS { T with rd := some r, rl := l } (hp.set T.dx (.adict (four T.d (.ref r) T.po T.fi))) := by
  obtain ⟨ep, hk⟩ := S.keys
  have hi := S.dict
  refine ⟨set_keep S.me hi (by simp), Hp.set_self _ _ _, ⟨ep, set_keep hk hi (by simp)⟩, fun m hm => set_keep (S.info m hm) hi (by simp [infO]), fun m hm => set_keep (S.idict m hm) hi (by simp [four]), fun m hm => set_keep (S.succ m hm) hi (by simp), S.injs, S.nodup, S.lt, fun r' hr' => ?_⟩
  have : some r = some r' := hr'
  cases this
  exact ⟨set_keep hr hi (by simp), fun n hm e => hn (.inr (.inr (.inr (.inl ⟨n, hm, .inr (.inr e.symm)⟩))))⟩
theorem TS.grow {T : TR} {hp hp' : Hp} (S : TS T hp) (h0 : T.rd = none) {n : Nat} (h9 : n < 9) (hn : n ∉ T.ns) {a da c : Addr} (fa : hp a = none) (fd : hp da = none) (fc : hp c = none)
    (x : ∀ b o, hp b = some o → b ≠ T.d → hp' b = some o) (k : ∃ ep, hp' T.d = some (.dict (n2i T.ns T.ia ++ [((n : Int), .ref a)]) ep)) (ha : hp' a = some (infO da n 0 c)) (hda : hp' da = some (.adict [])) (hc : hp' c = some (.list [])) :
    TS { T with ns := T.ns ++ [n], ia := fup T.ia n a, da := fup T.da n da, sa := fup T.sa n c, np := fup T.np n 0, sc := fup T.sc n [] } hp' ∧
    Frm T hp { T with ns := T.ns ++ [n], ia := fup T.ia n a, da := fup T.da n da, sa := fup T.sa n c, np := fup T.np n 0, sc := fup T.sc n [] } hp' := by
  obtain ⟨ep, hk⟩ := S.keys
  have nd : ∀ {b o}, hp b = some o → (∀ l e, o ≠ .dict l e) → b ≠ T.d := fun h1 h2 => ne_of h1 hk (h2 _ _)
  have old : ∀ m ∈ T.ns, m ≠ n := fun m hm e => hn (e ▸ hm)
  have fn : ∀ m, m ∈ T.ns ++ [n] → m ∈ T.ns ∨ m = n := by intro m h; simpa using h
  constructor
  · refine ⟨x _ _ S.me (nd S.me (by simp)), x _ _ S.dict (nd S.dict (by simp)), ?_, ?_, ?_, ?_, ?_, ?_, ?_, ?_⟩
    · obtain ⟨ep', k⟩ := k
      refine ⟨ep', k.trans ?_⟩
      have : n2i (T.ns ++ [n]) (fup T.ia n a) = n2i T.ns T.ia ++ [((n : Int), .ref a)] := by
        simp only [n2i, List.map_append, List.map_cons, List.map_nil, fup_self]
        congr 1
        apply List.map_congr_left
        intro m hm
        rw [fup_ne _ _ (old m hm)]
      exact congrArg (fun q => some (O.dict q ep')) this.symm
    · intro m hm
      show hp' (fup T.ia n a m) = some (infO (fup T.da n da m) m (fup T.np n 0 m) (fup T.sa n c m))
      rcases fn m hm with h | rfl
      · rw [fup_ne _ _ (old m h), fup_ne _ _ (old m h), fup_ne _ _ (old m h), fup_ne _ _ (old m h)]
        exact x _ _ (S.info m h) (nd (S.info m h) (by simp [infO]))
      · rw [fup_self, fup_self, fup_self, fup_self]; exact ha
    · intro m hm
      show hp' (fup T.da n da m) = _
      rcases fn m hm with h | rfl
      · rw [fup_ne _ _ (old m h)]; exact x _ _ (S.idict m h) (nd (S.idict m h) (by simp))
      · rw [fup_self]; exact hda
    · intro m hm
      show hp' (fup T.sa n c m) = some (.list (intN (fup T.sc n [] m)))
      rcases fn m hm with h | rfl
      · rw [fup_ne _ _ (old m h), fup_ne _ _ (old m h)]; exact x _ _ (S.succ m h) (nd (S.succ m h) (by simp))
      · rw [fup_self, fup_self]; exact hc
    · intro m m' hm hm' e
      have e : fup T.sa n c m = fup T.sa n c m' := e
      rcases fn m hm with h | rfl <;> rcases fn m' hm' with h' | rfl
      · rw [fup_ne _ _ (old m h), fup_ne _ _ (old m' h')] at e; exact S.injs _ _ h h' e
      · rw [fup_ne _ _ (old m h), fup_self] at e
        have := S.succ m h; rw [e, fc] at this; cases this
      · rw [fup_ne _ _ (old m' h'), fup_self] at e
        have := S.succ m' h'; rw [← e, fc] at this; cases this
      · rfl
    · show (T.ns ++ [n]).Nodup
      rw [List.nodup_append]
      refine ⟨S.nodup, by simp, ?_⟩
      intro p hp1 q hq e
      simp at hq; subst hq; subst e; exact hn hp1
    · intro m hm
      rcases fn m hm with h | rfl
      · exact S.lt m h
      · exact h9
    · intro r hr
      have : T.rd = some r := hr
      rw [h0] at this; cases this
  · constructor
    · intro b o e q
      exact x b o e (by rintro rfl; exact q (.inr (.inr (.inl rfl))))
    · intro b q
      rcases q with q | q | q | ⟨m, hm, q⟩ | q
      · exact .inl (.inl q)
      · exact .inl (.inr (.inl q))
      · exact .inl (.inr (.inr (.inl q)))
      · have q : b = fup T.ia n a m ∨ b = fup T.da n da m ∨ b = fup T.sa n c m := q
        rcases fn m hm with h | rfl
        · rw [fup_ne _ _ (old m h), fup_ne _ _ (old m h), fup_ne _ _ (old m h)] at q
          exact .inl (.inr (.inr (.inr (.inl ⟨m, h, q⟩))))
        · rw [fup_self, fup_self, fup_self] at q
          rcases q with rfl | rfl | rfl
          · exact .inr fa
          · exact .inr fd
          · exact .inr fc
      · exact .inl (.inr (.inr (.inr (.inr q))))
end Mine
end

noncomputable section
open PySem PySem.W PyProof.Rows
set_option maxHeartbeats 2000000
namespace Mine
structure Same (T T' : TR) : Prop where
  sf : T'.sf = T.sf
  dx : T'.dx = T.dx
  d : T'.d = T.d
  rd : T'.rd = T.rd
  po : T'.po = T.po
  fi : T'.fi = T.fi
theorem Same.refl (T : TR) : Same T T := ⟨rfl, rfl, rfl, rfl, rfl, rfl⟩
theorem Same.trans {T T' T'' : TR} (a : Same T T') (b : Same T' T'') : Same T T'' := ⟨b.sf.trans a.sf, b.dx.trans a.dx, b.d.trans a.d, b.rd.trans a.rd, b.po.trans a.po, b.fi.trans a.fi⟩
theorem same_np (T : TR) (n : Nat) (v : Int) : Same T (T.setNp n v) := ⟨rfl, rfl, rfl, rfl, rfl, rfl⟩
theorem same_sc (T : TR) (n : Nat) (l : List Nat) : Same T (T.setSc n l) := ⟨rfl, rfl, rfl, rfl, rfl, rfl⟩
structure Gwn (T T' : TR) (n : Nat) : Prop where
  same : Same T T'
  mem : n ∈ T'.ns
  back : ∀ m ∈ T'.ns, m ∈ T.ns ∨ m = n
  old : ∀ m ∈ T.ns, m ∈ T'.ns ∧ T'.np m = T.np m ∧ T'.sc m = T.sc m ∧ T'.ia m = T.ia m
  new : n ∉ T.ns → T'.np n = 0 ∧ T'.sc n = []
noncomputable def getnW : WF := fun args hp P => ∃ (T : TR) (n : Nat), args = [.ref T.sf, .int (n : Nat)] ∧ n < 9 ∧ TS T hp ∧ T.rd = none ∧
    ∀ T' hp', TS T' hp' → Frm T hp T' hp' → Gwn T T' n → P (.ref (T'.ia n)) hp'
theorem getn_ok {X : Cx} (args : List V) (hp : Hp) (P : V → Hp → Prop) (h : getnW args hp P) : posW 2 (w_tsget_nodeinfo X niW) args hp P := by
  obtain ⟨T, n, rfl, hn, S, h0, k⟩ := h
  refine ⟨rfl, ?_⟩
  obtain ⟨ep, hk⟩ := S.keys
  have hlen := S.len
  unfold w_tsget_nodeinfo
  dsimp only [sCons, sIf, bCmp, wWal, wDget, wB, getOwnW, wLoc, wNone, tName]
  refine ⟨_, rfl, T.sf, T.dx, _, _, .ref T.d, rfl, S.inst, rfl, trivial, T.d, rfl, ⟨_, _, hk⟩, _, rfl, _, ep, n, hk, rfl, ?_⟩
  rw [n2i_lookup]
  by_cases h : n ∈ T.ns
  · rw [if_pos h]
    refine ⟨false, .isNone (.inr ⟨.inr ⟨_, _, rfl, S.info n h⟩, rfl⟩), ?_⟩
    refine ite_f ?_
    refine ⟨_, rfl, ?_⟩
    exact k T hp S (.refl _ _) ⟨.refl _, h, fun m hm => .inl hm, fun m hm => ⟨hm, rfl, rfl, rfl⟩, fun q => absurd h q⟩
  · rw [if_neg h]
    refine ⟨true, .isNone (.inl ⟨rfl, rfl⟩), ?_⟩
    refine ite_t ?_
    dsimp only [sAssign2, wNew, aCons, aNil, newW, wLoc, tSub, wB, getOwnW]
    refine ⟨_, rfl, ?_⟩
    intro a da ha hda hne
    change hp a = none at ha
    change hp da = none at hda
    refine ⟨a, da, n, rfl, Hp.set_self _ _ _, (Hp.set_ne _ _ hne.symm).trans (Hp.set_self _ _ _), ?_⟩
    intro c hc
    obtain ⟨c1, hc⟩ := fresh_set hc
    obtain ⟨c2, hc⟩ := fresh_set hc
    change hp c = none at hc
    refine ⟨rfl, ?_⟩
    have X0 : Ext hp (((((hp.set da (.adict [])).set a (.inst 40 da [])).set c (.list [])).set a (infO da n 0 c))) := ((((Ext.refl hp).upd hda).upd ha).upd hc).upd ha
    have S' := S.inst
    refine ⟨_, rfl, T.sf, T.dx, _, _, .ref T.d, rfl, ⟨X0 _ _ S'.at_, X0 _ _ S'.dict⟩, rfl, trivial, _, rfl, T.d, _, .dict (X0 _ _ hk) (by rw [n2i_len]; omega), ?_⟩
    rintro _ ⟨ep', rfl⟩
    rw [n2i_lookup, if_neg h]
    simp only [Option.isSome_none, Bool.false_eq_true, if_false]
    refine ⟨_, rfl, ?_⟩
    have nd : ∀ {b}, hp b = none → b ≠ T.d := by rintro b q rfl; rw [hk] at q; cases q
    have G := S.grow (hp' := ((((((hp.set da (.adict [])).set a (.inst 40 da [])).set c (.list [])).set a (infO da n 0 c))).set T.d (.dict (n2i T.ns T.ia ++ [((n : Int), .ref a)]) ep'))) h0 hn h ha hda hc
      (fun b o e q => set_keep' (X0 b o e) q) ⟨ep', Hp.set_self _ _ _⟩ (set_keep' (Hp.set_self _ _ _) (nd ha))
      (set_keep' (set_keep' (set_keep' (set_keep' (Hp.set_self _ _ _) hne.symm) (Ne.symm c2)) hne.symm) (nd hda)) (set_keep' (set_keep' (Hp.set_self _ _ _) c1) (nd hc))
    have kk := k _ _ G.1 G.2 ⟨⟨rfl, rfl, rfl, rfl, rfl, rfl⟩, by simp, by intro m hm; simpa using hm, ?_, ?_⟩
    · have e : fup T.ia n a n = a := fup_self _ _ _
      have kk : P (.ref (fup T.ia n a n)) _ := kk
      rw [e] at kk
      exact kk
    · intro m hm
      have e : m ≠ n := fun e => h (e ▸ hm)
      exact ⟨by simp [hm], fup_ne _ _ e, fup_ne _ _ e, fup_ne _ _ e⟩
    · intro _
      exact ⟨fup_self _ _ _, fup_self _ _ _⟩
structure Gr (T : TR) (ln : Nat → Nat) (nd : Nat → List Nat) (e : Nat) : Prop where
  np : ∀ n ∈ T.ns, T.np n = ln n
  sc : ∀ m ∈ T.ns, ∀ n, (T.sc m).count n = (nd n).count m
  out : ∀ n, n ∉ T.ns → nd n = [] ∧ ln n = 0
  inn : ∀ n, ∀ m ∈ nd n, m ∈ T.ns
  len : ∀ m ∈ T.ns, (T.sc m).length ≤ e
theorem Gr.grow {T T' : TR} {ln : Nat → Nat} {nd : Nat → List Nat} {e n : Nat} (G : Gr T ln nd e) (W : Gwn T T' n) : Gr T' ln nd e := by
  have key : ∀ m ∈ T'.ns, m ∈ T.ns ∨ (m = n ∧ n ∉ T.ns) := by
    intro m hm
    by_cases h : m ∈ T.ns
    · exact .inl h
    · rcases W.back m hm with q | q
      · exact .inl q
      · exact .inr ⟨q, q ▸ h⟩
  refine ⟨?_, ?_, ?_, fun k m hm => (W.old m (G.inn k m hm)).1, ?_⟩
  · intro m hm
    rcases key m hm with h | ⟨rfl, h⟩
    · rw [(W.old m h).2.1]; exact G.np m h
    · rw [(W.new h).1, (G.out m h).2]; rfl
  · intro m hm k
    rcases key m hm with h | ⟨rfl, h⟩
    · rw [(W.old m h).2.2.1]; exact G.sc m h k
    · rw [(W.new h).2]
      have : m ∉ nd k := fun q => h (G.inn k m q)
      rw [List.count_eq_zero_of_not_mem this]; rfl
  · intro m hm
    exact G.out m fun q => hm (W.old m q).1
  · intro m hm
    rcases key m hm with h | ⟨rfl, h⟩
    · rw [(W.old m h).2.2.1]; exact G.len m h
    · rw [(W.new h).2]; simp
theorem Gr.app {T : TR} {ln : Nat → Nat} {nd : Nat → List Nat} {e n p : Nat} (G : Gr T ln nd e) (hp : p ∈ T.ns) (hn : n ∈ T.ns) : Gr (T.setSc p (T.sc p ++ [n])) ln (fup nd n (nd n ++ [p])) (e + 1) := by
  refine ⟨G.np, ?_, ?_, ?_, ?_⟩
  · intro m hm k
    show (fup T.sc p (T.sc p ++ [n]) m).count k = (fup nd n (nd n ++ [p]) k).count m
    by_cases e1 : m = p
    · subst e1
      rw [fup_self]
      by_cases e2 : k = n
      · subst e2; rw [fup_self, List.count_append, List.count_append, G.sc m hm k]; simp
      · rw [fup_ne _ _ e2, List.count_append, G.sc m hm k]
        simp [Ne.symm e2]
    · rw [fup_ne _ _ e1]
      by_cases e2 : k = n
      · subst e2; rw [fup_self, List.count_append, G.sc m hm k]
        simp [Ne.symm e1]
      · rw [fup_ne _ _ e2]; exact G.sc m hm k
  · intro m hm
    have : m ≠ n := fun q => hm (q ▸ hn)
    rw [fup_ne _ _ this]; exact G.out m hm
  · intro k m hm
    by_cases e2 : k = n
    · subst e2
      rw [fup_self] at hm
      rcases List.mem_append.mp hm with h | h
      · exact G.inn _ _ h
      · simp at h; subst h; exact hp
    · rw [fup_ne _ _ e2] at hm; exact G.inn _ _ hm
  · intro m hm
    show (fup T.sc p (T.sc p ++ [n]) m).length ≤ e + 1
    have := G.len m hm
    by_cases e1 : m = p
    · subst e1; rw [fup_self]; simp; omega
    · rw [fup_ne _ _ e1]; omega
theorem Gr.more {T : TR} {ln : Nat → Nat} {nd : Nat → List Nat} {e n : Nat} (G : Gr T ln nd e) (hn : n ∈ T.ns) (k : Nat) : Gr (T.setNp n (T.np n + (k : Nat))) (fup ln n (ln n + k)) nd e := by
  refine ⟨?_, G.sc, ?_, G.inn, G.len⟩
  · intro m hm
    show fup T.np n (T.np n + (k : Nat)) m = ((fup ln n (ln n + k) m : Nat) : Int)
    by_cases e1 : m = n
    · subst e1; rw [fup_self, fup_self, G.np m hm]; omega
    · rw [fup_ne _ _ e1, fup_ne _ _ e1]; exact G.np m hm
  · intro m hm
    have : m ≠ n := fun q => hm (q ▸ hn)
    rw [fup_ne _ _ this]; exact G.out m hm
theorem fup_fup {α : Type} (f : Nat → α) (n : Nat) (a b : α) : fup (fup f n a) n b = fup f n b := by
  funext x; by_cases h : x = n <;> simp [fup, h]
theorem fup_same {α : Type} (f : Nat → α) (n : Nat) : fup f n (f n) = f := by
  funext x; by_cases h : x = n <;> simp [fup, h]
abbrev GrL (T : TR) (nd : Nat → List Nat) (e : Nat) : Prop := Gr T (fun n => (nd n).length) nd e
theorem four_rd (d : Addr) (rd : V) (po fi : Int) : (four d rd po fi).lookup ("_ready_nodes" : Str) = some rd := rfl
theorem intN_len (l : List Nat) : (intN l).length = l.length := by simp [intN]
theorem intN_get {l : List Nat} {i : Nat} {v : V} (h : (intN l)[i]? = some v) : ∃ k, l[i]? = some k ∧ v = .int (k : Nat) := by
  simp only [intN, List.getElem?_map, Option.map_eq_some_iff] at h
  obtain ⟨k, h1, h2⟩ := h
  exact ⟨k, h1, h2.symm⟩
theorem take_get {l : List Nat} {i k : Nat} (h : l[i]? = some k) : l.take (i + 1) = l.take i ++ [k] := by
  rw [List.take_add_one, h]; rfl
theorem mem_take_get {l : List Nat} {i k : Nat} (h : l[i]? = some k) : k ∈ l := List.mem_of_getElem? h
noncomputable def addW : WF := fun args hp P => ∃ (T : TR) (n e : Nat) (ps : List Nat) (nd : Nat → List Nat), args = .ref T.sf :: .int (n : Nat) :: intN ps ∧ n < 9 ∧ (∀ p ∈ ps, p < 9) ∧ e + ps.length < 900000 ∧ TS T hp ∧ T.rd = none ∧ GrL T nd e ∧
    ∀ T' hp', TS T' hp' → Frm T hp T' hp' → Same T T' → GrL T' (fup nd n (nd n ++ ps)) (e + ps.length) → (∀ m, m ∈ T'.ns ↔ m ∈ T.ns ∨ m = n ∨ m ∈ ps) → P .none hp'
theorem add_ok {X : Cx} (args : List V) (hp : Hp) (P : V → Hp → Prop) (h : addW args hp P) : varW 2 (w_ts_add X getnW) args hp P := by
  obtain ⟨T, n, e, ps, nd, rfl, hn, hps, he, S, h0, G, k⟩ := h
  refine ⟨[.ref T.sf, .int (n : Nat)], intN ps, rfl, rfl, by simp [intN]; omega, ?_⟩
  unfold w_ts_add
  dsimp only [sCons, sIf, bCmp, wB, getOwnW, wLoc, wNone]
  refine ⟨_, rfl, T.sf, T.dx, _, _, .none, rfl, S.inst, by rw [four_rd, h0]; rfl, trivial, false, .isNotNone (.inl ⟨rfl, rfl⟩), ?_⟩
  refine ite_f ?_
  dsimp only [sNil, sAssign, wMeth, wLoc, aCons, aNil]
  refine ⟨_, rfl, T.sf, T.dx, _, _, rfl, S.inst, rfl, _, rfl, T, n, rfl, hn, S, h0, ?_⟩
  intro T1 hp1 S1 F1 W1
  have G1 := G.grow W1
  have i1 := S1.iinst W1.mem
  dsimp only [sAugAttr, wLoc, getSlotW, wB, lenW, setSlotW]
  refine ⟨_, rfl, T1.ia n, T1.da n, _, _, _, rfl, i1, rfl, trivial, _, rfl, ps.length, ?_, ?_⟩
  · have : ps.length = (intN ps).length := by simp [intN]
    rw [this]; exact .tup (by rw [intN_len]; omega)
  show ∃ a dx os fs, _
  refine ⟨T1.ia n, T1.da n, _, _, rfl, i1, ?_⟩
  have S2 := S1.setNp W1.mem (T1.np n + (ps.length : Nat))
  have F2 := frm_setNp (hp := hp1) W1.mem (T1.np n + (ps.length : Nat)) (infO (T1.da n) n (T1.np n + (ps.length : Nat)) (T1.sa n))
  have G2 := G1.more W1.mem ps.length
  refine sFor_run (tupSrc (intN ps)) _ (intN ps) (fun i st => ∃ T', st.lo 0 = some (.ref T.sf) ∧ st.lo 1 = some (.int (n : Nat)) ∧ TS T' st.hp ∧ Frm T hp T' st.hp ∧ Same T T' ∧ n ∈ T'.ns ∧ Gr T' (fup (fun n => (nd n).length) n ((nd n).length + ps.length)) (fup nd n (nd n ++ ps.take i)) (e + (ps.take i).length) ∧ (∀ m, m ∈ T'.ns ↔ m ∈ T.ns ∨ m = n ∨ m ∈ ps.take i)) (fun K h => ⟨_, rfl, _, rfl, h⟩) (fun _ _ => rfl) (fun _ _ => rfl) (fun i _ _ => rfl) ?_ ?_ ?_
  · refine ⟨_, rfl, rfl, S2, F1.trans F2, W1.same.trans (same_np _ _ _), W1.mem, ?_, ?_⟩
    · simp only [List.take_zero, List.append_nil, fup_same]; exact G2
    · intro m
      show m ∈ T1.ns ↔ _
      constructor
      · intro q; rcases W1.back m q with q | q
        · exact .inl q
        · exact .inr (.inl q)
      · rintro (q | rfl | q)
        · exact (W1.old m q).1
        · exact W1.mem
        · simp at q
  · rintro i v st ⟨T', l0, l1, S', F', W', m', G', N'⟩ hv
    obtain ⟨p, hpi, rfl⟩ := intN_get hv
    have hp9 := hps p (mem_take_get hpi)
    have ht := take_get hpi
    have hil : i < ps.length := (List.getElem?_eq_some_iff.mp hpi).1
    refine body_gen ?_
    intro QQ hQQ
    dsimp only [tName, sCons, sAssign, wMeth, wLoc, aCons, aNil]
    have r0 : T'.rd = none := W'.rd.trans h0
    refine ⟨.ref T'.sf, by rw [W'.sf]; exact l0, T'.sf, T'.dx, _, _, rfl, S'.inst, rfl, _, rfl, T', p, rfl, hp9, S', r0, ?_⟩
    intro T3 hp3 S3 F3 W3
    have G3 := G'.grow W3
    have i3 := S3.iinst W3.mem
    dsimp only [sExpr, wAppend, wB, wLoc, getSlotW, sNil]
    have hsl := G3.len p W3.mem
    have hl2 : (ps.take i).length ≤ ps.length := by simp; omega
    refine ⟨_, rfl, T3.ia p, T3.da p, _, _, _, rfl, i3, rfl, trivial, T3.sa p, rfl, ⟨_, S3.succ p W3.mem⟩, _, l1, _, S3.succ p W3.mem, by rw [intN_len]; omega, ?_⟩
    have S4 := S3.setSc W3.mem (T3.sc p ++ [n])
    have F4 := frm_setSc (hp := hp3) W3.mem (T3.sc p ++ [n]) (.list (intN (T3.sc p ++ [n])))
    have G4 := G3.app W3.mem (W3.old n m').1
    have ei : intN (T3.sc p ++ [n]) = intN (T3.sc p) ++ [.int (n : Nat)] := by simp [intN]
    rw [ei] at S4 F4
    rw [hQQ]
    refine ⟨_, l0, l1, S4, (F'.trans F3).trans F4, (W'.trans W3.same).trans (same_sc _ _ _), (W3.old n m').1, ?_, ?_⟩
    · rw [fup_fup, fup_self] at G4
      rw [ht, ← List.append_assoc, List.length_append]
      exact G4
    · intro m
      show m ∈ T3.ns ↔ _
      rw [ht]
      constructor
      · intro q
        rcases W3.back m q with q | rfl
        · rcases (N' m).mp q with q | q | q
          · exact .inl q
          · exact .inr (.inl q)
          · exact .inr (.inr (by simp [q]))
        · exact .inr (.inr (by simp))
      · rintro (q | q | q)
        · exact (W3.old m ((N' m).mpr (.inl q))).1
        · exact (W3.old m ((N' m).mpr (.inr (.inl q)))).1
        · rcases List.mem_append.mp q with q | q
          · exact (W3.old m ((N' m).mpr (.inr (.inr q)))).1
          · simp at q; rw [q]; exact W3.mem
  · rintro st ⟨T', l0, l1, S', F', W', m', G', N'⟩
    rw [intN_len, List.take_length] at G' N'
    refine k T' st.hp S' F' W' ?_ N'
    have : (fup (fun n => (nd n).length) n ((nd n).length + ps.length)) = fun m => (fup nd n (nd n ++ ps) m).length := by
      funext m
      by_cases q : m = n
      · subst q; rw [fup_self, fup_self]; simp
      · rw [fup_ne _ _ q, fup_ne _ _ q]
    rw [this] at G'
    exact G'
end Mine
end

noncomputable section
open PySem PySem.W PyProof.Rows
set_option maxHeartbeats 1000000
namespace Mine
abbrev Cogs := Nat → Nat → List Nat
structure Wh (cg : Cogs) (rk : Nat → Nat) : Prop where
  up : ∀ p, p < 6 → ∀ k, k < 3 → ∀ o ∈ cg p k, o < 6 ∧ rk p < rk o
  lt : ∀ p, p < 6 → rk p < 6
  len : ∀ p, p < 6 → ∀ k, k < 3 → (cg p k).length ≤ 2
noncomputable def sentT (cg : Cogs) (q p c : Nat) : Nat → Nat
  | 0 => 0
  | k + 1 => sentT cg q p c k + (cg p k).count q * ((c + 2 - k) / 3)
noncomputable def gotT (cg : Cogs) (s : Nat → Nat) (q : Nat) : Nat → Nat
  | 0 => 0
  | i + 1 => gotT cg s q i + sentT cg q i (s i) 3
theorem sentT_succ (cg : Cogs) (q p c : Nat) : sentT cg q p (c + 1) 3 = sentT cg q p c 3 + (cg p (c % 3)).count q := by
  simp only [sentT]
  have : c % 3 = 0 ∨ c % 3 = 1 ∨ c % 3 = 2 := by omega
  rcases this with h | h | h
  · rw [h, show (c + 1 + 2 - 0) / 3 = (c + 2 - 0) / 3 + 1 by omega, show (c + 1 + 2 - 1) / 3 = (c + 2 - 1) / 3 by omega, show (c + 1 + 2 - 2) / 3 = (c + 2 - 2) / 3 by omega, Nat.mul_succ]; omega
  · rw [h, show (c + 1 + 2 - 0) / 3 = (c + 2 - 0) / 3 by omega, show (c + 1 + 2 - 1) / 3 = (c + 2 - 1) / 3 + 1 by omega, show (c + 1 + 2 - 2) / 3 = (c + 2 - 2) / 3 by omega, Nat.mul_succ]; omega
  · rw [h, show (c + 1 + 2 - 0) / 3 = (c + 2 - 0) / 3 by omega, show (c + 1 + 2 - 1) / 3 = (c + 2 - 1) / 3 by omega, show (c + 1 + 2 - 2) / 3 = (c + 2 - 2) / 3 + 1 by omega, Nat.mul_succ]; omega
theorem gotT_fup (cg : Cogs) (s : Nat → Nat) (q p : Nat) : ∀ i, gotT cg (fup s p (s p + 1)) q i = gotT cg s q i + if p < i then (cg p (s p % 3)).count q else 0
  | 0 => by simp [gotT]
  | i + 1 => by
    simp only [gotT]
    rw [gotT_fup cg s q p i]
    by_cases e : i = p
    · subst e
      rw [fup_self, sentT_succ, if_neg (Nat.lt_irrefl _), if_pos (Nat.lt_succ_self _)]; omega
    · rw [fup_ne _ _ e]
      by_cases h : p < i
      · rw [if_pos h, if_pos (by omega)]; omega
      · rw [if_neg h, if_neg (by omega)]; omega
theorem sentT_zero {cg : Cogs} {q p c : Nat} : ∀ k, (∀ j, j < k → q ∉ cg p j) → sentT cg q p c k = 0
  | 0, _ => rfl
  | k + 1, h => by
    simp only [sentT]
    rw [sentT_zero k (fun j hj => h j (by omega)), List.count_eq_zero_of_not_mem (h k (by omega))]; simp
theorem gotT_congr {cg : Cogs} {rk : Nat → Nat} (W : Wh cg rk) {s s' : Nat → Nat} {q : Nat} (h : ∀ p, p < 6 → rk p < rk q → s p = s' p) : ∀ i, i ≤ 6 → gotT cg s q i = gotT cg s' q i
  | 0, _ => rfl
  | i + 1, hi => by
    simp only [gotT]
    rw [gotT_congr W h i (by omega)]
    by_cases e : rk i < rk q
    · rw [h i (by omega) e]
    · rw [sentT_zero 3 (fun j hj m => e (W.up i (by omega) j hj q m).2), sentT_zero 3 (fun j hj m => e (W.up i (by omega) j hj q m).2)]
noncomputable def Fixd (cg : Cogs) (M s : Nat → Nat) : Prop := ∀ q, q < 6 → s q = M q + gotT cg s q 6
theorem Fixd.uniq {cg : Cogs} {rk : Nat → Nat} (W : Wh cg rk) {M s s' : Nat → Nat} (h : Fixd cg M s) (h' : Fixd cg M s') : ∀ (n q : Nat), q < 6 → rk q < n → s q = s' q
  | 0, _, _, h => absurd h (Nat.not_lt_zero _)
  | n + 1, q, hq, hn => by
    rw [h q hq, h' q hq, gotT_congr W (fun p hp hr => Fixd.uniq W h h' n p hp (by omega)) 6 (Nat.le_refl _)]
theorem Fixd.eq {cg : Cogs} {rk : Nat → Nat} (W : Wh cg rk) {M s s' : Nat → Nat} (h : Fixd cg M s) (h' : Fixd cg M s') {q : Nat} (hq : q < 6) : s q = s' q :=
  h.uniq W h' 6 q hq (W.lt q hq)
noncomputable def Bal (cg : Cogs) (M s w : Nat → Nat) : Prop := ∀ q, q < 6 → s q + w q = M q + gotT cg s q 6
theorem Bal.step {cg : Cogs} {M s w w' : Nat → Nat} {p : Nat} (B : Bal cg M s w) (hp : p < 6) (h : ∀ q, q < 6 → w' q + (if q = p then 1 else 0) = w q + (cg p (s p % 3)).count q) : Bal cg M (fup s p (s p + 1)) w' := by
  intro q hq
  have h1 := B q hq
  have h2 := h q hq
  rw [gotT_fup, if_pos hp]
  by_cases e : q = p
  · subst e; rw [fup_self]; rw [if_pos rfl] at h2; omega
  · rw [fup_ne _ _ e]; rw [if_neg e] at h2; omega
theorem Bal.fix {cg : Cogs} {M s w : Nat → Nat} (B : Bal cg M s w) (h : ∀ q, q < 6 → w q = 0) : Fixd cg M s := fun q hq => by
  have := B q hq
  rw [h q hq] at this; exact this
theorem gotT_nil (cg : Cogs) (q : Nat) : ∀ i, gotT cg (fun _ => 0) q i = 0
  | 0 => rfl
  | i + 1 => by
    simp only [gotT]
    rw [gotT_nil cg q i]; simp [sentT]
theorem Bal.start (cg : Cogs) (M : Nat → Nat) : Bal cg M (fun _ => 0) M := fun q hq => by rw [gotT_nil]; exact Nat.zero_add _
noncomputable def dueT (cg : Cogs) (M : Nat → Nat) : Nat → Nat → Nat
  | 0 => fun _ => 0
  | i + 1 => fun q => M q + gotT cg (dueT cg M i) q 6
theorem dueT_still {cg : Cogs} {rk : Nat → Nat} (W : Wh cg rk) (M : Nat → Nat) : ∀ (i j q : Nat), i ≤ j → q < 6 → rk q < i → dueT cg M j q = dueT cg M i q
  | 0, _, _, _, _, h => absurd h (Nat.not_lt_zero _)
  | i + 1, 0, _, h, _, _ => absurd h (by omega)
  | i + 1, j + 1, q, h, hq, hr => by
    simp only [dueT]
    rw [gotT_congr W (fun p hp hr' => dueT_still W M i j p (by omega) hp (by omega)) 6 (Nat.le_refl _)]
theorem dueT_fix {cg : Cogs} {rk : Nat → Nat} (W : Wh cg rk) (M : Nat → Nat) : Fixd cg M (dueT cg M 6) := fun q hq =>
  (dueT_still W M 6 7 q (by omega) hq (W.lt q hq)).symm
noncomputable def wgt (rk : Nat → Nat) (l : List Nat) : Nat := (l.map fun p => 3 ^ (6 - rk p)).sum
theorem wgt_nil (rk : Nat → Nat) : wgt rk [] = 0 := rfl
theorem wgt_cons (rk : Nat → Nat) (p : Nat) (l : List Nat) : wgt rk (p :: l) = 3 ^ (6 - rk p) + wgt rk l := by simp [wgt]
theorem wgt_app (rk : Nat → Nat) (l m : List Nat) : wgt rk (l ++ m) = wgt rk l + wgt rk m := by simp [wgt]
theorem wgt_perm (rk : Nat → Nat) {l m : List Nat} (h : l.Perm m) : wgt rk l = wgt rk m := (h.map _).sum_nat
theorem wgt_len (rk : Nat → Nat) : ∀ l : List Nat, l.length ≤ wgt rk l
  | [] => Nat.le_refl _
  | p :: l => by
    have := wgt_len rk l
    have h1 : 0 < 3 ^ (6 - rk p) := Nat.pow_pos (by omega)
    rw [wgt_cons, List.length_cons]; omega
theorem wgt_le (rk : Nat → Nat) {B : Nat} : ∀ l : List Nat, (∀ p ∈ l, 3 ^ (6 - rk p) ≤ B) → wgt rk l ≤ l.length * B
  | [], _ => by simp [wgt]
  | p :: l, h => by
    have h1 := wgt_le rk l (fun q hq => h q (List.mem_cons_of_mem _ hq))
    have h2 := h p (by simp)
    rw [wgt_cons, List.length_cons, Nat.succ_mul]; omega
theorem wgt_letters (rk : Nat → Nat) (l : List Nat) : wgt rk l ≤ l.length * 729 := wgt_le rk l fun p _ => by
  have : 3 ^ (6 - rk p) ≤ 3 ^ 6 := Nat.pow_le_pow_right (by omega) (by omega)
  exact this
theorem Wh.less {cg : Cogs} {rk : Nat → Nat} (W : Wh cg rk) {p k : Nat} (hp : p < 6) (hk : k < 3) : wgt rk (cg p k) < 3 ^ (6 - rk p) := by
  have h1 := W.lt p hp
  have h2 := W.len p hp k hk
  have h3 : wgt rk (cg p k) ≤ (cg p k).length * 3 ^ (5 - rk p) := wgt_le rk _ fun o ho => by
    have := (W.up p hp k hk o ho).2
    exact Nat.pow_le_pow_right (by omega) (by omega)
  have h4 : 3 ^ (6 - rk p) = 3 ^ (5 - rk p) * 3 := by rw [← Nat.pow_succ]; congr 1; omega
  have h5 : 0 < 3 ^ (5 - rk p) := Nat.pow_pos (by omega)
  have h6 : (cg p k).length * 3 ^ (5 - rk p) ≤ 2 * 3 ^ (5 - rk p) := Nat.mul_le_mul_right _ h2
  omega
theorem Wh.notself {cg : Cogs} {rk : Nat → Nat} (W : Wh cg rk) {p k : Nat} (hp : p < 6) (hk : k < 3) : p ∉ cg p k := fun h => by
  have := (W.up p hp k hk p h).2
  omega
theorem Wh.noring {rk : Nat → Nat} {nd : Nat → List Nat} (h : ∀ n, ∀ m ∈ nd n, rk m < rk n) {R : Nat → Prop} (h1 : ∃ n, R n) (h2 : ∀ n, R n → ∃ m ∈ nd n, R m) : False := by
  obtain ⟨n, hn⟩ := h1
  have : ∀ k n, rk n < k → ¬ R n := by
    intro k
    induction k with
    | zero => intro n hn; omega
    | succ k ih =>
      intro n hn hR
      obtain ⟨m, hm, hRm⟩ := h2 n hR
      have := h n m hm
      exact ih m (by omega) hRm
  exact this _ n (Nat.lt_succ_self _) hn
end Mine
end

noncomputable section
open PySem PySem.W PyProof.Rows
namespace Mine
noncomputable def wDict1 (W1 W2 : WE) : WE := fun st P => ∀ d, st.hp d = none → W1 (st.setH d (.dict [] 0)) fun kv st1 => ∃ k, kv = .int k ∧ W2 st1 fun v st2 => ∃ ep, st2.hp d = some (.dict [] ep) ∧ ∀ ep', P (.ref d) (st2.setH d (.dict [(k, v)] ep'))
section
variable {X : Cx} {A : Around} {F : Fx}
theorem r_dict1 {e1 e2 : Expr} {pos : Pos} {W1 W2 : WE} (h1 : SE X A F e1 W1) (h2 : SE X A F e2 W2) : SE X A F (.Dict [some e1] [e2] pos) (wDict1 W1 W2) := by
  intro st s r P hP Q E h
  refine wpAny_Dict_walk (knd := intKind X.prog X.w) rfl rfl (by simp) (by simp) ?_
  have e0 : Ev [] [] st.hp s (st.hp.set s.heap.objs.size (.dict [] 0)) { s with heap := s.heap.push { cls := .type "dict", data := .dict #[] } } := .alloc _ _
  have r0 := r.ev e0 (r.H.alloc _ _ (dictNew _))
  refine pairTrees_cons_walk (h1 (st.setH s.heap.objs.size (.dict [] 0)) _ r0 _ (hP _ r.H.sizeFree) _ _ fun kv st1 rk s1 r1 ev1 hk1 hp1 => ?_)
  obtain ⟨k, rfl, hp1⟩ := hp1
  refine h2 st1 s1 r1 _ hp1 _ _ fun v st2 rv s2 r2 ev2 hv2 hp2 => pairTrees_nil_walk ?_
  obtain ⟨ep, hd, hp2⟩ := hp2
  obtain ⟨t, rfl⟩ := hk1.unInt
  obtain ⟨rk, hd2, hkk, hvs⟩ := r2.H.own _ _ hd
  have hrk : rk = [] := by simpa using hkk
  subst hrk
  refine ⟨[(k, rv)], ⟨by simp [intKind, Value.isInt], rfl, trivial⟩, hd2.dictOf, fun h' hd' sb => ?_⟩
  obtain ⟨ep', hd''⟩ := hd'.dictAt
  have e3 : Ev [] [] st2.hp s2 (st2.hp.set s.heap.objs.size (.dict [(k, v)] ep')) { s2 with heap := h', toks := s2.toks + 1 } := by
    obtain ⟨ob, _, eo, _⟩ := id hd''
    exact .write hd sb ⟨ob, eo⟩
  have H3 : RH X (st2.hp.set s.heap.objs.size (.dict [(k, v)] ep')) { s2 with heap := h', toks := s2.toks + 1 } := r2.H.write hd sb fun tk => ⟨[(k, rv)], hd'', rfl, .one (hv2.mono tk)⟩
  exact h _ _ _ _ (r2.ev e3 H3) (((e0.weaken.trans ev1).trans ev2).trans e3.weaken) (.mkRef _ _) (hp2 ep')
theorem SFE.toSF {cls : Value} {f : Addr} {d : Nat} {W : List V → Hp → (V → Hp → Prop) → (Hp → Prop) → Prop} (h : SFE X cls f d W) : SF X f d (fun args hp P => W args hp P fun _ => False) := by
  intro A fr hA hF hp s H O args vs hv P hP R0 k
  exact h A fr hA hF hp s H O args vs hv P _ hP R0 k (fun _ _ _ _ _ _ _ _ _ hf => hf.elim)
variable {K : Frag}
noncomputable def posW1 (n : Nat) (dv : V) (W : WS) : WF := fun args hp P => args.length = n ∧ W ⟨fun i => (args ++ [dv])[i]?, hp⟩ (finW P)
theorem bind_dflt1 (B : Base X K) {fd : FuncData} {ps : List Str} {args : List V} {T : Addr} {o : Obj} {items : Array Value} {n : Nat} {dv : V} {rv : Value} (hd : fd.defaults = .ref T) (ho : K.lookup T = some o) (hs : o.data = .seq items n) (hr : ∀ h, VR h dv rv)
    (h : ∀ vs : List Value, vs.length = args.length → ∃ k, bindArgs fd ⟨vs, []⟩ = seqItems? fd.defaults >>= k ∧ k (some items) = pure (ps.zip (vs ++ [rv]))) : BindS X fd ps args (args ++ [dv]) := by
  intro A hp s vs H hv Q E k
  obtain ⟨kk, h1, h2⟩ := h vs hv.length
  rw [h1, hd]
  refine wpAny_bind (wpAny_seqItems (H.base _ _ (B.K _ _ ho)) hs ?_)
  rw [h2]
  exact wpAny_pure (k _ s H .refl (hv.append (.one (hr _))))
theorem sf_dflt1 (B : Base X K) {fd : FuncData} {f T : Addr} {o : Obj} {items : Array Value} {m : Nat} {body : List Stmt} {nm ps : List Str} {d n : Nat} {W : WS} {dv : V} {rv : Value} (N : FnAt X f fd body) (hnm : nm.Nodup) (hps : ps.Nodup) (hpn : nm.take ps.length = ps) (hn : ps.length = n + 1)
    (hkind : ∀ L, ∀ x ∈ ps, fd.scope.names.lookup x = some .local ∨ (fd.scope.names.lookup x = some .cell ∧ ((cellsFrom (L + 1) fd.scope.names []).lookup x).isSome = true))
    (hd : fd.defaults = .ref T) (ho : K.lookup T = some o) (hs : o.data = .seq items m) (hr : ∀ h, VR h dv rv)
    (hbind : ∀ vs : List Value, vs.length = n → ∃ k, bindArgs fd ⟨vs, []⟩ = seqItems? fd.defaults >>= k ∧ k (some items) = pure (ps.zip (vs ++ [rv])))
    (hb : ∀ L fr A, AOk A d → AFx A (fnFx fd f nm fr L) → SL X A (fnFx fd f nm fr L) body W) : SF X f (d + 1) (posW1 n dv W) :=
  (sf_def N hnm hps (nmOk hpn) hkind hb).mono fun args hp P hP => ⟨args ++ [dv], bind_dflt1 B hd ho hs hr fun vs hv => hbind vs (hv.trans hP.1), by simp [hP.1, hn], hP.2⟩
end
end Mine
end

noncomputable section
open PySem PySem.W PyProof.Rows
set_option maxHeartbeats 1000000
namespace Mine
abbrev Cx.on (X : Cx) (h : Heap) : Cx := ⟨X.prog, X.w, h⟩
noncomputable def Sub (X : Cx) (h : Heap) : Prop := ∀ b o, X.h₀.get? b = some o → h.get? b = some o
section
variable {X : Cx} {A : Around} {F : Fx} {K : Frag} {h : Heap}
theorem Sub.free (S : Sub X h) {b : Addr} (e : h.get? b = none) : X.h₀.get? b = none := by
  cases q : X.h₀.get? b with
  | none => rfl
  | some o => rw [S b o q] at e; cases e
theorem Base.on (B : Base X K) (S : Sub X h) : Base (X.on h) K where
  K := B.K.keeps S
  g := let ⟨m, g⟩ := B.g; ⟨m, g.keeps S⟩
  b := let ⟨m, g, e⟩ := B.b; ⟨m, g.keeps S, e⟩
  lim := B.lim.keeps S
  mods := let ⟨o, e⟩ := B.mods; ⟨o, S _ _ e⟩
  tr := let ⟨p, l, mg, mb, t⟩ := B.tr; ⟨p, l, mg, mb, t.keeps S⟩
theorem OAt.on {g : Heap} {a : Addr} : ∀ {o : O}, OAt (X.on h) g a o → OAt X g a o
  | .list _, e => e
  | .dict _ _, e => e
  | .set _, e => e
  | .inst _ _ _, e => e
  | .adict _, e => e
  | .liter _ _, e => e
  | .nextm _, e => e
  | .raw _, e => e
  | .dead, e => e
theorem OAt.to {g : Heap} {a : Addr} : ∀ {o : O}, OAt X g a o → OAt (X.on h) g a o
  | .list _, e => e
  | .dict _ _, e => e
  | .set _, e => e
  | .inst _ _ _, e => e
  | .adict _, e => e
  | .liter _ _, e => e
  | .nextm _, e => e
  | .raw _, e => e
  | .dead, e => e
theorem R.back {st : St} {s : Shared} (r : R (X.on h) F st s) (S : Sub X h) : R X F st s :=
  ⟨r.ok, ⟨fun b o e => r.H.base b o (S b o e), fun b o e => r.H.bfree b o (S b o e), fun a o e => (r.H.own a o e).on⟩,
    ⟨r.L.ns, r.L.var, r.L.cell, fun b hb => let ⟨a, c, d⟩ := r.L.pv b hb; ⟨a, S.free c, d⟩⟩, fun b hb => let ⟨a, c, d⟩ := r.fr b hb; ⟨a, S.free c, d⟩⟩
noncomputable def Hp.cut (hp : Hp) (fs : List Addr) : Hp := fun b => if b ∈ fs then none else hp b
theorem Hp.cut_none {hp : Hp} {fs : List Addr} {b : Addr} (h : hp b = none) : hp.cut fs b = none := by
  unfold Hp.cut; split <;> simp [h]
theorem Hp.cut_some {hp : Hp} {fs : List Addr} {b : Addr} {o : O} (h : hp.cut fs b = some o) : b ∉ fs ∧ hp b = some o := by
  unfold Hp.cut at h
  split at h
  · cases h
  · rename_i q; exact ⟨q, h⟩
theorem R.switch {st : St} {s : Shared} (r : R X F st s) (fs : List Addr) (hf : ∀ b ∈ fs, ∃ ob, st.hp b = some (.raw ob)) :
    ∃ h, Sub X h ∧ (∀ b ∈ fs, ∀ ob, st.hp b = some (.raw ob) → h.get? b = some ob) ∧ R (X.on h) F ⟨st.lo, st.hp.cut fs⟩ s := by
  let hid := (List.range s.heap.objs.size).filter fun b => !(X.h₀.get? b).isSome && !fs.contains b
  have vis : ∀ b o, (hideAll s.heap hid).get? b = some o → s.heap.get? b = some o ∧ ((X.h₀.get? b).isSome = true ∨ b ∈ fs) := by
    intro b o e
    have e1 := of_hideAll _ e
    refine ⟨e1, ?_⟩
    apply Classical.byContradiction
    intro q
    have q1 : ¬ (X.h₀.get? b).isSome = true := fun z => q (.inl z)
    have q2 : b ∉ fs := fun z => q (.inr z)
    have : b ∈ hid := List.mem_filter.mpr ⟨List.mem_range.mpr (Heap.lt_size e1), by simp [q1, q2]⟩
    rw [hideAll_none _ this] at e; cases e
  have see : ∀ b o, s.heap.get? b = some o → ((X.h₀.get? b).isSome = true ∨ b ∈ fs) → (hideAll s.heap hid).get? b = some o := by
    intro b o e q
    refine hideAll_get _ e ?_
    intro z
    have := (List.mem_filter.mp z).2
    rcases q with q | q
    · simp [q] at this
    · simp [q] at this
  have S : Sub X (hideAll s.heap hid) := fun b o e => see b o (r.H.base b o e) (.inl (by rw [e]; rfl))
  have out : ∀ b, X.h₀.get? b = none → st.hp b = none → (hideAll s.heap hid).get? b = none := by
    intro b e1 e2
    cases q : (hideAll s.heap hid).get? b with
    | none => rfl
    | some o =>
      rcases (vis b o q).2 with z | z
      · rw [e1] at z; cases z
      · obtain ⟨ob, z⟩ := hf b z; rw [e2] at z; cases z
  refine ⟨_, S, ?_, r.ok, ⟨fun b o e => (vis b o e).1, fun b o e => ?_, fun a o e => ?_⟩, ⟨r.L.ns, r.L.var, fun x c e => ⟨(r.L.cell x c e).1, Hp.cut_none (r.L.cell x c e).2⟩, fun b hb => ?_⟩, fun b hb => ?_⟩
  · intro b hb ob e
    exact see b ob (r.H.own b _ e).1 (.inr hb)
  · rcases (vis b o e).2 with z | z
    · obtain ⟨o', z⟩ := Option.isSome_iff_exists.mp z
      exact Hp.cut_none (r.H.bfree b o' z)
    · show (if b ∈ fs then none else st.hp b) = none
      rw [if_pos z]
  · exact (r.H.own a o (Hp.cut_some e).2).to
  · obtain ⟨a, c, d⟩ := r.L.pv b hb
    exact ⟨Hp.cut_none a, out b c a, d⟩
  · obtain ⟨a, c, d⟩ := r.fr b hb
    exact ⟨Hp.cut_none a, out b c a, d⟩
theorem Ev.uncut {pv fr : List Addr} {hp hp' : Hp} {s s' : Shared} {fs : List Addr} (x : Ev pv fr (hp.cut fs) s hp' s') : Ev pv fr hp s hp' s' :=
  ⟨fun b o e n => x.keep b o e (Hp.cut_none n), fun b o e n => x.slots b o e (Hp.cut_none n), fun b o e n => x.sub b o e (Hp.cut_none n), x.alive, x.rest⟩
noncomputable def sSwitch (X : Cx) (Ws : Cx → WS) : WS := fun st P => ∃ fs : List Addr, (∀ b ∈ fs, ∃ ob, st.hp b = some (.raw ob)) ∧ ∀ h, Sub X h → (∀ b ∈ fs, ∀ ob, st.hp b = some (.raw ob) → h.get? b = some ob) → Ws (X.on h) ⟨st.lo, st.hp.cut fs⟩ P
theorem m_switch {cs : List Stmt} {Ws : Cx → WS} (hs : ∀ h, Sub X h → SL (X.on h) A F cs (Ws (X.on h))) : SL X A F cs (sSwitch X Ws) := by
  rintro st s r P ⟨fs, hf, hP⟩ Q E k
  obtain ⟨h, S, hv, r'⟩ := r.switch fs hf
  exact hs h S _ s r' P (hP h S hv) Q E fun f st' rf s' r'' ev hf' hp => k f st' rf s' (r''.back S) ev.uncut hf' hp
structure CloAt (X : Cx) (f : Addr) (fd : FuncData) (body : List Stmt) (x : Str) (c wa : Addr) : Prop where
  at0 : ∃ o, X.h₀.get? f = some o ∧ o.data = .func fd
  lim : X.h₀.NoLimit
  code : X.h₀.CodeRec fd.code fd.qualname
  body : fd.body = .stmts body
  clo : fd.closure = [(x, c)]
  glob : fd.globals = mainGlobals
  blt : fd.builtins = builtinsNs
  kind : fd.scope.kind = .function
  co : fd.scope.isCoroutine = false
  gen : fd.scope.isGenerator = false
  cell : X.h₀.IsCell c (some (.ref wa))
  free : fd.scope.names.lookup x = some .free
  nocell : ∀ y ∈ fd.scope.names, y.2 ≠ .cell
noncomputable def cloFx (fd : FuncData) (f : Addr) (nm : List Str) (fr : List Addr) (L : Addr) : Fx := ⟨newEnv fd.scope L fd.globals fd.closure (fd.qualname ++ ".<locals>.") (some f) fd.code none fd.builtins, nm, [L], L :: fr⟩
theorem zip_rev : ∀ {ps : List Str} {rvs : List Value} {i : Nat} {x : Str} {v : Value}, ps.Nodup → ps[i]? = some x → rvs[i]? = some v → (ps.zip rvs).reverse.lookup x = some v := by
  have none_of : ∀ {l : List (Str × Value)} {x : Str}, (∀ p ∈ l, p.1 ≠ x) → l.lookup x = none := by
    intro l
    induction l with
    | nil => intro x _; rfl
    | cons p l ih =>
      intro x h
      obtain ⟨a, b⟩ := p
      have : (x == a) = false := beq_eq_false_iff_ne.mpr (Ne.symm (h (a, b) (by simp)))
      rw [List.lookup_cons, this]
      exact ih fun q hq => h q (List.mem_cons_of_mem _ hq)
  have app : ∀ {l m : List (Str × Value)} {x : Str}, (l ++ m).lookup x = (l.lookup x).or (m.lookup x) := by
    intro l m x
    induction l with
    | nil => simp
    | cons p l ih =>
      obtain ⟨a, b⟩ := p
      rw [List.cons_append, List.lookup_cons, List.lookup_cons, ih]
      cases (x == a) <;> simp
  intro ps
  induction ps with
  | nil => intro rvs i x v _ h; simp at h
  | cons p ps ih =>
    intro rvs i x v hn hx hv
    cases rvs with
    | nil => simp at hv
    | cons r rvs =>
      have hn' := List.nodup_cons.mp hn
      rw [List.zip_cons_cons, List.reverse_cons, app]
      cases i with
      | zero =>
        simp at hx hv; subst hx; subst hv
        rw [none_of]
        · simp [List.lookup]
        · intro q hq e
          have := (List.of_mem_zip (a := q.1) (b := q.2) (List.mem_reverse.mp hq)).1
          exact hn'.1 (e ▸ this)
      | succ j =>
        simp at hx hv
        rw [ih hn'.2 hx hv]; rfl
end
end Mine
end

noncomputable section
open PySem PySem.W PyProof.Rows
set_option maxHeartbeats 1000000
namespace Mine
theorem sf_clo {X : Cx} {f : Addr} {fd : FuncData} {body : List Stmt} {x : Str} {c wa : Addr} (N : CloAt X f fd body x c wa) {nm ps : List Str} {d n j : Nat} {W : WS} (hnm : nm.Nodup) (hps : ps.Nodup) (hpn : nm.take ps.length = ps) (hn : ps.length = n) (hj : nm[j]? = some x)
    (hl : ∀ y ∈ ps, fd.scope.names.lookup y = some .local) (hbind : ∀ vs : List Value, vs.length = n → bindArgs fd ⟨vs, []⟩ = pure (ps.zip vs))
    (hb : ∀ L fr A, AOk A d → AFx A (cloFx fd f nm fr L) → SL X A (cloFx fd f nm fr L) body W) :
    SF X f (d + 1) (fun args hp P => args.length = n ∧ W ⟨fun i => if i = j then some (.ref wa) else args[i]?, hp⟩ (finW P)) := by
  rintro A fr hA hF hp s H O args vs hv P ⟨hlen, hW⟩ R0 h
  obtain ⟨o, ho, hd⟩ := N.at0
  have hroom : A.depth < recursionLimit := by have := hA.depth; show A.depth < 1000; omega
  have hcd : s.heap.CodeRec fd.code fd.qualname := N.code.keeps H.base
  refine codeAny_call_function hroom (H.base _ _ ho) hd N.co N.gen N.body hcd ?_
  rw [hbind vs (hv.length.trans hlen)]
  refine wpAny_pure ?_
  refine wpAny_newFunctionEnv N.nocell (fun y hy => hl y.1 (List.of_mem_zip (a := y.1) (b := y.2) hy).1) (fun h' hns hsb => ?_) N.kind
  have keep : ∀ b o, s.heap.get? b = some o → h'.get? b = some o := fun b o e => (hsb.2 b (Nat.ne_of_lt (Heap.lt_size e))).trans (Heap.get?_push_of_some _ e)
  have tk : TK s.heap h' := fun b i n t => keep b _ t
  have hcl : ∀ y c', (cloFx fd f nm fr s.heap.objs.size).env.cells.lookup y = some c' → y = x ∧ c' = c := by
    intro y c' e
    have e : fd.closure.lookup y = some c' := e
    rw [N.clo, List.lookup_cons] at e
    cases q : (y == x) with
    | true => rw [q] at e; exact ⟨beq_iff_eq.mp q, (Option.some.inj e).symm⟩
    | false => rw [q] at e; cases e
  have hc0 : s.heap.IsCell c (some (.ref wa)) := by
    obtain ⟨oc, e, dd⟩ := N.cell
    exact ⟨oc, H.base _ _ e, dd⟩
  have hcl' : h'.IsCell c (some (.ref wa)) := by
    obtain ⟨oc, e, dd⟩ := hc0
    exact ⟨oc, keep _ _ e, dd⟩
  have hcp : hp c = none := by
    obtain ⟨oc, e, dd⟩ := N.cell
    exact H.bfree _ _ e
  have cne : c ≠ s.heap.objs.size := by
    obtain ⟨oc, e, dd⟩ := hc0
    exact Nat.ne_of_lt (Heap.lt_size e)
  have r : R X (cloFx fd f nm fr s.heap.objs.size) ⟨fun i => if i = j then some (.ref wa) else args[i]?, hp⟩ { s with heap := h', toks := s.toks + (ps.zip vs).length } := by
    refine ⟨⟨N.kind, N.glob, N.blt, hnm, by simp [cloFx, newEnv], fun y z c' h1 h2 => ?_, fun y c' h1 => ?_⟩, (H.keeps (s' := { s with heap := h', toks := s.toks + (ps.zip vs).length }) keep), ⟨⟨_, hns⟩, fun i y v hi hvv => ?_, fun y c' h1 => ?_, fun b hb => ?_⟩, fun b hb => ?_⟩
    · rw [(hcl y c' h1).1, (hcl z c' h2).1]
    · rw [(hcl y c' h1).2]; exact cne
    · have hvv : (if i = j then some (.ref wa) else args[i]?) = some v := hvv
      by_cases e : i = j
      · subst e
        rw [if_pos rfl] at hvv
        cases hvv
        have hi : nm[i]? = some y := hi
        rw [hj] at hi
        cases hi
        refine ⟨.ref wa, ?_, .mkRef _ _⟩
        have hk : (cloFx fd f nm fr s.heap.objs.size).env.kindOf x = some .free := N.free
        unfold VarAt
        rw [hk]
        refine ⟨c, ?_, hcl'⟩
        show fd.closure.lookup x = some c
        rw [N.clo]; simp [List.lookup]
      · rw [if_neg e] at hvv
        obtain ⟨hil, _⟩ := List.getElem?_eq_some_iff.mp hvv
        obtain ⟨rv, e1, e2⟩ := hv.get hvv
        have hpi : ps[i]? = some y := by
          rw [← hpn, List.getElem?_take, if_pos (by omega)]; exact hi
        refine ⟨rv, ?_, e2.mono tk⟩
        have hk : (cloFx fd f nm fr s.heap.objs.size).env.kindOf y = some .local := hl y (List.mem_of_getElem? hpi)
        unfold VarAt
        rw [hk]
        exact ⟨_, hns, zip_rev hps hpi e1⟩
    · rw [(hcl y c' h1).2]; exact ⟨⟨_, hcl'⟩, hcp⟩
    · have : b = s.heap.objs.size := by simpa [cloFx] using hb
      subst this
      exact ⟨H.newFree (Nat.le_refl _), H.newBase (Nat.le_refl _), ns_not hns⟩
    · rcases List.mem_cons.mp hb with rfl | hb
      · obtain ⟨o, es, ep, e, d, _⟩ := hns
        exact ⟨H.newFree (Nat.le_refl _), H.newBase (Nat.le_refl _), o, es, ep, e, d⟩
      · obtain ⟨n, n0, o, es, ep, e, d⟩ := O b hb
        exact ⟨n, n0, o, es, ep, keep b o e, d⟩
  have ev2 : Ev [] [] hp s hp { s with heap := h', toks := s.toks + (ps.zip vs).length } := .keeps keep ⟨_, _, rfl⟩
  refine ⟨(N.lim.keeps H.base).keeps keep, codeAny_func ?_⟩
  refine hb _ fr _ (hA.deeper _) (hF.deeperX N.kind rfl rfl) _ _ r _ hW _ _ fun fl st' rf s3 r3 ev3 hf hp3 => ?_
  have ev3' : Ev [] fr hp s st'.hp s3 := by
    have e3 := ev2.weaken.trans ev3
    have np : ∀ b o, s.heap.get? b = some o → b ∉ (cloFx fd f nm fr s.heap.objs.size).pv := by
      intro b o e hb
      have : b = s.heap.objs.size := by simpa [cloFx] using hb
      subst this
      rw [get_size] at e; cases e
    refine ⟨fun b o e n _ q => e3.keep b o e n (np b o e) fun hb => ?_, fun b o e n _ q => e3.slots b o e n (np b o e) (List.mem_cons_of_mem _ q), e3.sub, e3.alive, e3.rest⟩
    rcases List.mem_cons.mp hb with rfl | hb
    · rw [get_size] at e; cases e
    · exact q hb
  cases fl with
  | next => have hf' : rf = .next := hf; subst hf'; exact h _ _ _ _ r3.H ev3' (.mkNone _) hp3
  | brk => exact hp3.elim
  | cont => exact hp3.elim
  | ret v =>
    obtain ⟨rv, rfl, hvv⟩ := hf
    exact h _ _ _ _ r3.H ev3' hvv hp3
end Mine
end

noncomputable section
open PySem PySem.W PyProof.Rows
set_option maxHeartbeats 1000000
namespace Mine
structure BMk (X : Cx) : Prop where
  at_ : ∃ mg bm ob, X.h₀.Ns mainGlobals mg ∧ mg "__builtins__" = some (.ref bm) ∧ bm ≠ builtinsNs ∧ X.h₀.get? bm = some ob ∧ ob.cls = .type "module" ∧ ob.dict = some builtinsNs ∧ ob.data = .plain
noncomputable def sDef (i : Nat) (P0 : Addr) (qual : Str) (mk : Addr → Obj → Prop) : WS := fun st P => st.hp P0 = some (.raw (tabObj #[])) ∧
  ∀ f c ob oc ps, st.hp f = none → st.hp c = none → f ≠ c → f ≠ P0 → c ≠ P0 → mk c ob → (∃ vs t, oc.data = .fields vs ∧ vs[1]? = some (.str qual t)) →
    P .next ⟨setLo st.lo i (.con (.ref f)), ((st.hp.set P0 (.raw (tabObj ps))).set c (.raw oc)).set f (.raw ob)⟩
section
variable {X : Cx} {A : Around} {F : Fx} {K : Frag}
theorem m_def (BM : BMk X) {name qual : Str} {params : Arguments} {body : List Stmt} {scope : Scope} {pos : Pos} {i : Nat} {P0 cc : Addr} {clos : List (Str × Addr)} (hs : StOk F i name) (hcode : F.env.code = .ref cc) (hC : CodeHd X.h₀ cc P0) (hcl : closureFor scope F.env = pure clos)
    (hd0 : params.defaults = []) (hk0 : params.kw_defaults = []) (ha : annTrees params none F.env = []) (hq : qualnameIn F.env name name = qual) :
    SS X A F (.FunctionDef name params body [] none [] scope none name pos) (sDef i P0 qual fun c ob => ∃ doc pm ctv, ob = fnMade name qual params body scope clos doc pm c ctv) := by
  rintro st s r P ⟨hP0, hP⟩ Q E h
  subst hq
  obtain ⟨mg, bm, bo, g1, g2, g3, g4, g5, g6, g7⟩ := BM.at_
  have gs := g1.keeps r.H.base
  have hp0 := (r.H.own _ _ hP0).1
  have hbase0 : X.h₀.get? P0 = none := by
    cases q : X.h₀.get? P0 with
    | none => rfl
    | some o => rw [r.H.bfree _ _ q] at hP0; cases hP0
  have neP : ∀ {b o}, X.h₀.get? b = some o → b ≠ P0 := by rintro b o e rfl; rw [hbase0] at e; cases e
  have hgP : mainGlobals ≠ P0 := by obtain ⟨o, _, _, e, _⟩ := id g1; exact neP e
  have hbG : bm ≠ mainGlobals := by
    rintro rfl
    obtain ⟨o, es, ep, e, hd, _⟩ := id g1
    rw [e] at g4; cases g4; rw [hd] at g7; cases g7
  refine nestDef_K hd0 hk0 ha ?_
  refine makeFunction_K (mg := mg) (P := P0) (ps := #[]) hcl r.ok.glob gs hcode (hC.keeps r.H.base) hp0 trivial rfl hgP ⟨bm, bo, g2, g3, hbG, neP g4, r.H.base _ _ g4, g5, g6, g7⟩ fun c ctv doc h' tk hx hge hlt hrec htb => ?_
  obtain ⟨c₂, oc, vs, t, e2, hoc, hod, hov⟩ := hrec
  cases e2
  have kp : ∀ b o, s.heap.get? b = some o → b ≠ P0 → (h'.push (fnMade name (qualnameIn F.env name name) params body scope clos doc ((mg "__name__").getD .none) c ctv)).get? b = some o := fun b o e n => Heap.get?_push_of_some _ (hx b o n e)
  have P0c : c ≠ P0 := by rintro rfl; exact absurd (Heap.lt_size hp0) (Nat.not_lt.mpr hge)
  have P0f : h'.objs.size ≠ P0 := by
    intro e
    have := Heap.lt_size htb
    rw [← e] at this
    exact Nat.lt_irrefl _ this
  have fc : h'.objs.size ≠ c := Nat.ne_of_gt hlt
  have hsz : s.heap.objs.size ≤ h'.objs.size := Nat.le_trans hge (Nat.le_of_lt hlt)
  have fn : st.hp h'.objs.size = none := r.H.newFree hsz
  have cn : st.hp c = none := r.H.newFree hge
  have ntO : NotTup oc := by rintro items n rfl; cases hod
  have tk' : TK s.heap (h'.push (fnMade name (qualnameIn F.env name name) params body scope clos doc ((mg "__name__").getD .none) c ctv)) := by
    intro b items n tt
    refine kp b _ tt ?_
    rintro rfl
    rw [r.H.notTup tt] at hP0; cases hP0
  have hown : ∀ a o, (((st.hp.set P0 (.raw (tabObj (#[] ++ #[rawInt pos.line, rawInt pos.col, .ref c])))).set c (.raw oc)).set h'.objs.size (.raw (fnMade name (qualnameIn F.env name name) params body scope clos doc ((mg "__name__").getD .none) c ctv))) a = some o →
      OAt X (h'.push (fnMade name (qualnameIn F.env name name) params body scope clos doc ((mg "__name__").getD .none) c ctv)) a o := by
    intro a o e
    by_cases q1 : a = h'.objs.size
    · subst q1; rw [Hp.set_self] at e; cases e
      exact ⟨Heap.get?_push_size _ rfl, NotTup.of_cls rfl (by simp)⟩
    · rw [Hp.set_ne _ _ q1] at e
      by_cases q2 : a = c
      · subst q2; rw [Hp.set_self] at e; cases e
        exact ⟨Heap.get?_push_of_some _ hoc, ntO⟩
      · rw [Hp.set_ne _ _ q2] at e
        by_cases q3 : a = P0
        · subst q3; rw [Hp.set_self] at e; cases e
          exact ⟨Heap.get?_push_of_some _ htb, NotTup.of_cls rfl (by simp)⟩
        · rw [Hp.set_ne _ _ q3] at e
          exact (r.H.own a o e).keep (fun ob e => kp a ob e q3) tk'
  have hfree : ∀ b, st.hp b = none → b ≠ h'.objs.size → b ≠ c → (((st.hp.set P0 (.raw (tabObj (#[] ++ #[rawInt pos.line, rawInt pos.col, .ref c])))).set c (.raw oc)).set h'.objs.size (.raw (fnMade name (qualnameIn F.env name name) params body scope clos doc ((mg "__name__").getD .none) c ctv))) b = none := by
    intro b e n1 n2
    rw [Hp.set_ne _ _ n1, Hp.set_ne _ _ n2, Hp.set_ne _ _ (by rintro rfl; rw [hP0] at e; cases e)]; exact e
  have lt1 : ∀ b o, s.heap.get? b = some o → b ≠ h'.objs.size ∧ b ≠ c := fun b o e => ⟨Nat.ne_of_lt (Nat.lt_of_lt_of_le (Heap.lt_size e) hsz), Nat.ne_of_lt (Nat.lt_of_lt_of_le (Heap.lt_size e) hge)⟩
  have H1 : RH X (((st.hp.set P0 (.raw (tabObj (#[] ++ #[rawInt pos.line, rawInt pos.col, .ref c])))).set c (.raw oc)).set h'.objs.size (.raw (fnMade name (qualnameIn F.env name name) params body scope clos doc ((mg "__name__").getD .none) c ctv))) { s with heap := h'.push (fnMade name (qualnameIn F.env name name) params body scope clos doc ((mg "__name__").getD .none) c ctv), toks := tk } :=
    ⟨fun b o e => kp b o (r.H.base b o e) (neP e), fun b o e => hfree b (r.H.bfree b o e) (lt1 b o (r.H.base b o e)).1 (lt1 b o (r.H.base b o e)).2, hown⟩
  have ev1 : Ev [] [] st.hp s (((st.hp.set P0 (.raw (tabObj (#[] ++ #[rawInt pos.line, rawInt pos.col, .ref c])))).set c (.raw oc)).set h'.objs.size (.raw (fnMade name (qualnameIn F.env name name) params body scope clos doc ((mg "__name__").getD .none) c ctv))) { s with heap := h'.push (fnMade name (qualnameIn F.env name name) params body scope clos doc ((mg "__name__").getD .none) c ctv), toks := tk } := by
    have kk : ∀ b o, s.heap.get? b = some o → st.hp b = none → (h'.push (fnMade name (qualnameIn F.env name name) params body scope clos doc ((mg "__name__").getD .none) c ctv)).get? b = some o := fun b o e n => kp b o e (by rintro rfl; rw [hP0] at n; cases n)
    refine ⟨fun b o e n _ _ => kk b o e n, fun b o e n _ _ => ⟨o.slots, kk b o e n⟩, fun b o e n => hfree b n (lt1 b o e).1 (lt1 b o e).2, fun b o e => ?_, ⟨_, _, rfl⟩⟩
    by_cases q : b = P0
    · subst q; exact ⟨_, Heap.get?_push_of_some _ htb⟩
    · exact ⟨_, kp b o e q⟩
  have r1 := r.ev ev1 H1
  refine w_store hs r1 (.mkCon _ _) fun s2 r2 ev2 => ?_
  exact h .next _ _ _ r2 (ev1.weaken.trans ev2) rfl (hP _ c _ oc _ fn cn fc P0f P0c ⟨_, _, _, rfl⟩ ⟨vs, t, hod, hov⟩)
end
end Mine
end

noncomputable section
open PySem PySem.W PyProof.Rows
set_option maxHeartbeats 1000000
namespace Mine
noncomputable def finL (k : Nat) (L : Addr) (P : V → Hp → Prop) : Fl → St → Prop
  | .ret v, st => ∃ wa, st.lo k = some (.ref wa) ∧ (st.hp (L + 1) = none → ∀ ob : Obj, ob.data = .cell (some (.ref wa)) → P v (st.hp.set (L + 1) (.raw ob)))
  | _, _ => False
theorem sf_defL {X : Cx} {fd : FuncData} {f : Addr} {body : List Stmt} {nm ps : List Str} {d k : Nat} {x : Str} {Wb : Addr → WS} (N : FnAt X f fd body) (hnm : nm.Nodup) (hps : ps.Nodup) (hpn : ∀ (i : Nat) x, nm[i]? = some x → i < ps.length → ps[i]? = some x)
    (hkind : ∀ L, ∀ x ∈ ps, fd.scope.names.lookup x = some .local ∨ (fd.scope.names.lookup x = some .cell ∧ ((cellsFrom (L + 1) fd.scope.names []).lookup x).isSome = true))
    (hx : nm[k]? = some x) (hkx : fd.scope.names.lookup x = some .cell) (hcx : ∀ L, (cellsFrom (L + 1) fd.scope.names []).lookup x = some (L + 1))
    (hb : ∀ L fr A, AOk A d → AFx A (fnFx fd f nm fr L) → SL X A (fnFx fd f nm fr L) body (Wb L)) :
    SF X f (d + 1) (fun args hp P => ∃ vals, BindS X fd ps args vals ∧ vals.length = ps.length ∧ ∀ L, hp L = none → hp (L + 1) = none → Wb L ⟨fun i => vals[i]?, hp⟩ (finL k L P)) := by
  rintro A fr hA hF hp s H O args vs hv P ⟨vals, B, hlen, hW⟩ R0 h
  obtain ⟨o, ho, hd⟩ := N.at0
  have hroom : A.depth < recursionLimit := by have := hA.depth; show A.depth < 1000; omega
  have hcd : s.heap.CodeRec fd.code fd.qualname := N.code.keeps H.base
  refine codeAny_call_function hroom (H.base _ _ ho) hd N.co N.gen N.body hcd ?_
  refine B A.in1 hp s vs H hv _ _ fun rvs s1 H1 ev1 hv1 => ?_
  rw [N.clo]
  refine wpAny_newFunctionEnv_cells N.kind (fun x hx => hkind _ x.1 (List.of_mem_zip (a := x.1) (b := x.2) hx).1) fun env he s2 I => ?_
  subst he
  obtain ⟨r, ev2⟩ := R.enter (f := f) (nm := nm) (fr := fr) H1 (O.ev ev1) N hnm hps (fun i x hx hi => hpn i x hx (hlen ▸ hi)) hv1 (hkind _) I
  refine ⟨(N.lim.keeps H1.base).keeps I.toInCall.keep, codeAny_func ?_⟩
  refine hb _ fr _ (hA.deeper _) (hF.deeperX N.kind rfl rfl) _ s2 r _ (hW _ (H1.newFree (Nat.le_refl _)) (H1.newFree (Nat.le_succ _))) _ _ fun fl st' rf s3 r3 ev3 hf hp3 => ?_
  have ev3' : Ev [] fr hp s1 st'.hp s3 := by
    have e3 := ev2.weaken.trans ev3
    have np : ∀ b o, s1.heap.get? b = some o → b ∉ (fnFx fd f nm fr s1.heap.objs.size).pv := by
      intro b o e hb
      rcases List.mem_cons.mp hb with rfl | hb
      · rw [get_size] at e; cases e
      · obtain ⟨p, hm, hl⟩ := List.mem_filterMap.mp hb
        have := I.above p.1 b (mem_of_lookup hl)
        exact absurd (Heap.lt_size e) (Nat.not_lt.mpr (Nat.le_of_lt this))
    refine ⟨fun b o e n _ q => e3.keep b o e n (np b o e) fun hb => ?_, fun b o e n _ q => e3.slots b o e n (np b o e) (List.mem_cons_of_mem _ q), e3.sub, e3.alive, e3.rest⟩
    rcases List.mem_cons.mp hb with rfl | hb
    · rw [get_size] at e; cases e
    · exact q hb
  cases fl with
  | next => exact hp3.elim
  | brk => exact hp3.elim
  | cont => exact hp3.elim
  | ret v =>
    obtain ⟨rv, rfl, hvv⟩ := hf
    obtain ⟨wa, hlo, hp3⟩ := hp3
    obtain ⟨rw', hva, hvr⟩ := r3.L.var k x (.ref wa) hx hlo
    have := hvr.unRef
    subst this
    have hk' : (fnFx fd f nm fr s1.heap.objs.size).env.kindOf x = some .cell := hkx
    unfold VarAt at hva
    rw [hk'] at hva
    obtain ⟨c, hc, oc, eo, od⟩ := hva
    have hc : (cellsFrom (s1.heap.objs.size + 1) fd.scope.names []).lookup x = some c := hc
    have hn := (r3.L.cell x c hc).2
    rw [hcx] at hc
    cases hc
    have hb0 : X.h₀.get? (s1.heap.objs.size + 1) = none := H1.newBase (Nat.le_succ _)
    have ne : ∀ b o, s.heap.get? b = some o → b ≠ s1.heap.objs.size + 1 := by
      intro b o e
      obtain ⟨o', e'⟩ := ev1.alive b o e
      have := Heap.lt_size e'
      exact Nat.ne_of_lt (Nat.lt_succ_of_lt this)
    have ev := ev1.weaken.trans ev3'
    refine h _ (st'.hp.set (s1.heap.objs.size + 1) (.raw oc)) _ _ ⟨r3.H.base, fun b o e => ?_, fun a o e => ?_⟩ ⟨ev.keep, ev.slots, fun b o e n => ?_, ev.alive, ev.rest⟩ hvv (hp3 hn oc od)
    · rw [Hp.set_ne _ _ (by rintro rfl; rw [hb0] at e; cases e)]; exact r3.H.bfree b o e
    · by_cases q : a = s1.heap.objs.size + 1
      · subst q; rw [Hp.set_self] at e; cases e
        exact ⟨eo, NotTup.of_cell od⟩
      · rw [Hp.set_ne _ _ q] at e; exact r3.H.own a o e
    · rw [Hp.set_ne _ _ (ne b o e)]; exact ev.sub b o e n
end Mine
end

noncomputable section
open PySem PySem.W PyProof.Rows
set_option maxRecDepth 100000
set_option maxHeartbeats 2000000
namespace Mine
noncomputable def w__law_wheels (X : Cx)  : WS :=
  sCons (sAssign 2 (wDict1 (wInt (5)) (wList (aCons (wList (aNil)) (aCons (wList (aNil)) (aCons (wList (aNil)) (aNil)))))))
  (sCons (sFor (iRange (wInt (5))) (tName 3) (sCons (sAssign 4 (wSub (wLoc 0) (wLoc 3)))
  (sCons (sAssign 5 (wSlice X (wLoc 1) (pSome (wOp .Add (wLoc 3) (wInt (1)))) (pNone) (pNone)))
  (sCons (sComp 6 (compW [none, some 5, some 4] (.list []) (iTup (wTuple (aCons (wInt (1)) (aCons (wInt (5)) (aCons (wInt (25)) (aNil)))))) (tName 0) (bTrue) (addL (wSub (wLoc 1) (wOp .Mod (wOp .FloorDiv (wLoc 2) (wLoc 0)) (wB lenW (wLoc 1)))))))
  (sCons (sAssign 7 (wList (aCons (wSlice X (wLoc 6) (pNone) (pSome (wInt (2))) (pNone)) (aCons (wList (aNil)) (aCons (wSlice X (wLoc 6) (pSome (wInt (2))) (pNone) (pNone)) (aNil))))))
  (sCons (sAssign 8 (wOp .Mod (wOp .FloorDiv (wLoc 4) (wInt (125))) (wInt (3))))
  (sCons (sAssign1 (wOp .Add (wSlice X (wLoc 7) (pSome (wLoc 8)) (pNone) (pNone)) (wSlice X (wLoc 7) (pNone) (pSome (wLoc 8)) (pNone))) (tSub (wLoc 2) (wSub (wLoc 1) (wLoc 3))))
  (sNil))))))))
  (sCons (sRet (wLoc 2))
  (sNil)))

noncomputable def w__law_off_heap (X : Cx) (Wheappush : WF) (Wheappop : WF) : WS :=
  sCons (sSwap2 3 4 (wTuple (aCons (wOp .Mult (wList (aCons (wInt (0)) (aNil))) (wInt (6))) (aCons (wList (aNil)) (aNil)))))
  (sCons (sFor (iEnum (wLoc 1)) (tTup 2 (tsCons (tName 5) (tsCons (tName 6) (tsNil)))) (sCons (sExpr (wCall Wheappush (aCons (wLoc 4) (aCons (wTuple (aCons (wOp .Mod (wOp .Mult (wLoc 5) (wLoc 2)) (wInt (7))) (aCons (wLoc 5) (aCons (wLoc 6) (aNil))))) (aNil)))))
  (sNil)))
  (sCons (sAssign 7 (wB lenW (wLoc 1)))
  (sCons (sWhile (bVal (wLoc 4)) (sCons (sAssign1 (wCall Wheappop (aCons (wLoc 4) (aNil))) (tTup 3 (tsCons (tName 8) (tsCons (tName 5) (tsCons (tName 6) (tsNil))))))
  (sCons (sFor (iList (wSub (wSub (wLoc 0) (wLoc 6)) (wOp .Mod (wSub (wLoc 3) (wLoc 6)) (wInt (3))))) (tName 9) (sCons (sExpr (wCall Wheappush (aCons (wLoc 4) (aCons (wTuple (aCons (wOp .Mod (wOp .Mult (wLoc 7) (wLoc 2)) (wInt (7))) (aCons (wLoc 7) (aCons (wLoc 9) (aNil))))) (aNil)))))
  (sCons (sAug 7 .Add (wInt (1)))
  (sNil))))
  (sCons (sAugSub .Add (wLoc 3) (wLoc 6) (wInt (1)))
  (sNil)))))
  (sCons (sRet (wLoc 3))
  (sNil)))))

noncomputable def w__law_place_by_place (X : Cx) (Wts_is_active : WF) (Wts_get_ready : WF) (Wts_done : WF) (Wts_prepare : WF) (Wts_add : WF) (Wts_init : WF) : WS :=
  sCons (sAssign 2 (wNew0 137 Wts_init))
  (sCons (sFor (iRange (wInt (6))) (tName 3) (sCons (sFor (iList (wSub (wLoc 0) (wLoc 3))) (tName 4) (sCons (sFor (iList (wLoc 4)) (tName 5) (sCons (sExpr (wMeth 137 "add" Wts_add (wLoc 2) (aCons (wLoc 5) (aCons (wLoc 3) (aNil)))))
  (sNil)))
  (sNil)))
  (sCons (sExpr (wMeth 137 "add" Wts_add (wLoc 2) (aCons (wLoc 3) (aNil))))
  (sNil))))
  (sCons (sExpr (wMeth0 137 "prepare" Wts_prepare (wLoc 2)))
  (sCons (sSwap2 6 7 (wTuple (aCons (wOp .Mult (wList (aCons (wInt (0)) (aNil))) (wInt (6))) (aCons (compW [none, some 1] (.list []) (iRange (wInt (6))) (tName 0) (bTrue) (addL (wCount (wLoc 1) (wLoc 0)))) (aNil)))))
  (sCons (sWhile (bVal (wMeth0 137 "is_active" Wts_is_active (wLoc 2))) (sCons (sFor (iTup (wMeth0 137 "get_ready" Wts_get_ready (wLoc 2))) (tName 3) (sCons (sWhile (bCmp X .Gt (wSub (wLoc 7) (wLoc 3)) (wInt (0))) (sCons (sFor (iList (wSub (wSub (wLoc 0) (wLoc 3)) (wOp .Mod (wSub (wLoc 6) (wLoc 3)) (wInt (3))))) (tName 5) (sCons (sAugSub .Add (wLoc 7) (wLoc 5) (wInt (1)))
  (sNil)))
  (sCons (sAugSub .Add (wLoc 6) (wLoc 3) (wInt (1)))
  (sCons (sAugSub .Sub (wLoc 7) (wLoc 3) (wInt (1)))
  (sNil)))))
  (sCons (sExpr (wMeth 137 "done" Wts_done (wLoc 2) (aCons (wLoc 3) (aNil))))
  (sNil))))
  (sNil)))
  (sCons (sRet (wTuple (aCons (wLoc 6) (aCons (wLoc 7) (aNil)))))
  (sNil))))))

noncomputable def w2__law_due (X : Cx)  : WS :=
  sCons (sAssign 2 (wOp .Mult (wList (aCons (wInt (0)) (aNil))) (wInt (6))))
  (sCons (sFor (iRange (wInt (6))) (tName 3) (sCons (sComp 4 (compW [none, some 1] (.list []) (iRange (wInt (6))) (tName 0) (bTrue) (addL (wCount (wLoc 1) (wLoc 0)))))
  (sCons (sFor (iRange (wInt (6))) (tName 5) (sCons (sFor (iRange (wInt (3))) (tName 6) (sCons (sFor (iList (wSub (wSub (wLoc 0) (wLoc 5)) (wLoc 6))) (tName 7) (sCons (sAugSub .Add (wLoc 4) (wLoc 7) (wOp .FloorDiv (wOp .Sub (wOp .Add (wSub (wLoc 2) (wLoc 5)) (wInt (2))) (wLoc 6)) (wInt (3))))
  (sNil)))
  (sNil)))
  (sNil)))
  (sCons (sAssign 2 (wLoc 4))
  (sNil)))))
  (sCons (sRet (wLoc 2))
  (sNil)))
end Mine
end

noncomputable section
open PySem PySem.W PyProof.Rows
set_option maxHeartbeats 2000000
namespace Mine
structure WhAt (cg : Cogs) (hp : Hp) (d : Addr) (wa : Nat → Addr) (ca : Nat → Nat → Addr) : Prop where
  dict : ∃ kvs ep, hp d = some (.dict kvs ep) ∧ ∀ p, p < 6 → kvs.lookup ((p : Nat) : Int) = some (.ref (wa p))
  whl : ∀ p, p < 6 → hp (wa p) = some (.list [.ref (ca p 0), .ref (ca p 1), .ref (ca p 2)])
  cog : ∀ p, p < 6 → ∀ k, k < 3 → hp (ca p k) = some (.list (intN (cg p k)))
theorem WhAt.ext {cg : Cogs} {hp hp' : Hp} {d : Addr} {wa : Nat → Addr} {ca : Nat → Nat → Addr} (w : WhAt cg hp d wa ca) (x : Ext hp hp') : WhAt cg hp' d wa ca :=
  ⟨let ⟨kvs, ep, h, l⟩ := w.dict; ⟨kvs, ep, x _ _ h, l⟩, fun p hp => x _ _ (w.whl p hp), fun p hp k hk => x _ _ (w.cog p hp k hk)⟩
theorem WhAt.get {cg : Cogs} {hp : Hp} {d : Addr} {wa : Nat → Addr} {ca : Nat → Nat → Addr} (w : WhAt cg hp d wa ca) {p : Nat} (h : p < 6) : GetR hp (.ref d) (.int (p : Nat)) (.ref (wa p)) :=
  let ⟨_, _, e, l⟩ := w.dict; .dict e (l p h)
theorem WhAt.getk {cg : Cogs} {hp : Hp} {d : Addr} {wa : Nat → Addr} {ca : Nat → Nat → Addr} (w : WhAt cg hp d wa ca) {p k : Nat} (h : p < 6) (hk : k < 3) : GetR hp (.ref (wa p)) (.int (k : Nat)) (.ref (ca p k)) := by
  refine .list (w.whl p h) (by omega) (by omega) ?_
  have : k = 0 ∨ k = 1 ∨ k = 2 := by omega
  rcases this with rfl | rfl | rfl <;> rfl
noncomputable def sixV (s : Nat → Nat) : List V := (List.range 6).map fun (q : Nat) => .int (s q : Nat)
theorem zeros6 : (List.replicate (6 : Int).toNat [V.int 0]).flatten = sixV fun _ => 0 := rfl
theorem sixV_len (s : Nat → Nat) : (sixV s).length = 6 := rfl
theorem sixV_get (s : Nat → Nat) {q : Nat} (h : q < 6) : (sixV s)[((q : Nat) : Int).toNat]? = some (.int (s q : Nat)) := by
  rw [Int.toNat_natCast]; unfold sixV
  rw [List.getElem?_map, List.getElem?_range h]; rfl
theorem sixV_set (s : Nat → Nat) (p : Nat) (v : Nat) : (sixV s).set ((p : Nat) : Int).toNat (.int (v : Nat)) = sixV (fup s p v) := by
  rw [Int.toNat_natCast]; unfold sixV
  refine List.ext_getElem (by simp) fun i h1 h2 => ?_
  rw [List.getElem_set, List.getElem_map, List.getElem_map, List.getElem_range]
  by_cases e : p = i
  · subst e; rw [if_pos rfl, fup_self]
  · rw [if_neg e, fup_ne _ _ (Ne.symm e)]
theorem sixV_congr {s s' : Nat → Nat} (h : ∀ q, q < 6 → s q = s' q) : sixV s = sixV s' := by
  unfold sixV
  refine List.map_congr_left fun q hq => ?_
  rw [h q (List.mem_range.mp hq)]
theorem mod3 (c : Nat) : ((c : Nat) : Int) % 3 = ((c % 3 : Nat) : Int) := by omega
theorem intN_app (l m : List Nat) : intN (l ++ m) = intN l ++ intN m := by simp [intN]
theorem aug6 {st : St} {P : Fl → St → Prop} {op : Operator} {i j : Nat} {c : Addr} {s : Nat → Nat} {p v : Nat} {W3 : WE} (l1 : st.lo i = some (.ref c)) (l2 : st.lo j = some (.int (p : Nat))) (hc : st.hp c = some (.list (sixV s))) (hp : p < 6)
    (h3 : ∀ K : V → St → Prop, (∀ b : Int, (iopW op (.int (s p : Nat)) (.int b) st.hp = fun Q => Q (.int (v : Nat)) st.hp) → K (.int b) st) → W3 st K)
    (k : P .next (st.setH c (.list (sixV (fup s p v))))) : sAugSub op (wLoc i) (wLoc j) W3 st P := by
  dsimp only [sAugSub, wLoc]
  refine ⟨_, l1, _, l2, c, sixV s, p, .int (s p : Nat), rfl, rfl, hc, by omega, by omega, sixV_get s hp, h3 _ fun b hb => ?_⟩
  rw [hb]
  refine ⟨c, _, .list hc (by omega) (by rw [sixV_len]; omega) (by rw [sixV_len]; omega), ?_⟩
  rintro _ rfl
  rw [sixV_set]; exact k
theorem aug6_one {st : St} {P : Fl → St → Prop} {i j : Nat} {c : Addr} {s : Nat → Nat} {p : Nat} (l1 : st.lo i = some (.ref c)) (l2 : st.lo j = some (.int (p : Nat))) (hc : st.hp c = some (.list (sixV s))) (hp : p < 6)
    (k : P .next (st.setH c (.list (sixV (fup s p (s p + 1)))))) : sAugSub .Add (wLoc i) (wLoc j) (wInt 1) st P :=
  aug6 l1 l2 hc hp (fun K h => h 1 rfl) k
noncomputable def w_letter : WS :=
  sCons (sSwap2 2 3 (wTuple (aCons (wB listW (wLoc 0)) (aCons (wList (aCons (wLoc 1) (aNil))) (aNil)))))
  (sCons (sWhile (bVal (wLoc 3)) (sCons (sAssign 4 (wPop (wLoc 3)))
  (sCons (sAug 3 .Add (wSub (wSub (wLoc 5) (wLoc 4)) (wOp .Mod (wSub (wLoc 2) (wLoc 4)) (wInt (3)))))
  (sCons (sAugSub .Add (wLoc 2) (wLoc 4) (wInt (1)))
  (sNil)))))
  (sCons (sRet (wLoc 2))
  (sNil)))
noncomputable def letterW (d : Addr) : WF := fun args hp P => ∃ (sv : Addr) (p : Nat) (s M rest : Nat → Nat) (cg : Cogs) (rk : Nat → Nat) (wa : Nat → Addr) (ca : Nat → Nat → Addr), args = [.ref sv, .int (p : Nat)] ∧ hp sv = some (.list (sixV s)) ∧ WhAt cg hp d wa ca ∧ Wh cg rk ∧ p < 6 ∧
    Bal cg M s (fun q => [p].count q + rest q) ∧ ∀ c s' hp', Ext hp hp' → hp c = none → hp' c = some (.list (sixV s')) → Bal cg M s' rest → P (.ref c) hp'
theorem step_count {a b : List Nat} {p q : Nat} (r : Nat) : (a ++ b).count q + r + (if q = p then 1 else 0) = (a ++ [p]).count q + r + b.count q := by
  rw [List.count_append, List.count_append, List.count_singleton]
  by_cases e : q = p
  · subst e; simp; omega
  · have : (p == q) = false := by simp; exact fun h => e h.symm
    rw [if_neg e, this]; simp; omega
theorem letter_ok {X : Cx} {d : Addr} (args : List V) (hp : Hp) (P : V → Hp → Prop) (h : letterW d args hp P) : args.length = 2 ∧ w_letter ⟨fun i => if i = 5 then some (.ref d) else args[i]?, hp⟩ (finW P) := by
  obtain ⟨sv, p, s, M, rest, cg, rk, wa, ca, rfl, hs, wh, W, hp6, B, k⟩ := h
  refine ⟨rfl, ?_⟩
  unfold w_letter
  dsimp only [sCons, sSwap2, wTuple, aCons, aNil, wB, listW, wList, wLoc]
  refine ⟨_, rfl, sv, _, rfl, hs, by rw [sixV_len]; omega, ?_⟩
  intro c hc
  refine ⟨_, rfl, by simp, ?_⟩
  intro pl hpl
  refine ⟨by simp, _, _, rfl, ?_⟩
  obtain ⟨npc, hpl⟩ := fresh_set (show (hp.set c _) pl = none from hpl)
  have x1 : Ext hp ((hp.set c (.list (sixV s))).set pl (.list [.int (p : Nat)])) := ((Ext.refl hp).upd hc).upd hpl
  dsimp only [sWhile]
  refine ⟨fun n st => ∃ s' pile, n = wgt rk pile ∧ wgt rk pile ≤ 729 ∧ (∀ o ∈ pile, o < 6) ∧ st.lo 2 = some (.ref c) ∧ st.lo 3 = some (.ref pl) ∧ st.lo 5 = some (.ref d) ∧ Ext hp st.hp ∧ st.hp c = some (.list (sixV s')) ∧ st.hp pl = some (.list (intN pile)) ∧ Bal cg M s' (fun q => pile.count q + rest q), ⟨_, s, [p], rfl, by have := wgt_letters rk [p]; rwa [List.length_singleton, Nat.one_mul] at this, by simpa using hp6, rfl, rfl, rfl, x1, set_keep' (Hp.set_self _ _ _) npc.symm, Hp.set_self _ _ _, B⟩, ?_⟩
  rintro n st ⟨s', pile, rfl, hw, hlt, l2, l3, l5, x, hc', hpl', B'⟩
  have hlen := wgt_len rk pile
  dsimp only [bVal, wLoc]
  refine ⟨_, l3, _, .list hpl' (by rw [intN_len]; omega), ?_⟩
  rcases List.eq_nil_or_concat pile with rfl | ⟨pile, o, rfl⟩
  · refine ⟨_, l2, k c s' st.hp x hc hc' fun q hq => ?_⟩
    have := B' q hq
    simpa using this
  · rw [List.concat_eq_append] at *
    have ho : o < 6 := hlt o (by simp)
    have hk : s' o % 3 < 3 := Nat.mod_lt _ (by omega)
    have ew : wgt rk (pile ++ [o]) = wgt rk pile + 3 ^ (6 - rk o) := by rw [wgt_app, wgt_cons, wgt_nil]; rfl
    have hless := W.less ho hk
    rw [intN_app] at hpl' ⊢
    rw [List.length_append] at hlen
    have ne : (intN pile ++ intN [o]).isEmpty = false := by simp [intN]
    rw [ne]
    refine ite_t ?_
    dsimp only [sCons, sAssign, wPop, wLoc]
    refine ⟨_, l3, pl, intN pile, .int (o : Nat), rfl, hpl', by rw [intN_len]; omega, ?_⟩
    dsimp only [sAug, wSub, wLoc, wOp, wInt, binW, binI]
    have ncp : c ≠ pl := by rintro rfl; exact npc rfl
    have wh2 := wh.ext (x.upd (o := .list (intN pile)) hpl)
    have hc2 : (st.hp.set pl (.list (intN pile))) c = some (.list (sixV s')) := set_keep' hc' ncp
    refine ⟨_, l3, _, l5, _, rfl, _, wh2.get ho, _, l2, _, rfl, _, .list hc2 (by omega) (by omega) (sixV_get s' ho), by omega, .ref (ca o (s' o % 3)), by rw [mod3]; exact wh2.getk ho hk, ?_⟩
    refine ⟨intN pile, _, Hp.set_self _ _ _, wh2.cog o ho _ hk, ?_, ?_⟩
    · have := wgt_len rk (cg o (s' o % 3))
      rw [intN_len, intN_len]; omega
    refine aug6_one (p := o) l2 rfl (set_keep' hc2 ncp) ho ?_
    refine ⟨wgt rk (pile ++ cg o (s' o % 3)), by rw [wgt_app, ew]; omega, fup s' o (s' o + 1), _, rfl, by rw [wgt_app]; omega, ?_, l2, rfl, l5, ((x.upd hpl).upd hpl).upd hc, Hp.set_self _ _ _, ?_, ?_⟩
    · intro q hq
      rcases List.mem_append.mp hq with h | h
      · exact hlt q (by simp [h])
      · exact (W.up o ho _ hk q h).1
    · rw [intN_app]; exact set_keep' (Hp.set_self _ _ _) ncp.symm
    · exact B'.step ho fun q hq => step_count _
end Mine
end

noncomputable section
open PySem PySem.W PyProof.Rows
set_option maxHeartbeats 2000000
namespace Mine
theorem count_ints (q : Nat) : ∀ ls : List Nat, (ls.map fun (m : Nat) => (m : Int)).count (q : Int) = ls.count q
  | [] => rfl
  | a :: ls => by
    rw [List.map_cons, List.count_cons, List.count_cons, count_ints q ls]
    congr 1
    have : (((a : Nat) : Int) == (q : Int)) = (a == q) := by rw [Bool.eq_iff_iff]; simp; omega
    rw [this]
noncomputable def w_cnt : WE := compW [none, some 1] (.list []) (iRange (wInt (6))) (tName 0) (bTrue) (addL (wCount (wLoc 1) (wLoc 0)))
theorem cnt_ok {st : St} {l : Addr} {ls : List Nat} {Q : V → St → Prop} (l1 : st.lo 1 = some (.ref l)) (hl : st.hp l = some (.list (intN ls)))
    (k : ∀ c hp', Ext st.hp hp' → st.hp c = none → hp' c = some (.list (sixV fun q => ls.count q)) → Q (.ref c) ⟨st.lo, hp'⟩) : w_cnt st Q := by
  unfold w_cnt
  refine comp_map (rangeSrc 6) st (rangeV 6) (fun v => .int (ls.count (natOf v) : Nat)) (fun lo => lo 1 = some (.ref l)) (fun K h => ⟨6, rfl, by omega, by omega, h⟩) (fun _ _ => rfl) (fun _ _ => rfl) (fun i _ _ => rangeV_get 6 i) (by simp [rangeV]) l1 (fun lo v h => h) ?_ ?_
  · rintro v lo hp' hv x l1 l0 Q hQ
    obtain ⟨q, hq, rfl⟩ := mem_rangeV hv
    dsimp only [wCount, wLoc]
    refine ⟨_, l1, l, rfl, ⟨_, x _ _ hl⟩, _, l0, ls.map fun (m : Nat) => (m : Int), q, ?_, rfl, ?_⟩
    · rw [List.map_map]; exact x _ _ hl
    · rw [count_ints]; exact hQ hp' x
  · intro hp' D x hD
    refine k D _ (x.new hD) (x.free hD) (Hp.set_self _ _ _)
theorem aug6_add {st : St} {P : Fl → St → Prop} {i j : Nat} {c : Addr} {s : Nat → Nat} {p v : Nat} {W3 : WE} (l1 : st.lo i = some (.ref c)) (l2 : st.lo j = some (.int (p : Nat))) (hc : st.hp c = some (.list (sixV s))) (hp : p < 6)
    (h3 : ∀ K : V → St → Prop, (∀ b : Int, ((s p : Nat) : Int) + b = (v : Nat) → K (.int b) st) → W3 st K)
    (k : P .next (st.setH c (.list (sixV (fup s p v))))) : sAugSub .Add (wLoc i) (wLoc j) W3 st P :=
  aug6 l1 l2 hc hp (fun K h => h3 K fun b hb => h b (by rw [← hb]; rfl)) k
theorem gotT_one (cg : Cogs) (s : Nat → Nat) (q i : Nat) : gotT cg s q (i + 1) = gotT cg s q i + sentT cg q i (s i) 3 := rfl
theorem sentT_one (cg : Cogs) (q p c k : Nat) : sentT cg q p c (k + 1) = sentT cg q p c k + (cg p k).count q * ((c + 2 - k) / 3) := rfl
noncomputable def due2W : WF := fun args hp P => ∃ (d l : Addr) (ls : List Nat) (cg : Cogs) (rk : Nat → Nat) (wa : Nat → Addr) (ca : Nat → Nat → Addr), args = [.ref d, .ref l] ∧ hp l = some (.list (intN ls)) ∧ WhAt cg hp d wa ca ∧ Wh cg rk ∧
    ∀ c hp', Ext hp hp' → hp c = none → hp' c = some (.list (sixV (dueT cg (fun q => ls.count q) 6))) → P (.ref c) hp'
structure DU (hp : Hp) (d l a b : Addr) (s f : Nat → Nat) (st : St) : Prop where
  e0 : st.lo 0 = some (.ref d)
  e1 : st.lo 1 = some (.ref l)
  e2 : st.lo 2 = some (.ref a)
  e4 : st.lo 4 = some (.ref b)
  x : Ext hp st.hp
  fa : hp a = none
  fb : hp b = none
  ne : a ≠ b
  ha : st.hp a = some (.list (sixV s))
  hb : ∃ g, st.hp b = some (.list (sixV g)) ∧ ∀ q, q < 6 → g q = f q
theorem DU.cong {hp : Hp} {d l a b : Addr} {s f f' : Nat → Nat} {st : St} (D : DU hp d l a b s f st) (h : ∀ q, f q = f' q) : DU hp d l a b s f' st :=
  ⟨D.e0, D.e1, D.e2, D.e4, D.x, D.fa, D.fb, D.ne, D.ha, let ⟨g, g1, g2⟩ := D.hb; ⟨g, g1, fun q hq => (g2 q hq).trans (h q)⟩⟩
theorem due2_ok {X : Cx} (args : List V) (hp : Hp) (P : V → Hp → Prop) (h : due2W args hp P) : posW 2 (w2__law_due X) args hp P := by
  obtain ⟨d, l, ls, cg, rk, wa, ca, rfl, hl, wh, W, k⟩ := h
  refine ⟨rfl, ?_⟩
  unfold w2__law_due
  dsimp only [sCons, sAssign, wOp, wList, aCons, aNil, wInt, binW]
  refine ⟨by simp, ?_⟩
  intro a0 h0
  refine ⟨rfl, _, Hp.set_self _ _ _, by simp, by omega, by omega, ?_⟩
  intro a ha
  obtain ⟨_, ha⟩ := fresh_set (show (hp.set a0 _) a = none from ha)
  have h0 : hp a0 = none := h0
  rw [zeros6]
  refine sFor_run (rangeSrc 6) _ (rangeV 6) (fun i st => st.lo 0 = some (.ref d) ∧ st.lo 1 = some (.ref l) ∧ Ext hp st.hp ∧ ∃ a, st.lo 2 = some (.ref a) ∧ hp a = none ∧ ∃ g, st.hp a = some (.list (sixV g)) ∧ ∀ q, q < 6 → g q = dueT cg (fun q => ls.count q) i q) (fun K h => ⟨6, rfl, by omega, by omega, h⟩) (fun _ _ => rfl) (fun _ _ => rfl) (fun i _ _ => rangeV_get 6 i) ?_ ?_ ?_
  · exact ⟨rfl, rfl, ((Ext.refl hp).upd h0).upd ha, a, rfl, ha, _, Hp.set_self _ _ _, fun q _ => rfl⟩
  · rintro i v st ⟨e0, e1, x, a, e2, fa, g, hg, hgq⟩ hv
    dsimp only [tName, sComp]
    refine cnt_ok (l := l) (ls := ls) e1 (x _ _ hl) ?_
    intro b hp1 x1 fb hb
    have x1 : Ext st.hp hp1 := x1
    have fb : st.hp b = none := fb
    have nab : a ≠ b := by rintro rfl; rw [fb] at hg; cases hg
    refine sFor_run (rangeSrc 6) _ (rangeV 6) (fun i st => DU hp d l a b g (fun q => ls.count q + gotT cg g q i) st) (fun K h => ⟨6, rfl, by omega, by omega, h⟩) (fun _ _ => rfl) (fun _ _ => rfl) (fun i _ _ => rangeV_get 6 i) ?_ ?_ ?_
    · exact ⟨e0, e1, e2, rfl, x.trans x1, fa, x.free fb, nab, x1 _ _ hg, _, hb, fun q _ => rfl⟩
    · rintro p v st D hv
      rw [rangeV_get] at hv
      split at hv
      case isFalse => cases hv
      case isTrue h6 =>
      cases hv
      have hp6 : p < 6 := by omega
      dsimp only [tName]
      refine sFor_run (rangeSrc 3) _ (rangeV 3) (fun k st => st.lo 5 = some (.int (p : Nat)) ∧ DU hp d l a b g (fun q => ls.count q + gotT cg g q p + sentT cg q p (g p) k) st) (fun K h => ⟨3, rfl, by omega, by omega, h⟩) (fun _ _ => rfl) (fun _ _ => rfl) (fun i _ _ => rangeV_get 3 i) ?_ ?_ ?_
      · exact ⟨rfl, D.e0, D.e1, D.e2, D.e4, D.x, D.fa, D.fb, D.ne, D.ha, D.hb⟩
      · rintro k v st ⟨e5, D⟩ hv
        rw [rangeV_get] at hv
        split at hv
        case isFalse => cases hv
        case isTrue h3 =>
        cases hv
        have hk : k < 3 := by omega
        dsimp only [tName]
        have wh1 := wh.ext D.x
        refine sFor_run (listSrc (ca p k)) _ (intN (cg p k)) (fun j st => st.lo 5 = some (.int (p : Nat)) ∧ st.lo 6 = some (.int (k : Nat)) ∧ DU hp d l a b g (fun q => ls.count q + gotT cg g q p + sentT cg q p (g p) k + ((cg p k).take j).count q * ((g p + 2 - k) / 3)) st) (fun K h => ⟨_, D.e0, _, e5, _, wh1.get hp6, _, rfl, _, wh1.getk hp6 hk, _, _, rfl, wh1.cog p hp6 k hk, h⟩) (fun _ _ => rfl) (fun _ _ => rfl) ?_ ?_ ?_ ?_
        · rintro j st ⟨_, _, D⟩
          exact ⟨_, (wh.ext D.x).cog p hp6 k hk, rfl⟩
        · refine ⟨e5, rfl, D.e0, D.e1, D.e2, D.e4, D.x, D.fa, D.fb, D.ne, D.ha, ?_⟩
          obtain ⟨g', g1, g2⟩ := D.hb
          exact ⟨g', g1, fun q hq => by rw [g2 q hq, List.take_zero, List.count_nil, Nat.zero_mul]; rfl⟩
        · rintro j v st ⟨e5, e6, D⟩ hv
          obtain ⟨o, ho, rfl⟩ := intN_get hv
          have ho6 := (W.up p hp6 k hk o (mem_take_get ho)).1
          obtain ⟨g', g1, g2⟩ := D.hb
          dsimp only [tName, sCons]
          refine aug6_add (s := g') (p := o) (v := g' o + (g p + 2 - k) / 3) D.e4 rfl g1 ho6 ?_ ?_
          · intro K h
            dsimp only [wOp, wSub, wLoc, wInt, binW, binI]
            refine ⟨_, D.e2, _, e5, _, .list D.ha (by omega) (by omega) (sixV_get g hp6), _, e6, by omega, by omega, h _ (by omega)⟩
          · refine ⟨e5, e6, D.e0, D.e1, D.e2, D.e4, D.x.upd D.fb, D.fa, D.fb, D.ne, set_keep' D.ha D.ne, _, Hp.set_self _ _ _, ?_⟩
            intro q hq
            rw [take_get ho, List.count_append, List.count_singleton]
            have := g2 q hq
            by_cases e : q = o
            · subst e
              rw [fup_self, this, if_pos (by simp), Nat.add_mul, Nat.one_mul]; omega
            · rw [fup_ne _ _ e, this, if_neg (by simpa using fun h => e h.symm), Nat.add_zero (List.count q _)]
        · rintro st ⟨e5, e6, D⟩
          refine ⟨e5, D.cong fun q => ?_⟩
          rw [intN_len, List.take_length, sentT_one]; omega
      · rintro st ⟨e5, D⟩
        refine D.cong fun q => ?_
        have : (rangeV 3).length = 3 := rfl
        rw [this, gotT_one]; omega
    · rintro st D
      refine ⟨_, D.e4, D.e0, D.e1, D.x, b, rfl, D.fb, ?_⟩
      obtain ⟨g', g1, g2⟩ := D.hb
      refine ⟨g', g1, fun q hq => ?_⟩
      have e6 : (rangeV 6).length = 6 := rfl
      rw [g2 q hq, e6]
      show _ = ls.count q + gotT cg (dueT cg _ i) q 6
      have : ∀ n, n ≤ 6 → gotT cg g q n = gotT cg (dueT cg (fun q => ls.count q) i) q n := by
        intro n
        induction n with
        | zero => intro _; rfl
        | succ n ih => intro h; rw [gotT_one, gotT_one, ih (by omega), hgq n (by omega)]
      rw [this 6 (Nat.le_refl _)]
  · rintro st ⟨e0, e1, x, a, e2, fa, g, hg, hgq⟩
    refine ⟨_, e2, k a st.hp x fa ?_⟩
    rw [hg, sixV_congr hgq]; rfl
end Mine
end

noncomputable section
open PySem PySem.W PyProof.Rows
set_option maxHeartbeats 2000000
namespace Mine
theorem Gr.le {T : TR} {ln : Nat → Nat} {nd : Nat → List Nat} {e e' : Nat} (G : Gr T ln nd e) (h : e ≤ e') : Gr T ln nd e' := ⟨G.np, G.sc, G.out, G.inn, fun m hm => Nat.le_trans (G.len m hm) h⟩
noncomputable def emptyT (a dx d : Addr) : TR := ⟨a, dx, d, [], fun _ => 0, fun _ => 0, fun _ => 0, fun _ => 0, fun _ => [], none, [], 0, 0⟩
theorem emptyT_own {a dx d b : Addr} (h : (emptyT a dx d).Own b) : b = a ∨ b = dx ∨ b = d := by
  rcases h with h | h | h | ⟨n, hn, h⟩ | h
  · exact .inl h
  · exact .inr (.inl h)
  · exact .inr (.inr h)
  · simp [emptyT] at hn
  · cases h
theorem emptyT_gr (a dx d : Addr) : GrL (emptyT a dx d) (fun _ => []) 0 := ⟨by simp [emptyT], by simp [emptyT], by simp, by simp, by simp [emptyT]⟩
noncomputable def Aside (hp : Hp) (a dx : Addr) (T : TR) (hp' : Hp) : Prop := ∀ b o, hp b = some o → b ≠ a → b ≠ dx → hp' b = some o ∧ ¬ T.Own b
noncomputable def w_ts_head (Ws : WS) : WS := sCons (sAssign1 (wDict0) (tAttr (wLoc 0) (setOwnW 137 "_node2info")))
  (sCons (sAssign1 (wNone) (tAttr (wLoc 0) (setOwnW 137 "_ready_nodes")))
  (sCons (sAssign1 (wInt (0)) (tAttr (wLoc 0) (setOwnW 137 "_npassedout")))
  (sCons (sAssign1 (wInt (0)) (tAttr (wLoc 0) (setOwnW 137 "_nfinished"))) Ws)))
theorem ts_head {Ws : WS} {st : St} {Q : Fl → St → Prop} {a dx : Addr} (h0 : st.lo 0 = some (.ref a)) (ha : st.hp a = some (.inst 137 dx [])) (hdx : st.hp dx = some (.adict []))
    (k : ∀ d hp', TS (emptyT a dx d) hp' → Aside st.hp a dx (emptyT a dx d) hp' → Ws ⟨st.lo, hp'⟩ Q) : w_ts_head Ws st Q := by
  have had : a ≠ dx := ne_of ha hdx (by simp)
  unfold w_ts_head
  dsimp only [sCons, sAssign1, wDict0, tAttr, wLoc, setOwnW]
  intro d hd
  have nd1 : a ≠ d := by rintro rfl; rw [ha] at hd; cases hd
  have nd2 : dx ≠ d := by rintro rfl; rw [hdx] at hd; cases hd
  refine ⟨_, h0, a, dx, _, _, rfl, ⟨set_keep' ha nd1, set_keep' hdx nd2⟩, by simp, ?_⟩
  dsimp only [wNone]
  refine ⟨_, h0, a, dx, _, _, rfl, ⟨set_keep' (set_keep' ha nd1) had, Hp.set_self _ _ _⟩, by simp [aset], ?_⟩
  dsimp only [wInt]
  refine ⟨_, h0, a, dx, _, _, rfl, ⟨set_keep' (set_keep' (set_keep' ha nd1) had) had, Hp.set_self _ _ _⟩, by simp [aset]; split <;> simp, ?_⟩
  refine ⟨_, h0, a, dx, _, [("_node2info", .ref d), ("_ready_nodes", .none), ("_npassedout", .int 0)], rfl, ⟨set_keep' (set_keep' (set_keep' (set_keep' ha nd1) had) had) had, Hp.set_self _ _ _⟩, by simp, ?_⟩
  refine k d _ ⟨set_keep' (set_keep' (set_keep' (set_keep' (set_keep' ha nd1) had) had) had) had, Hp.set_self _ _ _, ⟨0, ?_⟩, by simp [emptyT], by simp [emptyT], by simp [emptyT], by simp [emptyT], by simp [emptyT], by simp [emptyT], fun r h => by cases h⟩ ?_
  · exact set_keep' (set_keep' (set_keep' (set_keep' (Hp.set_self _ _ _) nd2.symm) nd2.symm) nd2.symm) nd2.symm
  · intro b o e n1 n2
    have n3 : b ≠ d := by rintro rfl; rw [e] at hd; cases hd
    refine ⟨set_keep' (set_keep' (set_keep' (set_keep' (set_keep' e n3) n2) n2) n2) n2, ?_⟩
    intro q
    rcases emptyT_own q with q | q | q
    · exact n1 q
    · exact n2 q
    · exact n3 q
end Mine
end

noncomputable section
open PySem PySem.W PyProof.Rows
set_option maxHeartbeats 2000000
namespace Mine
set_option genInjectivity false in
set_option genSizeOf false in
structure Fm where
  n : Nat
  j : Nat
  it : Addr
  m : Addr
noncomputable def nodes (rs : List Fm) : List Nat := rs.map (·.n)
noncomputable def idx : List Fm → List (Int × V)
  | [] => []
  | f :: rs => idx rs ++ [((f.n : Int), .int (rs.length : Nat))]
noncomputable def Chn (sc : Nat → List Nat) (fin : List Nat) : (Nat → Prop) → List Fm → Prop
  | _, [] => True
  | ab, f :: rs => f.j ≤ (sc f.n).length ∧ (∀ x ∈ (sc f.n).take f.j, x ∈ fin ∨ ab x) ∧ (∀ x, ab x → x ∈ sc f.n) ∧ Chn sc fin (fun x => x = f.n) rs
theorem Chn.fin {sc : Nat → List Nat} {fin fin' : List Nat} (h : ∀ x ∈ fin, x ∈ fin') : ∀ {rs : List Fm} {ab : Nat → Prop}, Chn sc fin ab rs → Chn sc fin' ab rs
  | [], _, _ => trivial
  | f :: rs, ab, c => ⟨c.1, fun x hx => (c.2.1 x hx).imp (h x) id, c.2.2.1, Chn.fin h c.2.2.2⟩
theorem Chn.seg {sc : Nat → List Nat} {fin : List Nat} {f : Fm} {B : List Fm} : ∀ (A : List Fm) {ab : Nat → Prop}, Chn sc fin ab (A ++ f :: B) → (∀ x, ab x → ∃ y ∈ nodes (A ++ [f]), x ∈ sc y) ∧ ∀ x ∈ nodes A, ∃ y ∈ nodes (A ++ [f]), x ∈ sc y
  | [], ab, c => ⟨fun x hx => ⟨f.n, by simp [nodes], c.2.2.1 x hx⟩, by simp [nodes]⟩
  | a :: A, ab, c => by
    have ih := Chn.seg A (ab := fun x => x = a.n) c.2.2.2
    have up : ∀ {x}, (∃ y ∈ nodes (A ++ [f]), x ∈ sc y) → ∃ y ∈ nodes (a :: A ++ [f]), x ∈ sc y := by
      rintro x ⟨y, h1, h2⟩; exact ⟨y, by simp only [nodes, List.cons_append, List.map_cons]; exact List.mem_cons_of_mem _ h1, h2⟩
    refine ⟨fun x hx => ⟨a.n, by simp [nodes], c.2.2.1 x hx⟩, ?_⟩
    intro x hx
    simp only [nodes, List.map_cons, List.mem_cons] at hx
    rcases hx with rfl | hx
    · exact up (ih.1 a.n rfl)
    · exact up (ih.2 x hx)
theorem Chn.ring {sc : Nat → List Nat} {fin : List Nat} {rs : List Fm} {n : Nat} (c : Chn sc fin (fun x => x = n) rs) (h : n ∈ nodes rs) : ∃ S : Nat → Prop, (∃ x, S x) ∧ (∀ x, S x → x ∈ nodes rs) ∧ ∀ x, S x → ∃ y, S y ∧ x ∈ sc y := by
  simp only [nodes, List.mem_map] at h
  obtain ⟨f, hf, rfl⟩ := h
  obtain ⟨A, B, rfl⟩ := List.append_of_mem hf
  have := Chn.seg A c
  refine ⟨fun x => x ∈ nodes (A ++ [f]), ⟨f.n, by simp [nodes]⟩, ?_, ?_⟩
  · intro x hx; simp only [nodes, List.map_append, List.mem_append, List.map_cons, List.map_nil, List.mem_singleton, List.mem_cons] at hx ⊢
    rcases hx with hx | hx
    · exact .inl hx
    · exact .inr (.inl (by simpa using hx))
  · intro x hx
    have hx : x ∈ nodes A ∨ x = f.n := by
      simpa [nodes] using hx
    rcases hx with hx | rfl
    · exact this.2 x hx
    · exact this.1 _ rfl
theorem idx_len : ∀ rs : List Fm, (idx rs).length = rs.length
  | [] => rfl
  | f :: rs => by simp [idx, idx_len rs]
theorem lookup_snoc {k q : Int} {v : V} : ∀ {l : List (Int × V)}, (l ++ [(q, v)]).lookup k = (l.lookup k).or (if k = q then some v else none)
  | [] => by
    by_cases e : k = q
    · simp [List.lookup, e]
    · have : (k == q) = false := by simp [e]
      simp [List.lookup, this, e]
  | (p, u) :: l => by
    rw [List.cons_append, List.lookup_cons, List.lookup_cons, lookup_snoc (l := l)]
    cases (k == p) <;> simp
theorem idx_lookup : ∀ (rs : List Fm) (n : Nat), (n ∈ nodes rs → ∃ i : Nat, i < rs.length ∧ (idx rs).lookup (n : Int) = some (.int (i : Nat))) ∧ (n ∉ nodes rs → (idx rs).lookup (n : Int) = none)
  | [], n => by simp [nodes, idx]
  | f :: rs, n => by
    have ih := idx_lookup rs n
    simp only [idx, lookup_snoc]
    constructor
    · intro h
      by_cases q : n ∈ nodes rs
      · obtain ⟨i, h1, h2⟩ := ih.1 q
        exact ⟨i, by simp; omega, by rw [h2]; rfl⟩
      · rw [ih.2 q]
        have : n = f.n := by
          simp only [nodes, List.map_cons, List.mem_cons] at h
          rcases h with h | h
          · exact h
          · exact absurd h q
        exact ⟨rs.length, by simp, by simp [this]⟩
    · intro h
      have h : ¬ (n = f.n ∨ n ∈ nodes rs) := by simpa [nodes] using h
      have h1 : n ≠ f.n := fun e => h (.inl e)
      rw [ih.2 (fun q => h (.inr q))]
      have : ¬ ((n : Int) = (f.n : Int)) := by omega
      simp [this]
theorem idx_mem : ∀ (rs : List Fm) (p : Int × V), p ∈ idx rs → ∃ n ∈ nodes rs, p.1 = (n : Nat)
  | [], p, h => by simp [idx] at h
  | f :: rs, p, h => by
    simp only [idx, List.mem_append, List.mem_singleton] at h
    rcases h with h | rfl
    · obtain ⟨n, h1, h2⟩ := idx_mem rs p h
      exact ⟨n, by simp only [nodes, List.map_cons]; exact List.mem_cons_of_mem _ h1, h2⟩
    · exact ⟨f.n, by simp [nodes], rfl⟩
theorem idx_del {f : Fm} {rs : List Fm} (h : f.n ∉ nodes rs) : dwithout (idx (f :: rs)) (f.n : Int) = idx rs := by
  unfold dwithout
  simp only [idx, List.filter_append]
  have h1 : (idx rs).filter (fun p => decide (p.1 ≠ (f.n : Int))) = idx rs := by
    rw [List.filter_eq_self]
    intro p hp
    obtain ⟨n, h1, h2⟩ := idx_mem rs p hp
    have : n ≠ f.n := fun e => h (e ▸ h1)
    simp; rw [h2]; omega
  rw [h1]; simp
noncomputable def sp : List Fm → Nat
  | [] => 0
  | f :: rs => f.j + 1 + sp rs
theorem sp_le {sc : Nat → List Nat} {e : Nat} {fin : List Nat} : ∀ {rs : List Fm} {ab : Nat → Prop}, Chn sc fin ab rs → (∀ f ∈ rs, (sc f.n).length ≤ e) → sp rs ≤ rs.length * (e + 2)
  | [], _, _, _ => by simp [sp]
  | f :: rs, ab, c, h => by
    have := sp_le c.2.2.2 (fun g hg => h g (List.mem_cons_of_mem _ hg))
    have h1 := h f (by simp)
    have h2 := c.1
    simp only [sp, List.length_cons, Nat.succ_mul]
    omega
structure DP (T : TR) (fin : List Nat) (ab : Nat → Prop) (rs : List Fm) : Prop where
  nodup : (fin ++ nodes rs).Nodup
  mem : ∀ n ∈ fin ++ nodes rs, n ∈ T.ns
  chn : Chn T.sc fin ab rs
  post : ∀ A m B, fin = A ++ m :: B → ∀ x ∈ T.sc m, x ∈ A
theorem DP.len {T : TR} {hp : Hp} {fin : List Nat} {ab : Nat → Prop} {rs : List Fm} (S : TS T hp) (D : DP T fin ab rs) : fin.length + rs.length ≤ 9 := by
  have := nodup_len 9 _ D.nodup (fun n h => S.lt n (D.mem n h))
  simpa [nodes] using this
theorem DP.push {T : TR} {fin : List Nat} {n : Nat} {rs : List Fm} (D : DP T fin (fun x => x = n) rs) (hn : n ∈ T.ns) (h1 : n ∉ fin) (h2 : n ∉ nodes rs) (it m : Addr) : DP T fin (fun _ => False) (⟨n, 0, it, m⟩ :: rs) := by
  refine ⟨?_, ?_, ⟨by simp, by simp, fun _ h => h.elim, D.chn⟩, D.post⟩
  · have : (fin ++ n :: nodes rs).Nodup := by
      have := D.nodup
      rw [List.nodup_append] at this ⊢
      refine ⟨this.1, List.nodup_cons.mpr ⟨h2, this.2.1⟩, ?_⟩
      intro a ha b hb e
      rcases List.mem_cons.mp hb with rfl | hb
      · exact h1 (e ▸ ha)
      · exact this.2.2 a ha b hb e
    exact this
  · intro k hk
    have hk : k ∈ fin ∨ k = n ∨ k ∈ nodes rs := by simpa [nodes] using hk
    rcases hk with hk | rfl | hk
    · exact D.mem k (List.mem_append_left _ hk)
    · exact hn
    · exact D.mem k (List.mem_append_right _ hk)
theorem DP.seen {T : TR} {fin : List Nat} {n : Nat} {rs : List Fm} (D : DP T fin (fun x => x = n) rs) (h1 : n ∈ fin) : DP T fin (fun _ => False) rs := by
  refine ⟨D.nodup, D.mem, ?_, D.post⟩
  cases rs with
  | nil => trivial
  | cons f rs =>
    have c := D.chn
    refine ⟨c.1, fun x hx => ?_, fun _ h => h.elim, c.2.2.2⟩
    rcases c.2.1 x hx with h | rfl
    · exact .inl h
    · exact .inl h1
theorem DP.next {T : TR} {fin : List Nat} {f : Fm} {rs : List Fm} {n : Nat} (D : DP T fin (fun _ => False) (f :: rs)) (h : (T.sc f.n)[f.j]? = some n) : DP T fin (fun x => x = n) (⟨f.n, f.j + 1, f.it, f.m⟩ :: rs) := by
  refine ⟨D.nodup, D.mem, ?_, D.post⟩
  have c := D.chn
  have hl := (List.getElem?_eq_some_iff.mp h).1
  refine ⟨hl, ?_, ?_, c.2.2.2⟩
  · intro x hx
    rw [take_get h] at hx
    rcases List.mem_append.mp hx with hx | hx
    · rcases c.2.1 x hx with h | h
      · exact .inl h
      · exact h.elim
    · simp at hx; exact .inr hx
  · rintro x rfl; exact mem_take_get h
theorem DP.pop {T : TR} {fin : List Nat} {f : Fm} {rs : List Fm} (D : DP T fin (fun _ => False) (f :: rs)) (h : (T.sc f.n)[f.j]? = none) : DP T (fin ++ [f.n]) (fun _ => False) rs := by
  have c := D.chn
  have hl : (T.sc f.n).length ≤ f.j := by simpa using h
  have nd : (fin ++ f.n :: nodes rs).Nodup := D.nodup
  refine ⟨by rw [List.append_assoc]; exact nd, by intro n hn; exact D.mem n (by simpa [nodes] using hn), ?_, ?_⟩
  · have c2 := c.2.2.2
    cases rs with
    | nil => trivial
    | cons g rs =>
      refine ⟨c2.1, fun x hx => ?_, fun _ h => h.elim, c2.2.2.2.fin (by intro x hx; simp [hx])⟩
      rcases c2.2.1 x hx with h | rfl
      · exact .inl (by simp [h])
      · exact .inl (by simp)
  · intro A m B e x hx
    rcases List.eq_nil_or_concat B with rfl | ⟨B', y, rfl⟩
    · have := List.append_inj' e (by simp)
      obtain ⟨e1, e2⟩ := this
      simp at e2; subst e1; subst e2
      rcases c.2.1 x (by rw [List.take_of_length_le hl]; exact hx) with h | h
      · exact h
      · exact h.elim
    · rw [List.concat_eq_append, ← List.cons_append, ← List.append_assoc] at e
      have := List.append_inj' e (by simp)
      exact D.post A m B' this.1 x hx
end Mine
end

noncomputable section
open PySem PySem.W PyProof.Rows
set_option maxHeartbeats 2000000
namespace Mine
structure DA (hp : Hp) (sA iA eA nA : Addr) : Prop where
  s : hp sA = none
  i : hp iA = none
  e : hp eA = none
  n : hp nA = none
  si : sA ≠ iA
structure DS (T : TR) (hp : Hp) (sA iA eA nA : Addr) (fin : List Nat) (rs : List Fm) (h : Hp) : Prop where
  ex : Ext hp h
  st : h sA = some (.list (intN (nodes rs).reverse))
  its : h iA = some (.list (rs.reverse.map fun f => V.ref f.m))
  se : ∃ ks, h eA = some (.set ks) ∧ ks.length ≤ fin.length + rs.length ∧ ∀ n : Nat, ks.contains (n : Int) = true ↔ (n ∈ fin ∨ n ∈ nodes rs)
  n2 : ∃ ep, h nA = some (.dict (idx rs) ep)
  fr : ∀ f ∈ rs, h f.m = some (.nextm f.it) ∧ h f.it = some (.liter (T.sa f.n) f.j) ∧ hp f.it = none
structure DL (T : TR) (sA iA eA nA : Addr) (lo : Nat → Option V) : Prop where
  e0 : lo 0 = some (.ref T.sf)
  e1 : lo 1 = some (.ref T.d)
  e2 : lo 2 = some (.ref sA)
  e3 : lo 3 = some (.ref iA)
  e4 : lo 4 = some (.ref eA)
  e5 : lo 5 = some (.ref nA)
theorem DL.set {T : TR} {sA iA eA nA : Addr} {lo : Nat → Option V} (D : DL T sA iA eA nA lo) (v : V) : DL T sA iA eA nA (setLo lo 6 v) := ⟨D.e0, D.e1, D.e2, D.e3, D.e4, D.e5⟩
theorem DS.push {T : TR} {hp : Hp} {sA iA eA nA : Addr} {fin : List Nat} {rs : List Fm} {h h' : Hp} {n : Nat} {it m : Addr} {ks : List Int} (D : DS T hp sA iA eA nA fin rs h) (A : DA hp sA iA eA nA)
    (hk : h eA = some (.set ks)) (hkl : ks.length ≤ fin.length + rs.length) (hkm : ∀ n : Nat, ks.contains (n : Int) = true ↔ (n ∈ fin ∨ n ∈ nodes rs)) (fit : h it = none)
    (keep : ∀ b o, h b = some o → b ≠ sA → b ≠ iA → b ≠ eA → b ≠ nA → h' b = some o)
    (s : h' sA = some (.list (intN (nodes rs).reverse ++ [.int (n : Nat)]))) (i : h' iA = some (.list ((rs.reverse.map fun f => V.ref f.m) ++ [.ref m]))) (e : h' eA = some (.set ((n : Int) :: ks)))
    (d : ∃ ep, h' nA = some (.dict (idx rs ++ [((n : Int), .int (rs.length : Nat))]) ep)) (hm : h' m = some (.nextm it)) (hit : h' it = some (.liter (T.sa n) 0)) : DS T hp sA iA eA nA fin (⟨n, 0, it, m⟩ :: rs) h' := by
  obtain ⟨ep2, hn2⟩ := D.n2
  refine ⟨?_, ?_, ?_, ⟨_, e, by simp; omega, ?_⟩, d, ?_⟩
  · intro b o q
    have nn : ∀ {x}, hp x = none → b ≠ x := by rintro x hx rfl; rw [hx] at q; cases q
    exact keep b o (D.ex b o q) (nn A.s) (nn A.i) (nn A.e) (nn A.n)
  · rw [s]; simp [nodes, intN]
  · rw [i]; simp
  · intro k
    have := hkm k
    by_cases q : k = n
    · subst q; simp [nodes]
    · have q' : ¬ ((k : Int) = (n : Int)) := by omega
      rw [List.contains_cons]
      have : ((k : Int) == (n : Int)) = false := by simp [q']
      rw [this, Bool.false_or, hkm k]
      simp [nodes, q]
  · intro f hf
    rcases List.mem_cons.mp hf with rfl | hf
    · exact ⟨hm, hit, D.ex.free fit⟩
    · obtain ⟨q1, q2, q3⟩ := D.fr f hf
      exact ⟨keep _ _ q1 (ne_of q1 D.st (by simp)) (ne_of q1 D.its (by simp)) (ne_of q1 hk (by simp)) (ne_of q1 hn2 (by simp)), keep _ _ q2 (ne_of q2 D.st (by simp)) (ne_of q2 D.its (by simp)) (ne_of q2 hk (by simp)) (ne_of q2 hn2 (by simp)), q3⟩
theorem DS.next {T : TR} {hp : Hp} {sA iA eA nA : Addr} {fin : List Nat} {f : Fm} {rs : List Fm} {h : Hp} (S : TS T hp) (D : DS T hp sA iA eA nA fin (f :: rs) h) (nd : f.n ∉ nodes rs) (mm : ∀ n ∈ nodes (f :: rs), n ∈ T.ns) :
    DS T hp sA iA eA nA fin (⟨f.n, f.j + 1, f.it, f.m⟩ :: rs) (h.set f.it (.liter (T.sa f.n) (f.j + 1))) := by
  obtain ⟨q1, q2, q3⟩ := D.fr f (by simp)
  obtain ⟨ep2, hn2⟩ := D.n2
  obtain ⟨ks, hk, hk1, hk2⟩ := D.se
  refine ⟨D.ex.upd q3, set_keep D.st q2 (by simp), (set_keep D.its q2 (by simp)).trans (by simp), ⟨ks, set_keep hk q2 (by simp), hk1, hk2⟩, ⟨ep2, set_keep hn2 q2 (by simp)⟩, ?_⟩
  intro g hg
  rcases List.mem_cons.mp hg with rfl | hg
  · exact ⟨set_keep q1 q2 (by simp), Hp.set_self _ _ _, q3⟩
  · obtain ⟨p1, p2, p3⟩ := D.fr g (List.mem_cons_of_mem _ hg)
    refine ⟨set_keep p1 q2 (by simp), set_keep p2 q2 ?_, p3⟩
    intro e
    have e := (O.liter.inj e).1
    have gn : g.n ∈ nodes rs := List.mem_map_of_mem hg
    have := S.injs _ _ (mm _ (by simp only [nodes, List.map_cons]; exact List.mem_cons_of_mem _ gn)) (mm f.n (by simp [nodes])) e
    exact nd (this ▸ gn)
theorem DS.pop {T : TR} {hp : Hp} {sA iA eA nA : Addr} {fin : List Nat} {f : Fm} {rs : List Fm} {h : Hp} {ep : Nat} (S : TS T hp) (A : DA hp sA iA eA nA) (D : DS T hp sA iA eA nA fin (f :: rs) h) (nd : f.n ∉ nodes rs) (mm : ∀ n ∈ nodes (f :: rs), n ∈ T.ns) :
    DS T hp sA iA eA nA (fin ++ [f.n]) rs ((((h.set f.it .dead).set sA (.list (intN (nodes rs).reverse))).set nA (.dict (idx rs) ep)).set iA (.list (rs.reverse.map fun f => V.ref f.m))) := by
  obtain ⟨q1, q2, q3⟩ := D.fr f (by simp)
  obtain ⟨ep2, hn2⟩ := D.n2
  obtain ⟨ks, hk, hk1, hk2⟩ := D.se
  have n1 : sA ≠ nA := ne_of D.st hn2 (by simp)
  have n2 : iA ≠ nA := ne_of D.its hn2 (by simp)
  refine ⟨(((D.ex.upd q3).upd A.s).upd A.n).upd A.i, set_keep' (set_keep' (Hp.set_self _ _ _) n1) A.si, Hp.set_self _ _ _, ⟨ks, set_keep' (set_keep' (set_keep' (set_keep hk q2 (by simp)) (ne_of hk D.st (by simp))) (ne_of hk hn2 (by simp))) (ne_of hk D.its (by simp)), by simp at hk1 ⊢; omega, ?_⟩, ⟨ep, set_keep' (Hp.set_self _ _ _) n2.symm⟩, ?_⟩
  · intro k
    rw [hk2 k]; simp [nodes]
    constructor
    · rintro (h | h | h)
      · exact .inl (.inl h)
      · exact .inl (.inr h)
      · exact .inr h
    · rintro ((h | h) | h)
      · exact .inl h
      · exact .inr (.inl h)
      · exact .inr (.inr h)
  · intro g hg
    obtain ⟨p1, p2, p3⟩ := D.fr g (List.mem_cons_of_mem _ hg)
    refine ⟨set_keep' (set_keep' (set_keep' (set_keep p1 q2 (by simp)) (ne_of p1 D.st (by simp))) (ne_of p1 hn2 (by simp))) (ne_of p1 D.its (by simp)), set_keep' (set_keep' (set_keep' (set_keep p2 q2 ?_) (ne_of p2 D.st (by simp))) (ne_of p2 hn2 (by simp))) (ne_of p2 D.its (by simp)), p3⟩
    intro e
    have e := (O.liter.inj e).1
    have gn : g.n ∈ nodes rs := List.mem_map_of_mem hg
    have := S.injs _ _ (mm _ (by simp only [nodes, List.map_cons]; exact List.mem_cons_of_mem _ gn)) (mm f.n (by simp [nodes])) e
    exact nd (this ▸ gn)
noncomputable def fcW : WF := fun args hp P => ∃ (T : TR) (nd : Nat → List Nat) (e : Nat), args = [.ref T.sf] ∧ TS T hp ∧ GrL T nd e ∧
    (∀ F hp', Ext hp hp' → F.Nodup → (∀ n, n ∈ F ↔ n ∈ T.ns) → (∀ A m B, F = A ++ m :: B → ∀ x, m ∈ nd x → x ∈ A) → P .none hp') ∧
    (∀ c xs (R : Nat → Prop) hp', Ext hp hp' → hp' c = some (.list xs) → xs ≠ [] → xs.length < 100 → (∃ n, R n) → (∀ n, R n → ∃ m ∈ nd n, R m) → P (.ref c) hp')
theorem Gr.iff {T : TR} {ln : Nat → Nat} {nd : Nat → List Nat} {e m x : Nat} (G : Gr T ln nd e) (hm : m ∈ T.ns) : x ∈ T.sc m ↔ m ∈ nd x := by
  rw [← List.count_pos_iff, ← List.count_pos_iff, G.sc m hm x]
end Mine
end

noncomputable section
open PySem PySem.W PyProof.Rows
set_option maxHeartbeats 2000000
namespace Mine
theorem Gr.scmem {T : TR} {ln : Nat → Nat} {nd : Nat → List Nat} {e m x : Nat} (G : Gr T ln nd e) (hm : m ∈ T.ns) (h : x ∈ T.sc m) : x ∈ T.ns := by
  apply Classical.byContradiction
  intro q
  have := (G.iff hm).mp h
  rw [(G.out x q).1] at this
  simp at this
noncomputable def spent (e : Nat) (fin : List Nat) (rs : List Fm) : Nat := fin.length * (e + 2) + sp rs
theorem spent_le {T : TR} {hp : Hp} {nd : Nat → List Nat} {e : Nat} {fin : List Nat} {ab : Nat → Prop} {rs : List Fm} (S : TS T hp) (G : GrL T nd e) (D : DP T fin ab rs) : spent e fin rs ≤ 9 * (e + 2) := by
  have h1 := D.len S
  have h2 := sp_le (e := e) D.chn (fun f hf => G.len f.n (D.mem _ (List.mem_append_right _ (List.mem_map_of_mem hf))))
  unfold spent
  have h3 : fin.length * (e + 2) + rs.length * (e + 2) = (fin.length + rs.length) * (e + 2) := by rw [Nat.add_mul]
  have h4 : (fin.length + rs.length) * (e + 2) ≤ 9 * (e + 2) := Nat.mul_le_mul_right _ h1
  omega
noncomputable def Cov (U : List Nat) (fin : List Nat) (rs : List Fm) : Prop := ∀ x ∈ U, x ∈ fin ∨ x ∈ nodes rs
noncomputable def w_fcin : WS := sWhileE (bVal (wLoc 2)) (sCons (sTry (xCons (xAssign 6 (exNext (wSub (wLoc 3) (wInt (-1)))))
  (xCons (xOf (sBreak))
  (xNil))) (sCons (sDel (wLoc 5) (wPop (wLoc 2)))
  (sCons (sExpr (wPop (wLoc 3)))
  (sNil))))
  (sNil)) (sCons (sBreak)
  (sNil))
theorem fcin_ok {T : TR} {hp : Hp} {nd : Nat → List Nat} {e : Nat} {sA iA eA nA : Addr} {U fin : List Nat} {rs : List Fm} {st : St} {Q : Fl → St → Prop} (S : TS T hp) (G : GrL T nd e) (A : DA hp sA iA eA nA)
    (D0 : DS T hp sA iA eA nA fin rs st.hp) (P0 : DP T fin (fun _ => False) rs) (L0 : DL T sA iA eA nA st.lo) (C0 : Cov U fin rs)
    (kn : ∀ fin' rs' (n : Nat) (st' : St), DS T hp sA iA eA nA fin' rs' st'.hp → DP T fin' (fun x => x = n) rs' → DL T sA iA eA nA st'.lo → Cov U fin' rs' → st'.lo 6 = some (.int (n : Nat)) → n ∈ T.ns → rs' ≠ [] → spent e fin rs < spent e fin' rs' → Q .next st')
    (kd : ∀ fin' (st' : St), DS T hp sA iA eA nA fin' [] st'.hp → DP T fin' (fun _ => False) [] → DL T sA iA eA nA st'.lo → Cov U fin' [] → Q .brk st') : w_fcin st Q := by
  unfold w_fcin
  dsimp only [sWhileE]
  refine ⟨fun k s => ∃ fin' rs', k + spent e fin' rs' = 9 * (e + 2) ∧ spent e fin rs ≤ spent e fin' rs' ∧ DS T hp sA iA eA nA fin' rs' s.hp ∧ DP T fin' (fun _ => False) rs' ∧ DL T sA iA eA nA s.lo ∧ Cov U fin' rs', ⟨9 * (e + 2) - spent e fin rs, fin, rs, by have := spent_le S G P0; omega, Nat.le_refl _, D0, P0, L0, C0⟩, ?_⟩
  rintro k s ⟨fin', rs', hk, hs, D, P, L, C⟩
  have hlen := P.len S
  dsimp only [bVal, wLoc]
  refine ⟨_, L.e2, _, .list D.st (by simp [intN, nodes]; omega), ?_⟩
  cases rs' with
  | nil =>
    simp only [nodes, List.map_nil, List.reverse_nil, intN, List.isEmpty_nil, Bool.not_true, Bool.false_eq_true, if_false]
    exact kd fin' s D P L C
  | cons f rs' =>
    have : (intN (nodes (f :: rs')).reverse).isEmpty = false := by simp [intN, nodes]
    rw [this]
    refine ite_t ?_
    dsimp only [sCons, sTry, xCons, xAssign, exNext, wSub, wLoc, wInt, xOf, sBreak]
    obtain ⟨q1, q2, q3⟩ := D.fr f (by simp)
    have fns : f.n ∈ T.ns := P.mem _ (by simp [nodes])
    have mm : ∀ n ∈ nodes (f :: rs'), n ∈ T.ns := fun n h => P.mem n (List.mem_append_right _ h)
    have fnd : f.n ∉ nodes rs' := by
      have := (List.nodup_append.mp P.nodup).2.1
      exact (List.nodup_cons.mp this).1
    have hits : s.hp iA = some (.list ((rs'.reverse.map fun f => V.ref f.m) ++ [.ref f.m])) := by rw [D.its]; simp
    have hst : s.hp sA = some (.list (intN (nodes rs').reverse ++ [.int (f.n : Nat)])) := by rw [D.st]; simp [nodes, intN]
    obtain ⟨ep, hn2⟩ := D.n2
    refine ⟨_, L.e3, _, .last hits, f.m, f.it, T.sa f.n, f.j, _, rfl, q1, q2, D.ex _ _ (S.succ f.n fns), ?_⟩
    have hget : (intN (T.sc f.n))[f.j]? = ((T.sc f.n)[f.j]?).map fun (n : Nat) => V.int (n : Nat) := by simp [intN]
    rw [hget]
    cases hj : (T.sc f.n)[f.j]? with
    | some n =>
      dsimp only [Option.map]
      refine kn fin' (⟨f.n, f.j + 1, f.it, f.m⟩ :: rs') n _ (D.next S fnd mm) (P.next hj) (L.set _) C rfl (G.scmem fns (mem_take_get hj)) (by simp) ?_
      simp only [spent, sp] at hs ⊢; omega
    | none =>
      dsimp only [Option.map]
      dsimp only [sDel, wLoc, wPop]
      have nsi : sA ≠ f.it := ne_of hst q2 (by simp)
      have nni : nA ≠ f.it := ne_of hn2 q2 (by simp)
      have nii : iA ≠ f.it := ne_of hits q2 (by simp)
      have n1 : sA ≠ nA := ne_of hst hn2 (by simp)
      have n2 : iA ≠ nA := ne_of hits hn2 (by simp)
      have hil := idx_len (f :: rs')
      refine ⟨_, L.e5, _, L.e2, sA, _, _, rfl, set_keep' hst nsi, by simp [intN, nodes] at hlen ⊢; omega, nA, _, ep, (f.n : Int), rfl, rfl, set_keep' (set_keep' hn2 nni) n1.symm, ?_, by rw [idx_len]; simp at hlen ⊢; omega, ?_⟩
      · obtain ⟨i, _, h⟩ := (idx_lookup (f :: rs') f.n).1 (by simp [nodes])
        rw [h]; rfl
      intro ep'
      rw [idx_del fnd]
      dsimp only [sExpr, wPop, wLoc]
      refine ⟨_, L.e3, iA, _, _, rfl, set_keep' (set_keep' (set_keep' hits nii) A.si.symm) n2, by simp at hlen ⊢; omega, ?_⟩
      have P' := P.pop hj
      have hs' : spent e (fin' ++ [f.n]) rs' = spent e fin' (f :: rs') + (e + 2) - (f.j + 1) ∧ f.j + 1 < e + 2 := by
        have := P.chn.1
        have h2 := G.len f.n fns
        refine ⟨?_, by omega⟩
        simp only [spent, sp, List.length_append, List.length_singleton, Nat.succ_mul, Nat.add_mul, Nat.one_mul]
        omega
      have hb := spent_le S G P'
      refine ⟨9 * (e + 2) - spent e (fin' ++ [f.n]) rs', by omega, fin' ++ [f.n], rs', by omega, by omega, D.pop S A fnd mm, P', L, ?_⟩
      intro x hx
      rcases C x hx with h | h
      · exact .inl (by simp [h])
      · simp only [nodes, List.map_cons, List.mem_cons] at h
        rcases h with rfl | h
        · exact .inl (by simp)
        · exact .inr h
end Mine
end

noncomputable section
open PySem PySem.W PyProof.Rows
set_option maxHeartbeats 2000000
namespace Mine
theorem pickV_arr (xs : List V) (l : List Nat) : l.filterMap (xs[·]?) = l.filterMap (xs.toArray[·]?) := by
  congr 1; funext i; simp
theorem pickV_from (xs : List V) (a : Nat) : pickV xs (some (a : Int)) none none = xs.drop a := by
  unfold pickV
  rw [sliceBounds_plain]
  simp only [Option.elim, clipAt_nat, sliceRange_one]
  rw [pickV_arr, pick_run]
  simp only
  rcases Nat.le_total a xs.length with h | h
  · rw [Nat.min_eq_left h, List.take_of_length_le (by simp)]
  · rw [Nat.min_eq_right h, List.drop_of_length_le (by simp), List.drop_of_length_le (by simpa using h)]; simp
theorem pickV_upto (xs : List V) (b : Nat) : pickV xs none (some (b : Int)) none = xs.take b := by
  unfold pickV
  rw [sliceBounds_plain]
  simp only [Option.elim, clipAt_nat, sliceRange_one]
  rw [pickV_arr, pick_run]
  simp only [List.drop_zero, Nat.sub_zero]
  rcases Nat.le_total b xs.length with h | h
  · rw [Nat.min_eq_left h]
  · rw [Nat.min_eq_right h, List.take_of_length_le (by simp), List.take_of_length_le (by simpa using h)]
theorem pickV_ints (is : List Int) (lo hi st : Option Int) : ∃ js : List Int, pickV (is.map .int) lo hi st = js.map .int ∧ ∀ j ∈ js, j ∈ is := by
  unfold pickV
  generalize sliceRange _ _ _ = l
  induction l with
  | nil => exact ⟨[], rfl, by simp⟩
  | cons i l ih =>
    obtain ⟨js, h1, h2⟩ := ih
    rw [List.filterMap_cons, h1]
    cases hx : is[i]? with
    | none => exact ⟨js, by simp [hx], h2⟩
    | some x =>
      refine ⟨x :: js, by simp [hx], ?_⟩
      intro j hj
      rcases List.mem_cons.mp hj with rfl | hj
      · exact List.mem_of_getElem? hx
      · exact h2 j hj
end Mine
end

noncomputable section
open PySem PySem.W PyProof.Rows
set_option maxHeartbeats 2000000
namespace Mine
noncomputable def WhI (T : TR) (hp : Hp) (sA iA eA nA : Addr) (e : Nat) (U : List Nat) (k : Nat) (s : St) : Prop := ∃ fin' rs' n, k + spent e fin' rs' = 9 * (e + 2) ∧ DS T hp sA iA eA nA fin' rs' s.hp ∧ DP T fin' (fun x => x = n) rs' ∧ DL T sA iA eA nA s.lo ∧ s.lo 6 = some (.int (n : Nat)) ∧ n ∈ T.ns ∧ (∀ x ∈ U, x ∈ fin' ∨ x ∈ nodes rs' ∨ x = n) ∧ (rs' = [] → n ∉ fin')
noncomputable def FoI (T : TR) (hp : Hp) (sA iA eA nA : Addr) (U : List Nat) (s : St) : Prop := ∃ fin, DS T hp sA iA eA nA fin [] s.hp ∧ DP T fin (fun _ => False) [] ∧ DL T sA iA eA nA s.lo ∧ Cov U fin []
noncomputable def fPush : WS := sCons (sExpr (wSadd (wLoc 4) (wLoc 6)))
  (sCons (sExpr (wAppend (wLoc 3) (wB nextW (wB iterW (wB (getSlotW 40 2) (wSub (wLoc 1) (wLoc 6)))))))
  (sCons (sAssign1 (wB lenW (wLoc 2)) (tSub (wLoc 5) (wLoc 6)))
  (sCons (sExpr (wAppend (wLoc 2) (wLoc 6)))
  (sNil))))
noncomputable def fRet (X : Cx) : WS := sCons (sIf (bCmp X .In (wLoc 6) (wLoc 5)) (sCons (sRet (wOp .Add (wSlice X (wLoc 2) (pSome (wSub (wLoc 5) (wLoc 6))) (pNone) (pNone)) (wList (aCons (wLoc 6) (aNil)))))
  (sNil)) (sNil)) sNil
noncomputable def fW (X : Cx) : WS := sCons (sIf (bCmp X .In (wLoc 6) (wLoc 4)) (fRet X) fPush) (sCons w_fcin sNil)
noncomputable def fBody (X : Cx) : WS := sCons (sIf (bCmp X .In (wLoc 6) (wLoc 4)) (sCons sCont sNil) sNil) (sCons (sWhile (bVal (wBool true)) (fW X)) sNil)
noncomputable def fT (X : Cx) : WS := sCons (sFor (iKeys (wLoc 1)) (tName 6) (fBody X)) (sCons (sRet (wNone)) (sNil))
theorem fc_ok {X : Cx} (args : List V) (hp : Hp) (P : V → Hp → Prop) (h : fcW args hp P) : posW 1 (w_tsfind_cycle X) args hp P := by
  obtain ⟨T, nd, e, rfl, S, G, kN, kR⟩ := h
  refine ⟨rfl, ?_⟩
  obtain ⟨ep, hk⟩ := S.keys
  show sCons _ (sCons _ (sCons _ (sCons _ (sCons _ (fT X))))) _ _
  dsimp only [sCons, sAssign, wB, wLoc, getOwnW]
  refine ⟨_, rfl, T.sf, T.dx, _, _, .ref T.d, rfl, S.inst, rfl, trivial, ?_⟩
  dsimp only [wList, aNil]
  refine ⟨by simp, ?_⟩
  intro sA fs
  refine ⟨by simp, ?_⟩
  intro iA fi
  dsimp only [wB0, setW]
  intro eA fe
  dsimp only [wDict0]
  intro nA fn
  change hp sA = none at fs
  obtain ⟨i1, fi⟩ := fresh_set (show (hp.set sA _) iA = none from fi)
  obtain ⟨e1, fe⟩ := fresh_set (show ((hp.set sA _).set iA _) eA = none from fe)
  obtain ⟨e2, fe⟩ := fresh_set fe
  obtain ⟨n1, fn⟩ := fresh_set (show (((hp.set sA _).set iA _).set eA _) nA = none from fn)
  obtain ⟨n2, fn⟩ := fresh_set fn
  obtain ⟨n3, fn⟩ := fresh_set fn
  have A : DA hp sA iA eA nA := ⟨fs, fi, fe, fn, i1.symm⟩
  have D0 : DS T hp sA iA eA nA [] [] ((((hp.set sA (.list [])).set iA (.list [])).set eA (.set [])).set nA (.dict [] 0)) := by
    refine ⟨((((Ext.refl hp).upd fs).upd fi).upd fe).upd fn, set_keep' (set_keep' (set_keep' (Hp.set_self _ _ _) i1.symm) e2.symm) n3.symm, set_keep' (set_keep' (Hp.set_self _ _ _) e1.symm) n2.symm, ⟨[], set_keep' (Hp.set_self _ _ _) n1.symm, by simp, by simp [nodes]⟩, ⟨0, Hp.set_self _ _ _⟩, by simp⟩
  unfold fT
  dsimp only [sCons]
  refine sFor_run (keysSrc T.d T.ns.length ep) _ (intN T.ns) (fun i s => FoI T hp sA iA eA nA (T.ns.take i) s) (fun K h => ⟨_, rfl, T.d, _, ep, rfl, D0.ex _ _ hk, by rw [n2i_len]; exact h⟩) (fun _ _ => rfl) (fun _ _ => rfl) ?_ ?_ ?_ ?_
  · rintro i s ⟨fin, D, P, L, C⟩
    exact ⟨_, D.ex _ _ hk, n2i_len _ _, by simp [intN, n2i]; rfl⟩
  · exact ⟨[], D0, ⟨by simp [nodes], by simp [nodes], trivial, by intro A m B h; simp at h⟩, ⟨rfl, rfl, rfl, rfl, rfl, rfl⟩, by intro x hx; simp at hx⟩
  · rintro i v s ⟨fin, D, P, L, C⟩ hv
    obtain ⟨n0, hn0, rfl⟩ := intN_get hv
    have n0s : n0 ∈ T.ns := mem_take_get hn0
    unfold fBody
    dsimp only [tName, sCons, sIf, bCmp, wLoc]
    obtain ⟨ks, hks, hkl, hkm⟩ := D.se
    refine ⟨_, rfl, _, L.e4, _, .inSet hks, ?_⟩
    cases hc : ks.contains (n0 : Int) with
    | true =>
      refine ite_t ?_
      refine ⟨fin, D, P, L.set _, ?_⟩
      rw [take_get hn0]
      intro x hx
      rcases List.mem_append.mp hx with hx | hx
      · exact C x hx
      · simp at hx; subst hx
        exact (hkm x).mp hc
    | false =>
      refine ite_f ?_
      have nfin : n0 ∉ fin := fun q => by have := (hkm n0).mpr (.inl q); rw [hc] at this; cases this
      dsimp only [sNil, sWhile]
      refine ⟨fun k s => WhI T hp sA iA eA nA e (T.ns.take (i + 1)) k s, ⟨9 * (e + 2) - spent e fin [], fin, [], n0, by have := spent_le S G P; omega, D, ⟨P.nodup, P.mem, trivial, P.post⟩, L.set _, rfl, n0s, ?_, fun _ => nfin⟩, ?_⟩
      · intro x hx
        rw [take_get hn0] at hx
        rcases List.mem_append.mp hx with hx | hx
        · rcases C x hx with h | h
          · exact .inl h
          · simp [nodes] at h
        · simp at hx; exact .inr (.inr hx)
      rintro k s ⟨fin, rs, n, hk', D, P, L, l6, hn, C, hrs⟩
      have hlen := P.len S
      refine ⟨true, .bool, ?_⟩
      refine ite_t ?_
      obtain ⟨ks, hks, hkl, hkm⟩ := D.se
      -- what follows the first statement
      have rest : ∀ fin rs' (s' : St) (Q : Fl → St → Prop), DS T hp sA iA eA nA fin rs' s'.hp → DP T fin (fun _ => False) rs' → DL T sA iA eA nA s'.lo → Cov (T.ns.take (i + 1)) fin rs' → 9 * (e + 2) ≤ k + spent e fin rs' →
          (∀ m st3, m < k → WhI T hp sA iA eA nA e (T.ns.take (i + 1)) m st3 → Q .next st3) → (∀ st3, FoI T hp sA iA eA nA (T.ns.take (i + 1)) st3 → Q .brk st3) → w_fcin s' Q := by
        intro fin rs' s' Q D P L C hk2 k1 k2
        refine fcin_ok S G A D P L C ?_ ?_
        · intro fin' rs'' n' st' D' P' L' C' l6' hn' hne hsp
          have hb := spent_le S G P'
          exact k1 (9 * (e + 2) - spent e fin' rs'') st' (by omega) ⟨fin', rs'', n', by omega, D', P', L', l6', hn', fun x hx => (C' x hx).imp id .inl, fun q => absurd q hne⟩
        · intro fin' st' D' P' L' C'
          exact k2 st' ⟨fin', D', P', L', C'⟩
      unfold fW
      dsimp only [sCons, sIf, bCmp, wLoc]
      refine ⟨_, l6, _, L.e4, _, .inSet hks, ?_⟩
      obtain ⟨ep5, hn2⟩ := D.n2
      have hst := D.st
      cases hc : ks.contains (n : Int) with
      | true =>
        refine ite_t ?_
        have hin := (hkm n).mp hc
        unfold fRet
        dsimp only [sCons, sIf, bCmp, wLoc]
        refine ⟨_, l6, _, L.e5, _, .inDict hn2, ?_⟩
        by_cases hr : n ∈ nodes rs
        · obtain ⟨j, hj, hl⟩ := (idx_lookup rs n).1 hr
          rw [hl]
          refine ite_t ?_
          dsimp only [sRet, wOp, wSlice, wLoc, pSome, wSub, pNone]
          refine ⟨_, L.e2, _, L.e5, _, l6, _, .dict hn2 hl, _, rfl, _, .own hst, by simp [intN, nodes]; omega, by simp, ?_⟩
          intro c hc1
          dsimp only [wList, aCons, wLoc, aNil]
          refine ⟨_, l6, by simp, ?_⟩
          intro c2 hc2
          have hcc : c ≠ c2 := by rintro rfl; change (Hp.set s.hp c _) c = none at hc2; rw [Hp.set_self] at hc2; cases hc2
          show _ ∧ ∃ xs ys, _
          refine ⟨rfl, _, _, set_keep' (Hp.set_self _ _ _) hcc, Hp.set_self _ _ _, by rw [pickV_from]; simp [intN, nodes]; omega, ?_⟩
          intro c3 hc3
          obtain ⟨R, h1, h2, h3⟩ := P.chn.ring hr
          obtain ⟨_, hc2'⟩ := fresh_set hc2
          obtain ⟨_, hc3'⟩ := fresh_set hc3
          obtain ⟨_, hc3''⟩ := fresh_set hc3'
          refine kR c3 _ R _ (((D.ex.new hc1).new hc2).new hc3) (Hp.set_self _ _ _) (by simp) (by rw [pickV_from]; simp [intN, nodes]; omega) h1 ?_
          intro x hx
          obtain ⟨y, hy, hxy⟩ := h3 x hx
          exact ⟨y, (G.iff (P.mem y (List.mem_append_right _ (h2 y hy)))).mp hxy, hy⟩
        · have hf : n ∈ fin := hin.resolve_right hr
          rw [(idx_lookup rs n).2 hr]
          simp only [Option.isSome_none, Bool.false_eq_true, if_false]
          refine rest fin rs s _ D (P.seen hf) L ?_ (by omega) (fun m st3 hm hI => ⟨m, hm, hI⟩) (fun st3 hI => hI)
          intro x hx
          rcases C x hx with h | h | rfl
          · exact .inl h
          · exact .inr h
          · exact .inl hf
      | false =>
        refine ite_f ?_
        have nf : n ∉ fin := fun q => by have := (hkm n).mpr (.inl q); rw [hc] at this; cases this
        have nr : n ∉ nodes rs := fun q => by have := (hkm n).mpr (.inr q); rw [hc] at this; cases this
        unfold fPush
        dsimp only [sCons, sExpr, wSadd, wLoc]
        refine ⟨_, L.e4, eA, rfl, ⟨_, hks⟩, _, l6, ks, n, hks, rfl, by omega, ?_⟩
        rw [hc]
        simp only [Bool.false_eq_true, if_false]
        dsimp only [wAppend, wB, wSub, wLoc, getSlotW, iterW, nextW]
        have x1 : Ext hp (s.hp.set eA (.set ((n : Int) :: ks))) := D.ex.upd A.e
        have hits := D.its
        have ei : iA ≠ eA := ne_of hits hks (by simp)
        have es : sA ≠ eA := ne_of hst hks (by simp)
        have en : nA ≠ eA := ne_of hn2 hks (by simp)
        have sn : sA ≠ nA := ne_of hst hn2 (by simp)
        have inn : iA ≠ nA := ne_of hits hn2 (by simp)
        refine ⟨_, L.e3, iA, rfl, ⟨_, set_keep' hits ei⟩, _, L.e1, _, l6, _, .dict (v := .ref (T.ia n)) (x1 _ _ hk) (by rw [n2i_lookup, if_pos hn]), T.ia n, T.da n, _, _, .ref (T.sa n), rfl, ⟨x1 _ _ (S.info n hn), x1 _ _ (S.idict n hn)⟩, rfl, trivial, T.sa n, _, rfl, x1 _ _ (S.succ n hn), ?_⟩
        intro it fit
        refine ⟨it, T.sa n, 0, rfl, Hp.set_self _ _ _, ?_⟩
        intro mm fm
        obtain ⟨it1, fit'⟩ := fresh_set (show (Hp.set s.hp eA _) it = none from fit)
        obtain ⟨m1, fm'⟩ := fresh_set (show (Hp.set (Hp.set s.hp eA _) it _) mm = none from fm)
        obtain ⟨m2, fm''⟩ := fresh_set fm'
        have ni : iA ≠ it := by rintro rfl; rw [hits] at fit'; cases fit'
        have nm : iA ≠ mm := by rintro rfl; rw [hits] at fm''; cases fm''
        have si : sA ≠ it := by rintro rfl; rw [hst] at fit'; cases fit'
        have sm : sA ≠ mm := by rintro rfl; rw [hst] at fm''; cases fm''
        have nni : nA ≠ it := by rintro rfl; rw [hn2] at fit'; cases fit'
        have nnm : nA ≠ mm := by rintro rfl; rw [hn2] at fm''; cases fm''
        refine ⟨_, set_keep' (set_keep' (set_keep' hits ei) ni) nm, by simp; omega, ?_⟩
        dsimp only [sAssign1, wB, wLoc, lenW, tSub]
        have hst2 := set_keep' (o := O.list ((rs.reverse.map fun f => V.ref f.m) ++ [.ref mm])) (set_keep' (o := .nextm it) (set_keep' (o := .liter (T.sa n) 0) (set_keep' (o := .set ((n : Int) :: ks)) hst es) si) sm) A.si
        have hn3 := set_keep' (o := O.list ((rs.reverse.map fun f => V.ref f.m) ++ [.ref mm])) (set_keep' (o := .nextm it) (set_keep' (o := .liter (T.sa n) 0) (set_keep' (o := .set ((n : Int) :: ks)) hn2 en) nni) nnm) inn.symm
        refine ⟨_, L.e2, _, .list hst2 (by simp [intN, nodes]; omega), _, L.e5, _, l6, nA, _, .dict hn3 (by rw [idx_len]; omega), ?_⟩
        rintro _ ⟨ep', rfl⟩
        rw [(idx_lookup rs n).2 nr]
        simp only [Option.isSome_none, Bool.false_eq_true, if_false]
        refine ⟨_, L.e2, sA, rfl, ⟨_, set_keep' hst2 sn⟩, _, l6, _, set_keep' hst2 sn, by simp [intN, nodes]; omega, ?_⟩
        have hln : (intN (nodes rs).reverse).length = rs.length := by simp [intN, nodes]
        rw [hln]
        refine rest fin (⟨n, 0, it, mm⟩ :: rs) _ _ (D.push A hks hkl hkm fit' ?_ (Hp.set_self _ _ _) (set_keep' (set_keep' (Hp.set_self _ _ _) inn) A.si.symm) ?_ ⟨ep', set_keep' (Hp.set_self _ _ _) sn.symm⟩ ?_ ?_) (P.push hn nf nr it mm) L ?_ ?_ (fun m st3 hm hI => ⟨m, hm, hI⟩) (fun st3 hI => hI)
        · intro b o q b1 b2 b3 b4
          exact set_keep' (set_keep' (set_keep' (set_keepN (set_keepN (set_keep' q b3) fit) fm) b2) b4) b1
        · exact set_keep' (set_keep' (set_keep' (set_keep' (set_keep' (Hp.set_self _ _ _) it1.symm) m2.symm) ei.symm) en.symm) es.symm
        · exact set_keep' (set_keep' (set_keep' (Hp.set_self _ _ _) nm.symm) nnm.symm) sm.symm
        · exact set_keep' (set_keep' (set_keep' (set_keep' (Hp.set_self _ _ _) m1.symm) ni.symm) nni.symm) si.symm
        · intro x hx
          rcases C x hx with h | h | rfl
          · exact .inl h
          · exact .inr (by simp only [nodes, List.map_cons]; exact List.mem_cons_of_mem _ h)
          · exact .inr (by simp [nodes])
        · simp only [spent, sp] at hk' ⊢; omega
  · rintro s ⟨fin, D, P, L, C⟩
    dsimp only [sRet, wNone]
    rw [intN_len, List.take_length] at C
    refine kN fin s.hp D.ex (by simpa [nodes] using P.nodup) ?_ ?_
    · intro n
      constructor
      · intro h; exact P.mem n (by simp [h])
      · intro h; rcases C n h with h | h
        · exact h
        · simp [nodes] at h
    · intro A m B hF x hx
      have hm : m ∈ T.ns := P.mem m (by rw [hF]; simp)
      exact P.post A m B hF x ((G.iff hm).mpr hx)
end Mine
end

noncomputable section
open PySem PySem.W PyProof.Rows
set_option maxHeartbeats 2000000
namespace Mine
theorem aset_rd (d : Addr) (rd : V) (po fi : Int) (v : V) : aset (four d rd po fi) "_ready_nodes" v = four d v po fi := rfl
theorem aset_po (d : Addr) (rd : V) (po fi : Int) (v : Int) : aset (four d rd po fi) "_npassedout" (.int v) = four d rd v fi := rfl
theorem aset_fi (d : Addr) (rd : V) (po fi : Int) (v : Int) : aset (four d rd po fi) "_nfinished" (.int v) = four d rd po v := rfl
noncomputable def lft (nd : Nat → List Nat) (dn : List Nat) (n : Nat) : Nat := ((nd n).filter fun m => decide (m ∉ dn)).length
theorem lft_zero {nd : Nat → List Nat} {dn : List Nat} {n : Nat} : lft nd dn n = 0 ↔ ∀ m ∈ nd n, m ∈ dn := by
  unfold lft
  rw [List.length_eq_zero_iff, List.filter_eq_nil_iff]
  constructor
  · intro h m hm
    have := h m hm
    simpa using this
  · intro h m hm
    simpa using h m hm
theorem lft_nil (nd : Nat → List Nat) (n : Nat) : lft nd [] n = (nd n).length := by
  unfold lft
  rw [List.filter_eq_self.mpr (by simp)]
theorem lft_snoc {dn : List Nat} {k : Nat} (h : k ∉ dn) : ∀ (l : List Nat), (l.filter fun m => decide (m ∉ dn)).length = (l.filter fun m => decide (m ∉ dn ++ [k])).length + l.count k
  | [] => rfl
  | a :: l => by
    have ih := lft_snoc h l
    by_cases h1 : a = k
    · subst h1
      rw [List.filter_cons_of_pos (by simpa using h), List.filter_cons_of_neg (by simp)]
      simp only [List.length_cons, List.count_cons_self]; omega
    · by_cases h2 : a ∈ dn
      · rw [List.filter_cons_of_neg (by simpa using h2), List.filter_cons_of_neg (by simp [h2]), List.count_cons_of_ne h1]; exact ih
      · rw [List.filter_cons_of_pos (by simpa using h2), List.filter_cons_of_pos (by simp [h1, h2]), List.count_cons_of_ne h1]
        simp only [List.length_cons]; omega
structure Run (T : TR) (nd : Nat → List Nat) (e : Nat) (dn ou : List Nat) : Prop where
  nodup : (dn ++ (ou ++ T.rl)).Nodup
  mem : ∀ n ∈ dn ++ (ou ++ T.rl), n ∈ T.ns
  np : ∀ n ∈ T.ns, T.np n = if n ∈ dn then -2 else if n ∈ ou then -1 else (lft nd dn n : Int)
  rl : ∀ n ∈ T.ns, n ∉ dn → n ∉ ou → (∀ m ∈ nd n, m ∈ dn) → n ∈ T.rl
  pre : ∀ n ∈ ou ++ T.rl, ∀ m ∈ nd n, m ∈ dn
  good : Good nd dn
  po : T.po = dn.length + ou.length
  fi : T.fi = dn.length
  sc : ∀ m ∈ T.ns, ∀ n, (T.sc m).count n = (nd n).count m
  out : ∀ n, n ∉ T.ns → nd n = []
  inn : ∀ n, ∀ m ∈ nd n, m ∈ T.ns
  len : ∀ m ∈ T.ns, (T.sc m).length ≤ e
noncomputable def prepW : List V → Hp → (V → Hp → Prop) → (Hp → Prop) → Prop := fun args hp P PE => ∃ (T : TR) (nd : Nat → List Nat) (e : Nat), args = [.ref T.sf] ∧ TS T hp ∧ T.rd = none ∧ T.po = 0 ∧ T.fi = 0 ∧ GrL T nd e ∧
    (∀ T' hp' F, TS T' hp' → Frm T hp T' hp' → T'.sf = T.sf → T'.ns = T.ns → (∃ r, T'.rd = some r) → Run T' nd e [] [] → F.Nodup → (∀ n, n ∈ F ↔ n ∈ T.ns) → (∀ A m B, F = A ++ m :: B → ∀ x, m ∈ nd x → x ∈ A) → P .none hp') ∧
    (∀ T' hp' (R : Nat → Prop), TS T' hp' → Frm T hp T' hp' → T'.sf = T.sf → T'.ns = T.ns → (∃ r, T'.rd = some r) → Run T' nd e [] [] → (∃ n, R n) → (∀ n, R n → ∃ m ∈ nd n, R m) → PE hp')
theorem prep_ok {X : Cx} (args : List V) (hp : Hp) (P : V → Hp → Prop) (PE : Hp → Prop) (h : prepW args hp P PE) : posWx 1 (w_ts_prepare X fcW) args hp P PE := by
  obtain ⟨T, nd, e, rfl, S, h0, hpo, hfi, G, kN, kR⟩ := h
  refine ⟨rfl, ?_⟩
  obtain ⟨ep, hk⟩ := S.keys
  have hlen := S.len
  unfold w_ts_prepare
  dsimp only [xCons, xOf, sIf, bCmp, wB, wLoc, getOwnW, wNone]
  refine ⟨_, rfl, T.sf, T.dx, _, _, .none, rfl, S.inst, by rw [four_rd, h0]; rfl, trivial, false, .isNotNone (.inl ⟨rfl, rfl⟩), ?_⟩
  refine ite_f ?_
  dsimp only [sNil, sAssign1]
  refine comp_run (valuesSrc T.d T.ns.length ep) _ (T.ns.map fun n => V.ref (T.ia n)) (fun i acc s => acc = .list (intN ((T.ns.take i).filter fun n => T.np n == 0)) ∧ s.hp = hp) (fun K h => ⟨_, rfl, T.sf, T.dx, _, _, .ref T.d, rfl, S.inst, rfl, trivial, T.d, _, ep, rfl, hk, by rw [n2i_len]; exact h⟩) (fun _ _ => rfl) (fun _ _ => rfl) ?_ ?_ ?_ ?_
  · rintro i acc s ⟨_, e1⟩
    rw [e1]
    exact ⟨_, hk, n2i_len _ _, by simp [n2i]; rfl⟩
  · exact ⟨rfl, rfl⟩
  · rintro i v acc s ⟨rfl, e1⟩ hv
    simp only [List.getElem?_map, Option.map_eq_some_iff] at hv
    obtain ⟨n, hn, rfl⟩ := hv
    have hns := mem_take_get hn
    dsimp only [tName, bCmp, wB, wLoc, getSlotW, wInt]
    rw [show (St.setL s 0 (V.ref (T.ia n))).hp = hp from e1]
    refine ⟨_, rfl, T.ia n, T.da n, _, _, .int (T.np n), rfl, S.iinst hns, rfl, trivial, (T.np n == 0), .int rfl, ?_⟩
    rw [take_get hn, List.filter_append]
    cases hz : (T.np n == 0) with
    | true =>
      refine ite_t ?_
      dsimp only [addL, wB, wLoc, getSlotW]
      refine ⟨_, rfl, ?_, _, rfl, T.ia n, T.da n, _, _, .int (n : Nat), rfl, S.iinst hns, rfl, trivial, ?_, rfl⟩
      · rw [intN_len]
        exact Nat.lt_of_le_of_lt (List.length_filter_le _ _) (by simp; omega)
      · rw [List.filter_cons_of_pos (p := fun n => T.np n == 0) (a := n) hz]; simp [intN]
    | false =>
      refine ite_f ?_
      rw [List.filter_cons_of_neg (p := fun n => T.np n == 0) (a := n) (by rw [hz]; simp)]
      exact ⟨by simp, rfl⟩
  · rintro acc s ⟨rfl, e1⟩ r hr
    rw [e1] at hr ⊢
    have hT : (T.ns.map fun n => V.ref (T.ia n)).length = T.ns.length := by simp
    rw [hT, List.take_length]
    have rown : ¬ T.Own r := S.free hr
    dsimp only [tAttr, wLoc, setOwnW]
    have S1 := S.out (o := .list (intN (T.ns.filter fun n => T.np n == 0))) rown
    refine ⟨_, rfl, T.sf, T.dx, _, _, rfl, S1.inst, by simp [four], ?_⟩
    have S2 := S1.setRd h0 (Hp.set_self _ _ _) rown
    rw [aset_rd]
    have F2 : Frm T hp { T with rd := some r, rl := T.ns.filter fun n => T.np n == 0 } ((hp.set r (.list (intN (T.ns.filter fun n => T.np n == 0)))).set T.dx (.adict (four T.d (.ref r) T.po T.fi))) := by
      constructor
      · intro b o q nq
        exact set_keep' (set_keepN q hr) (by rintro rfl; exact nq (.inr (.inl rfl)))
      · intro b q
        rcases q with q | q | q | q | q
        · exact .inl (.inl q)
        · exact .inl (.inr (.inl q))
        · exact .inl (.inr (.inr (.inl q)))
        · exact .inl (.inr (.inr (.inr (.inl q))))
        · have : some r = some b := q
          cases this
          exact .inr hr
    have R0 : Run { T with rd := some r, rl := T.ns.filter fun n => T.np n == 0 } nd e [] [] := by
      refine ⟨?_, ?_, ?_, ?_, ?_, .nil, ?_, ?_, G.sc, fun n h => (G.out n h).1, G.inn, G.len⟩
      · simp only [List.nil_append]; exact S.nodup.sublist List.filter_sublist
      · intro n hn; simp only [List.nil_append] at hn; exact (List.mem_filter.mp hn).1
      · intro n hn
        simp only [List.not_mem_nil, if_false, lft_nil]
        exact G.np n hn
      · intro n hn _ _ h
        refine List.mem_filter.mpr ⟨hn, ?_⟩
        have : nd n = [] := by
          cases hh : nd n with
          | nil => rfl
          | cons a l => have := h a (by rw [hh]; simp); simp at this
        rw [G.np n hn, this]; rfl
      · intro n hn m hm
        simp only [List.nil_append] at hn
        have := (List.mem_filter.mp hn)
        have h1 := G.np n this.1
        have h2 : T.np n = 0 := by simpa using this.2
        rw [h2] at h1
        have : nd n = [] := by
          cases hh : nd n with
          | nil => rfl
          | cons a l => rw [hh] at h1; simp at h1; omega
        rw [this] at hm; simp at hm
      · show T.po = _; rw [hpo]; rfl
      · show T.fi = _; rw [hfi]; rfl
    have G2 : GrL { T with rd := some r, rl := T.ns.filter fun n => T.np n == 0 } nd e := ⟨G.np, G.sc, G.out, G.inn, G.len⟩
    dsimp only [sAssign, wMeth0, wLoc]
    refine ⟨_, rfl, T.sf, T.dx, _, _, rfl, S2.inst, rfl, { T with rd := some r, rl := T.ns.filter fun n => T.np n == 0 }, nd, e, rfl, S2, G2, ?_, ?_⟩
    · intro F hp' x hF hm hpost
      dsimp only [xIf, bVal, wLoc]
      refine ⟨_, rfl, false, .none, ?_⟩
      refine ite_f ?_
      exact kN _ hp' F (S2.ext x) (F2.trans ⟨fun b o q _ => x b o q, fun b q => .inl q⟩) rfl rfl ⟨r, rfl⟩ R0 hF hm hpost
    · intro c xs R hp' x hc hne hl hR1 hR2
      dsimp only [xIf, bVal, wLoc]
      refine ⟨_, rfl, _, .list hc (by omega), ?_⟩
      have : xs.isEmpty = false := by cases xs with
        | nil => exact absurd rfl hne
        | cons a l => rfl
      rw [this]
      refine ite_t ?_
      refine ⟨_, rfl, by simp, ?_⟩
      exact kR _ hp' R (S2.ext x) (F2.trans ⟨fun b o q _ => x b o q, fun b q => .inl q⟩) rfl rfl ⟨r, rfl⟩ R0 hR1 hR2
end Mine
end

noncomputable section
open PySem PySem.W PyProof.Rows
set_option maxHeartbeats 2000000
namespace Mine
noncomputable def actW : WF := fun args hp P => ∃ (T : TR) (nd : Nat → List Nat) (e : Nat) (dn : List Nat), args = [.ref T.sf] ∧ TS T hp ∧ (∃ r, T.rd = some r) ∧ Run T nd e dn [] ∧ P (.bool (!T.rl.isEmpty)) hp
theorem Run.rlen {T : TR} {hp : Hp} {nd : Nat → List Nat} {e : Nat} {dn ou : List Nat} (S : TS T hp) (R : Run T nd e dn ou) : dn.length + (ou.length + T.rl.length) ≤ 9 := by
  have := nodup_len 9 _ R.nodup (fun n h => S.lt n (R.mem n h))
  simpa using this
theorem act_ok {X : Cx} (args : List V) (hp : Hp) (P : V → Hp → Prop) (h : actW args hp P) : posW 1 (w_ts_is_active X) args hp P := by
  obtain ⟨T, nd, e, dn, rfl, S, ⟨r, hr⟩, R, k⟩ := h
  refine ⟨rfl, ?_⟩
  have hl := R.rlen S
  have hrl := (S.ready r hr).1
  unfold w_ts_is_active
  dsimp only [sCons, sIf, bCmp, wB, wLoc, getOwnW, wNone]
  refine ⟨_, rfl, T.sf, T.dx, _, _, .ref r, rfl, S.inst, by rw [four_rd, hr]; rfl, trivial, false, .isNone (.inr ⟨.inr ⟨r, _, rfl, hrl⟩, rfl⟩), ?_⟩
  refine ite_f ?_
  dsimp only [sNil, sRet, wOr, wCmp, wB, wLoc, getOwnW, boolW]
  have e1 : T.po = T.fi := by rw [R.po, R.fi]; simp
  refine ⟨_, rfl, T.sf, T.dx, _, _, .int T.fi, rfl, S.inst, rfl, trivial, _, rfl, T.sf, T.dx, _, _, .int T.po, rfl, S.inst, rfl, trivial, false, .int (by simp [cmpI, e1]), false, rfl, ?_⟩
  refine ite_f ?_
  refine ⟨_, rfl, T.sf, T.dx, _, _, .ref r, rfl, S.inst, by rw [four_rd, hr]; rfl, trivial, r, _, rfl, hrl, by rw [intN_len]; omega, ?_⟩
  have : (intN T.rl).isEmpty = T.rl.isEmpty := by simp [intN]
  rw [this]
  exact k
noncomputable def grW : WF := fun args hp P => ∃ (T : TR) (nd : Nat → List Nat) (e : Nat) (dn : List Nat), args = [.ref T.sf] ∧ TS T hp ∧ (∃ r, T.rd = some r) ∧ Run T nd e dn [] ∧
    ∀ T' hp', TS T' hp' → Frm T hp T' hp' → T'.sf = T.sf → T'.ns = T.ns → T'.rd = T.rd → T'.rl = [] → Run T' nd e dn T.rl → P (.tup (intN T.rl)) hp'
noncomputable def npOut (T : TR) (l : List Nat) : TR := { T with np := fun n => if n ∈ l then -1 else T.np n }
theorem gr_ok {X : Cx} (args : List V) (hp : Hp) (P : V → Hp → Prop) (h : grW args hp P) : posW 1 (w_ts_get_ready X) args hp P := by
  obtain ⟨T, nd, e, dn, rfl, S, ⟨r, hr⟩, R, k⟩ := h
  refine ⟨rfl, ?_⟩
  have hl := R.rlen S
  have hrl := (S.ready r hr).1
  obtain ⟨ep, hk⟩ := S.keys
  unfold w_ts_get_ready
  dsimp only [sCons, sIf, bCmp, wB, wLoc, getOwnW, wNone]
  refine ⟨_, rfl, T.sf, T.dx, _, _, .ref r, rfl, S.inst, by rw [four_rd, hr]; rfl, trivial, false, .isNone (.inr ⟨.inr ⟨r, _, rfl, hrl⟩, rfl⟩), ?_⟩
  refine ite_f ?_
  dsimp only [sNil, sAssign, wB, wLoc, getOwnW, tupleW]
  refine ⟨_, rfl, T.sf, T.dx, _, _, .ref r, rfl, S.inst, by rw [four_rd, hr]; rfl, trivial, r, _, rfl, hrl, by rw [intN_len]; omega, ?_⟩
  refine ⟨_, rfl, T.sf, T.dx, _, _, .ref T.d, rfl, S.inst, rfl, trivial, ?_⟩
  refine sFor_run (tupSrc (intN T.rl)) _ (intN T.rl) (fun i s => s.lo 0 = some (.ref T.sf) ∧ s.lo 1 = some (.tup (intN T.rl)) ∧ s.lo 2 = some (.ref T.d) ∧ TS (npOut T (T.rl.take i)) s.hp ∧ Frm T hp (npOut T (T.rl.take i)) s.hp) (fun K h => ⟨_, rfl, _, rfl, h⟩) (fun _ _ => rfl) (fun _ _ => rfl) (fun i _ _ => rfl) ?_ ?_ ?_
  · have : npOut T (T.rl.take 0) = T := by simp [npOut]
    rw [this]
    exact ⟨rfl, rfl, rfl, S, .refl _ _⟩
  · rintro i v s ⟨l0, l1, l2, S', F'⟩ hv
    obtain ⟨n, hn, rfl⟩ := intN_get hv
    have hns : n ∈ T.ns := R.mem n (by simp [mem_take_get hn])
    refine body_gen ?_
    intro QQ hQQ
    dsimp only [tName, sAssign1, wInt, tAttr, wSub, wLoc, setSlotW]
    obtain ⟨ep', hk'⟩ := S'.keys
    refine ⟨_, l2, _, rfl, _, .dict (v := .ref (T.ia n)) hk' (by rw [n2i_lookup]; exact if_pos hns), T.ia n, T.da n, _, _, rfl, S'.iinst hns, ?_⟩
    have S2 := S'.setNp hns (-1)
    have F2 := F'.trans (frm_setNp (hp := s.hp) (T := npOut T (T.rl.take i)) hns (-1) (infO (T.da n) n (-1) (T.sa n)))
    have e1 : (npOut T (T.rl.take i)).setNp n (-1) = npOut T (T.rl.take (i + 1)) := by
      rw [take_get hn]
      simp only [TR.setNp, npOut]
      congr 1
      funext x
      by_cases q : x = n
      · subst q; rw [fup_self]; simp
      · rw [fup_ne _ _ q]; simp [q]
    rw [e1] at S2 F2
    rw [hQQ]
    exact ⟨l0, l1, l2, S2, F2⟩
  · rintro s ⟨l0, l1, l2, S', F'⟩
    rw [intN_len, List.take_length] at S' F'
    dsimp only [sExpr, wClear, wB, wLoc, getOwnW]
    have hrl' := (S'.ready r hr).1
    refine ⟨_, l0, T.sf, T.dx, _, _, .ref r, rfl, S'.inst, (by rw [four_rd]; show some (rdV T.rd) = _; rw [hr]; rfl), trivial, r, _, rfl, hrl', (by rw [intN_len]; show T.rl.length < _; omega), ?_⟩
    have S2 := S'.setRl hr []
    have F2 := F'.trans (frm_setRl (hp := s.hp) (T := npOut T T.rl) hr [] (.list []))
    dsimp only [sAugAttr, wLoc, getOwnW, wB, lenW, setOwnW]
    refine ⟨_, l0, T.sf, T.dx, _, _, .int T.po, rfl, S2.inst, rfl, trivial, _, l1, T.rl.length, ?_, ?_⟩
    · have : T.rl.length = (intN T.rl).length := by simp [intN]
      rw [this]; exact .tup (by rw [intN_len]; omega)
    show ∃ a dx os fs, _
    refine ⟨T.sf, T.dx, _, _, rfl, S2.inst, by simp [four], ?_⟩
    have S3 := S2.setDx (T.po + (T.rl.length : Nat)) T.fi
    have F3 := F2.trans (frm_setDx (T := (npOut T T.rl).setRl []) (hp := s.hp.set r (.list [])) (T.po + (T.rl.length : Nat)) T.fi (.adict (four T.d (rdV T.rd) (T.po + (T.rl.length : Nat)) T.fi)))
    rw [aset_po]
    dsimp only [sRet, wLoc]
    refine ⟨_, l1, ?_⟩
    refine k _ _ S3 F3 rfl rfl rfl rfl ?_
    refine ⟨?_, ?_, ?_, ?_, ?_, R.good, ?_, R.fi, R.sc, R.out, R.inn, R.len⟩
    · show (dn ++ (T.rl ++ [])).Nodup
      rw [List.append_nil]; simpa using R.nodup
    · intro n hn
      have hn : n ∈ dn ++ (T.rl ++ []) := hn
      rw [List.append_nil] at hn
      exact R.mem n (by simpa using hn)
    · intro n hn
      show (if n ∈ T.rl then -1 else T.np n) = _
      rw [R.np n hn]
      by_cases q : n ∈ dn
      · have : n ∉ T.rl := by
          intro q2
          have := (List.nodup_append.mp R.nodup).2.2 n q n (by simp [q2])
          exact this rfl
        simp [q, this]
      · simp [q]
    · intro n hn h1 h2 h3
      exact absurd (R.rl n hn h1 (by simp) h3) h2
    · intro n hn
      have hn : n ∈ T.rl ++ [] := hn
      exact R.pre n (by simpa using hn)
    · show T.po + (T.rl.length : Nat) = _
      rw [R.po]; simp
end Mine
end

noncomputable section
open PySem PySem.W PyProof.Rows
set_option maxHeartbeats 2000000
namespace Mine
noncomputable def doneW : WF := fun args hp P => ∃ (T : TR) (nd : Nat → List Nat) (e n : Nat) (dn ou : List Nat), args = [.ref T.sf, .int (n : Nat)] ∧ TS T hp ∧ (∃ r, T.rd = some r) ∧ Run T nd e dn (n :: ou) ∧ e < 900000 ∧
    ∀ T' hp', TS T' hp' → Frm T hp T' hp' → T'.sf = T.sf → T'.ns = T.ns → T'.rd = T.rd → Run T' nd e (dn ++ [n]) ou → P .none hp'
structure Mid (T : TR) (k : Nat) (l : List Nat) (T' : TR) (add : List Nat) : Prop where
  sf : T'.sf = T.sf
  dx : T'.dx = T.dx
  d : T'.d = T.d
  ns : T'.ns = T.ns
  ia : T'.ia = T.ia
  da : T'.da = T.da
  sa : T'.sa = T.sa
  sc : T'.sc = T.sc
  rd : T'.rd = T.rd
  po : T'.po = T.po
  fi : T'.fi = T.fi
  rl : T'.rl = T.rl ++ add
  np : ∀ n ∈ T.ns, T'.np n = if n = k then -2 else T.np n - (l.count n : Int)
  nodup : add.Nodup
  iff : ∀ n, n ∈ add ↔ n ∈ l ∧ T.np n = (l.count n : Int)
theorem Mid.zero (T : TR) (k : Nat) : Mid T k [] (T.setNp k (-2)) [] := by
  refine ⟨rfl, rfl, rfl, rfl, rfl, rfl, rfl, rfl, rfl, rfl, rfl, by simp [TR.setNp], ?_, by simp, by simp⟩
  intro n hn
  show fup T.np k (-2) n = _
  by_cases q : n = k
  · subst q; rw [fup_self, if_pos rfl]
  · rw [fup_ne _ _ q, if_neg q]; simp
theorem Mid.dec {T T' : TR} {k x : Nat} {l add : List Nat} (M : Mid T k l T' add) (hx : x ≠ k) (hxs : x ∈ T.ns) (hgt : (l.count x : Int) < T.np x) :
    (T.np x = ((l ++ [x]).count x : Int) → Mid T k (l ++ [x]) ((T'.setNp x (T'.np x - 1)).setRl (T'.rl ++ [x])) (add ++ [x])) ∧ (T.np x ≠ ((l ++ [x]).count x : Int) → Mid T k (l ++ [x]) (T'.setNp x (T'.np x - 1)) add) := by
  have hcx : (l ++ [x]).count x = l.count x + 1 := by simp
  have hcn : ∀ n, n ≠ x → (l ++ [x]).count n = l.count n := by
    intro n h; rw [List.count_append]; simp [Ne.symm h]
  have hnp : ∀ n ∈ T.ns, fup T'.np x (T'.np x - 1) n = if n = k then -2 else T.np n - ((l ++ [x]).count n : Int) := by
    intro n hn
    by_cases q : n = x
    · subst q; rw [fup_self, M.np n hn, if_neg hx, if_neg hx, hcx]; omega
    · rw [fup_ne _ _ q, M.np n hn, hcn n q]
  have hxa : x ∉ add := by
    intro q; have := ((M.iff x).mp q).2; omega
  constructor
  · intro he
    refine ⟨M.sf, M.dx, M.d, M.ns, M.ia, M.da, M.sa, M.sc, M.rd, M.po, M.fi, ?_, hnp, ?_, ?_⟩
    · show T'.rl ++ [x] = _; rw [M.rl]; simp
    · rw [List.nodup_append]
      refine ⟨M.nodup, by simp, ?_⟩
      intro a ha b hb e
      simp at hb; subst hb; subst e; exact hxa ha
    · intro n
      by_cases q : n = x
      · subst q; simp only [List.mem_append, List.mem_singleton, or_true, true_and, true_iff]; exact he
      · rw [hcn n q]; simp only [List.mem_append, List.mem_singleton, q, or_false]; exact M.iff n
  · intro he
    refine ⟨M.sf, M.dx, M.d, M.ns, M.ia, M.da, M.sa, M.sc, M.rd, M.po, M.fi, M.rl, hnp, M.nodup, ?_⟩
    intro n
    by_cases q : n = x
    · subst q
      constructor
      · intro h; exact absurd h hxa
      · intro h; exact absurd h.2 he
    · rw [hcn n q]; simp only [List.mem_append, List.mem_singleton, q, or_false]; exact M.iff n
theorem Run.succ {T : TR} {nd : Nat → List Nat} {e k x : Nat} {dn ou : List Nat} (R : Run T nd e dn (k :: ou)) (hx : x ∈ T.sc k) : x ∈ T.ns ∧ x ≠ k ∧ x ∉ dn ∧ x ∉ k :: ou ∧ x ∉ T.rl ∧ T.np x = (lft nd dn x : Int) ∧ ((T.sc k).count x : Int) ≤ T.np x ∧ k ∈ nd x := by
  have hk : k ∈ T.ns := R.mem k (by simp)
  have kd : k ∉ dn := fun q => (List.nodup_append.mp R.nodup).2.2 k q k (by simp) rfl
  have hin : k ∈ nd x := by
    rw [← List.count_pos_iff, ← R.sc k hk x, List.count_pos_iff]; exact hx
  have hxs : x ∈ T.ns := by
    apply Classical.byContradiction
    intro q
    rw [R.out x q] at hin; simp at hin
  have hxd : x ∉ dn := by
    intro q
    obtain ⟨A, B, hAB⟩ := List.append_of_mem q
    have := R.good.pre A x B hAB k hin
    exact kd (by rw [hAB]; simp [this])
  have hp : x ∉ (k :: ou) ++ T.rl := fun q => kd (R.pre x q k hin)
  have h1 : x ∉ k :: ou := fun q => hp (List.mem_append_left _ q)
  have h2 : x ∉ T.rl := fun q => hp (List.mem_append_right _ q)
  have hnp := R.np x hxs
  rw [if_neg hxd, if_neg h1] at hnp
  refine ⟨hxs, fun q => h1 (by simp [q]), hxd, h1, h2, hnp, ?_, hin⟩
  rw [hnp, R.sc k hk x]
  have := lft_snoc kd (nd x)
  unfold lft
  omega
theorem Run.done {T T' : TR} {hp : Hp} {nd : Nat → List Nat} {e k : Nat} {dn ou add : List Nat} (S : TS T hp) (R : Run T nd e dn (k :: ou)) (M : Mid T k (T.sc k) T' add) : Run { T' with fi := T'.fi + 1 } nd e (dn ++ [k]) ou := by
  have hk : k ∈ T.ns := R.mem k (by simp)
  have kd : k ∉ dn := fun q => (List.nodup_append.mp R.nodup).2.2 k q k (by simp) rfl
  have ko : k ∉ ou ∧ k ∉ T.rl := by
    have := (List.nodup_append.mp R.nodup).2.1
    have := (List.nodup_cons.mp (show (k :: (ou ++ T.rl)).Nodup from this)).1
    exact ⟨fun q => this (by simp [q]), fun q => this (by simp [q])⟩
  have hadd : ∀ n ∈ add, n ∈ T.sc k ∧ T.np n = ((T.sc k).count n : Int) := fun n h => (M.iff n).mp h
  have hl : ∀ n, lft nd dn n = lft nd (dn ++ [k]) n + (nd n).count k := fun n => lft_snoc kd (nd n)
  refine ⟨?_, ?_, ?_, ?_, ?_, ?_, ?_, ?_, ?_, ?_, ?_, ?_⟩
  · show (dn ++ [k] ++ (ou ++ T'.rl)).Nodup
    rw [M.rl]
    have h1 : (dn ++ ((k :: ou) ++ T.rl)).Nodup := R.nodup
    have : dn ++ [k] ++ (ou ++ (T.rl ++ add)) = (dn ++ ((k :: ou) ++ T.rl)) ++ add := by simp
    rw [this, List.nodup_append]
    refine ⟨h1, M.nodup, ?_⟩
    intro a ha b hb e
    subst e
    obtain ⟨q1, q2, q3, q4, q5, q6, q7⟩ := R.succ (hadd a hb).1
    rcases List.mem_append.mp ha with ha | ha
    · exact q3 ha
    · rcases List.mem_append.mp ha with ha | ha
      · exact q4 ha
      · exact q5 ha
  · intro n hn
    show n ∈ T'.ns
    rw [M.ns]
    have hn : n ∈ dn ++ [k] ++ (ou ++ T'.rl) := hn
    rw [M.rl] at hn
    have hn : n ∈ dn ++ ((k :: ou) ++ T.rl) ∨ n ∈ add := by
      simp only [List.mem_append, List.mem_cons, List.not_mem_nil, or_false] at hn ⊢
      rcases hn with (h | h) | h | h | h
      · exact .inl (.inl h)
      · exact .inl (.inr (.inl (.inl h)))
      · exact .inl (.inr (.inl (.inr h)))
      · exact .inl (.inr (.inr h))
      · exact .inr h
    rcases hn with h | h
    · exact R.mem n h
    · exact (R.succ (hadd n h).1).1
  · intro n hn
    have hn : n ∈ T'.ns := hn
    rw [M.ns] at hn
    show T'.np n = _
    rw [M.np n hn]
    by_cases q : n = k
    · rw [if_pos q, if_pos (by simp [q])]
    · rw [if_neg q, R.np n hn]
      have hc := R.sc k hk n
      by_cases q1 : n ∈ dn
      · have : n ∉ T.sc k := fun h => (R.succ h).2.2.1 q1
        rw [if_pos q1, if_pos (by simp [q1]), List.count_eq_zero_of_not_mem this]; rfl
      · rw [if_neg q1, if_neg (show n ∉ dn ++ [k] by simp [q1, q])]
        by_cases q2 : n ∈ ou
        · have : n ∉ T.sc k := fun h => (R.succ h).2.2.2.1 (by simp [q2])
          rw [if_pos (show n ∈ k :: ou by simp [q2]), if_pos q2, List.count_eq_zero_of_not_mem this]; rfl
        · rw [if_neg (show n ∉ k :: ou by simp [q, q2]), if_neg q2, hl n, hc]; omega
  · intro n hn h1 h2 h3
    have hn : n ∈ T'.ns := hn
    rw [M.ns] at hn
    show n ∈ T'.rl
    rw [M.rl]
    have d1 : n ∉ dn := fun q => h1 (by simp [q])
    have d2 : n ≠ k := fun q => h1 (by simp [q])
    have d3 : n ∉ k :: ou := by simp [d2, h2]
    by_cases q : k ∈ nd n
    · have hz := lft_zero.mpr h3
      have hsc : n ∈ T.sc k := by rw [← List.count_pos_iff, R.sc k hk n, List.count_pos_iff]; exact q
      have hnp := (R.succ hsc).2.2.2.2.2.1
      exact List.mem_append_right _ ((M.iff n).mpr ⟨hsc, by rw [hnp, hl n, hz, R.sc k hk n]; simp⟩)
    · refine List.mem_append_left _ (R.rl n hn d1 d3 ?_)
      intro m hm
      have := h3 m hm
      simp only [List.mem_append, List.mem_singleton] at this
      rcases this with h | rfl
      · exact h
      · exact absurd hm q
  · intro n hn m hm
    have hn : n ∈ ou ++ T'.rl := hn
    rw [M.rl] at hn
    have hn : n ∈ (k :: ou) ++ T.rl ∨ n ∈ add := by
      simp only [List.mem_append, List.mem_cons] at hn ⊢
      rcases hn with h | h | h
      · exact .inl (.inl (.inr h))
      · exact .inl (.inr h)
      · exact .inr h
    rcases hn with h | h
    · exact List.mem_append_left _ (R.pre n h m hm)
    · obtain ⟨h1, h2⟩ := hadd n h
      have hnp := (R.succ h1).2.2.2.2.2.1
      have : lft nd (dn ++ [k]) n = 0 := by
        have a := hl n
        have b := R.sc k hk n
        omega
      exact lft_zero.mp this m hm
  · exact R.good.snoc (S.lt k hk) kd (fun m hm => R.pre k (by simp) m hm)
  · show T'.po = _
    rw [M.po, R.po]; simp; omega
  · show T'.fi + 1 = _
    rw [M.fi, R.fi]; simp
  · intro m hm n
    have hm : m ∈ T'.ns := hm
    rw [M.ns] at hm
    show (T'.sc m).count n = _
    rw [M.sc]; exact R.sc m hm n
  · intro n hn
    have hn : n ∉ T'.ns := hn
    rw [M.ns] at hn
    exact R.out n hn
  · intro n m hm
    show m ∈ T'.ns
    rw [M.ns]; exact R.inn n m hm
  · intro m hm
    have hm : m ∈ T'.ns := hm
    rw [M.ns] at hm
    show (T'.sc m).length ≤ e
    rw [M.sc]; exact R.len m hm
end Mine
end

noncomputable section
open PySem PySem.W PyProof.Rows
set_option maxHeartbeats 2000000
namespace Mine

noncomputable def dIn (X : Cx) : WS := sCons (sAssign 7 (wSub (wLoc 2) (wLoc 6)))
  (sCons (sAugAttr .Sub (wLoc 7) (getSlotW 40 1) (wInt (1)) (setSlotW 40 1))
  (sCons (sIf (bCmp X .Eq (wB (getSlotW 40 1) (wLoc 7)) (wInt (0))) (sCons (sExpr (wAppend (wB (getOwnW 137 "_ready_nodes") (wLoc 0)) (wLoc 6)))
  (sNil)) (sNil))
  (sNil)))
noncomputable def dB5 : WS := sCons (sAugAttr .Add (wLoc 0) (getOwnW 137 "_nfinished") (wInt (1)) (setOwnW 137 "_nfinished")) sNil
noncomputable def dB4 (X : Cx) : WS := sCons (sFor (iList (wB (getSlotW 40 2) (wLoc 4))) (tName 6) (dIn X)) dB5
noncomputable def dB3 (X : Cx) : WS := sCons (sAssign1 (wInt (-2)) (tAttr (wLoc 4) (setSlotW 40 1))) (dB4 X)
noncomputable def dB2 (X : Cx) : WS := sCons (sIf (bCmp X .NotEq (wLoc 5) (wInt (-1))) (sNever) (sNil)) (dB3 X)
noncomputable def dB1 (X : Cx) : WS := sCons (sAssign 5 (wB (getSlotW 40 1) (wLoc 4))) (dB2 X)
noncomputable def dB0 (X : Cx) : WS := sCons (sIf (bCmp X .Is (wWal (wDget (wLoc 2) (wLoc 3)) (tName 4)) (wNone)) (sNever) (sNil)) (dB1 X)
noncomputable def dT2 (X : Cx) : WS := sCons (sFor (iTup (wLoc 1)) (tName 3) (dB0 X)) sNil
noncomputable def dT1 (X : Cx) : WS := sCons (sAssign 2 (wB (getOwnW 137 "_node2info") (wLoc 0))) (dT2 X)
theorem done_ok {X : Cx} (args : List V) (hp : Hp) (P : V → Hp → Prop) (h : doneW args hp P) : varW 1 (w_ts_done X) args hp P := by
  obtain ⟨T, nd, e, n, dn, ou, rfl, S, ⟨r, hr⟩, R, he, k⟩ := h
  refine ⟨[.ref T.sf], [.int (n : Nat)], rfl, rfl, by simp, ?_⟩
  have hl := R.rlen S
  have hrl := (S.ready r hr).1
  have hn : n ∈ T.ns := R.mem n (by simp)
  obtain ⟨ep, hk⟩ := S.keys
  show sCons _ (dT1 X) _ _
  dsimp only [sCons, sIf, bCmp, wB, wLoc, getOwnW, wNone]
  refine ⟨_, rfl, T.sf, T.dx, _, _, .ref r, rfl, S.inst, by rw [four_rd, hr]; rfl, trivial, false, .isNone (.inr ⟨.inr ⟨r, _, rfl, hrl⟩, rfl⟩), ?_⟩
  refine ite_f ?_
  unfold dT1
  dsimp only [sNil, sCons, sAssign, wB, wLoc, getOwnW]
  refine ⟨_, rfl, T.sf, T.dx, _, _, .ref T.d, rfl, S.inst, rfl, trivial, ?_⟩
  unfold dT2
  dsimp only [sCons]
  have fin : ∀ st, (∃ T', TS T' st.hp ∧ Frm T hp T' st.hp ∧ T'.sf = T.sf ∧ T'.ns = T.ns ∧ T'.rd = T.rd ∧ Run T' nd e (dn ++ [n]) ou) → finW P .next st := by
    rintro st ⟨T', S', F', e1, e2, e3, R'⟩
    exact k T' st.hp S' F' e1 e2 e3 R'
  refine sFor_run (tupSrc [.int (n : Nat)]) _ [.int (n : Nat)] (fun i s => (i = 0 ∧ s.lo 0 = some (.ref T.sf) ∧ s.lo 2 = some (.ref T.d) ∧ s.hp = hp) ∨ (i = 1 ∧ ∃ T', TS T' s.hp ∧ Frm T hp T' s.hp ∧ T'.sf = T.sf ∧ T'.ns = T.ns ∧ T'.rd = T.rd ∧ Run T' nd e (dn ++ [n]) ou)) (fun K h => ⟨_, rfl, _, rfl, h⟩) (fun _ _ => rfl) (fun _ _ => rfl) (fun i _ _ => rfl) ?_ ?_ ?_
  · exact .inl ⟨rfl, rfl, rfl, rfl⟩
  · rintro i v s hI hv
    have hi : i = 0 := by
      cases i with
      | zero => rfl
      | succ i => simp at hv
    subst hi
    rcases hI with ⟨_, l0, l2, eh⟩ | ⟨h, _⟩
    case inr => omega
    have : v = .int (n : Nat) := by simpa using hv.symm
    subst this
    obtain ⟨lo, hq⟩ := s
    have eh : hq = hp := eh
    subst eh
    unfold dB0
    dsimp only [sCons, sIf, tName, bCmp, wWal, wDget, wLoc, wNone, St.setL]
    refine ⟨_, l2, T.d, rfl, ⟨_, _, hk⟩, _, rfl, _, ep, n, hk, rfl, ?_⟩
    rw [n2i_lookup, if_pos hn]
    refine ⟨false, .isNone (.inr ⟨.inr ⟨T.ia n, _, rfl, S.info n hn⟩, rfl⟩), ?_⟩
    refine ite_f ?_
    unfold dB1
    dsimp only [sNil, sCons, sAssign, wB, wLoc, getSlotW]
    have hnp : T.np n = -1 := by
      rw [R.np n hn]
      have : n ∉ dn := fun q => (List.nodup_append.mp R.nodup).2.2 n q n (by simp) rfl
      simp [this]
    refine ⟨_, rfl, T.ia n, T.da n, _, _, .int (T.np n), rfl, S.iinst hn, rfl, trivial, ?_⟩
    unfold dB2
    dsimp only [sCons, sIf, bCmp, wLoc, wInt]
    refine ⟨_, rfl, false, .int (by rw [hnp]; rfl), ?_⟩
    refine ite_f ?_
    unfold dB3
    dsimp only [sNil, sCons, sAssign1, wInt, tAttr, wLoc, setSlotW]
    refine ⟨_, rfl, T.ia n, T.da n, _, _, rfl, S.iinst hn, ?_⟩
    have S1 := S.setNp hn (-2)
    have F1 := frm_setNp (hp := hq) hn (-2) (infO (T.da n) n (-2) (T.sa n))
    have hsl := R.len n hn
    unfold dB4
    dsimp only [sCons]
    refine sFor_run (listSrc (T.sa n)) _ (intN (T.sc n)) (fun i s => ∃ T' add, s.lo 0 = some (.ref T.sf) ∧ s.lo 2 = some (.ref T.d) ∧ TS T' s.hp ∧ Frm T hq T' s.hp ∧ Mid T n ((T.sc n).take i) T' add) (fun K h => ⟨_, rfl, T.ia n, T.da n, _, _, .ref (T.sa n), rfl, S1.iinst hn, rfl, trivial, T.sa n, _, rfl, S1.succ n hn, h⟩) (fun _ _ => rfl) (fun _ _ => rfl) ?_ ?_ ?_ ?_
    · rintro i s ⟨T', add, l0, l2, S', F', M⟩
      have := S'.succ n (by rw [M.ns]; exact hn)
      rw [M.sa, M.sc] at this
      exact ⟨_, this, rfl⟩
    · exact ⟨_, [], l0, l2, S1, F1, Mid.zero T n⟩
    · rintro i v s ⟨T', add, l0, l2, S', F', M⟩ hv
      obtain ⟨x, hx, rfl⟩ := intN_get hv
      have hxm := mem_take_get hx
      obtain ⟨q1, q2, q3, q4, q5, q6, q7, q8⟩ := R.succ hxm
      have hx' : x ∈ T'.ns := by rw [M.ns]; exact q1
      have hcnt : (((T.sc n).take i).count x : Int) < T.np x := by
        have h1 : ((T.sc n).take (i + 1)).count x ≤ (T.sc n).count x := (List.take_sublist _ _).count_le x
        rw [take_get hx] at h1
        simp at h1
        omega
      obtain ⟨ep', hk'⟩ := S'.keys
      rw [M.d] at hk'
      refine body_gen ?_
      intro QQ hQQ
      unfold dIn
      dsimp only [tName, sCons, sAssign, wSub, wLoc, St.setL]
      refine ⟨_, l2, _, rfl, _, .dict (v := .ref (T'.ia x)) hk' (by rw [n2i_lookup]; exact if_pos hx'), ?_⟩
      dsimp only [sAugAttr, wLoc, getSlotW, wInt, setSlotW]
      refine ⟨_, rfl, T'.ia x, T'.da x, _, _, .int (T'.np x), rfl, S'.iinst hx', rfl, trivial, ?_⟩
      show ∃ a dx os fs, _
      refine ⟨T'.ia x, T'.da x, _, _, rfl, S'.iinst hx', ?_⟩
      have S2 := S'.setNp hx' (T'.np x - 1)
      have F2 := F'.trans (frm_setNp (hp := s.hp) hx' (T'.np x - 1) (infO (T'.da x) x (T'.np x - 1) (T'.sa x)))
      have hnx : T'.np x - 1 = T.np x - (((T.sc n).take i ++ [x]).count x : Int) := by
        rw [M.np x q1, if_neg q2]; simp; omega
      have D := M.dec q2 q1 hcnt
      rw [← take_get hx] at D hnx
      dsimp only [sIf, bCmp, wB, wLoc, getSlotW, wInt]
      have hI2 : Inst (s.hp.set (T'.ia x) (infO (T'.da x) x (T'.np x - 1) (T'.sa x))) (T'.ia x) 40 (T'.da x) [some (.int (x : Nat)), some (.int (T'.np x - 1)), some (.ref (T'.sa x))] [] := ⟨Hp.set_self _ _ _, S2.idict x hx'⟩
      refine ⟨_, rfl, T'.ia x, T'.da x, _, _, .int (T'.np x - 1), rfl, hI2, rfl, trivial, (T'.np x - 1 == 0), .int rfl, ?_⟩
      by_cases hz : T'.np x - 1 = 0
      · rw [show (T'.np x - 1 == 0) = true by simp [hz]]
        refine ite_t ?_
        dsimp only [sCons, sExpr, wAppend, wB, wLoc, getOwnW]
        have hr' : T'.rd = some r := M.rd.trans hr
        have hrl2 := (S2.ready r hr').1
        have M2 := D.1 (by omega)
        have hil := i
        have hrlen : (T'.rl).length ≤ 9 := by
          have h1 : (T.rl ++ add).Nodup := by
            rw [List.nodup_append]
            refine ⟨(List.nodup_append.mp (List.nodup_append.mp R.nodup).2.1).2.1, M.nodup, ?_⟩
            intro a ha b hb e
            subst e
            have := ((M.iff a).mp hb).1
            exact (R.succ (List.mem_of_mem_take this)).2.2.2.2.1 ha
          rw [M.rl]
          refine nodup_len 9 _ h1 ?_
          intro a ha
          rcases List.mem_append.mp ha with ha | ha
          · exact S.lt a (R.mem a (by simp [ha]))
          · exact S.lt a (R.succ (List.mem_of_mem_take ((M.iff a).mp ha).1)).1
        have hI3 : Inst (s.hp.set (T'.ia x) (infO (T'.da x) x (T'.np x - 1) (T'.sa x))) T.sf 137 T.dx [] (four T.d (rdV T.rd) T.po T.fi) := by
          rw [← M.sf, ← M.dx, ← M.d, ← M.rd, ← M.po, ← M.fi]; exact S2.inst
        refine ⟨_, l0, T.sf, T.dx, _, _, .ref r, rfl, hI3, (by rw [four_rd, hr]; rfl), trivial, r, rfl, ⟨_, hrl2⟩, _, rfl, _, hrl2, (by rw [intN_len]; show T'.rl.length < _; omega), ?_⟩
        · have S3 := S2.setRl hr' (T'.rl ++ [x])
          have F3 := F2.trans (frm_setRl (hp := s.hp.set (T'.ia x) (infO (T'.da x) x (T'.np x - 1) (T'.sa x))) (T := T'.setNp x (T'.np x - 1)) hr' (T'.rl ++ [x]) (.list (intN (T'.rl ++ [x]))))
          have ei : intN (T'.rl ++ [x]) = intN T'.rl ++ [.int (x : Nat)] := by simp [intN]
          rw [ei] at S3 F3
          rw [hQQ]
          exact ⟨_, _, l0, l2, S3, F3, M2⟩
      · rw [show (T'.np x - 1 == 0) = false by simp [hz]]
        refine ite_f ?_
        rw [hQQ]
        exact ⟨_, _, l0, l2, S2, F2, D.2 (by omega)⟩
    · rintro s ⟨T', add, l0, l2, S', F', M⟩
      rw [intN_len, List.take_length] at M
      unfold dB5
      dsimp only [sCons, sAugAttr, wLoc, getOwnW, wInt, setOwnW]
      have hI : Inst s.hp T.sf 137 T.dx [] (four T.d (rdV T.rd) T.po T.fi) := by
        have := S'.inst
        rw [M.sf, M.dx, M.d, M.rd, M.po, M.fi] at this
        exact this
      refine ⟨_, l0, T.sf, T.dx, _, _, .int T.fi, rfl, hI, rfl, trivial, ?_⟩
      show ∃ a dx os fs, _
      refine ⟨T.sf, T.dx, _, _, rfl, hI, by simp [four], ?_⟩
      rw [aset_fi]
      have S3 := S'.setDx T'.po (T'.fi + 1)
      have F3 := F'.trans (frm_setDx (T := T') (hp := s.hp) T'.po (T'.fi + 1) (.adict (four T'.d (rdV T'.rd) T'.po (T'.fi + 1))))
      refine .inr ⟨rfl, { T' with fi := T'.fi + 1 }, ?_, ?_, M.sf, M.ns, M.rd, R.done S M⟩
      · show TS _ (s.hp.set T.dx (.adict (four T.d (rdV T.rd) T.po (T.fi + 1))))
        rw [← M.dx, ← M.d, ← M.rd, ← M.po, ← M.fi]; exact S3
      · show Frm T hq _ (s.hp.set T.dx (.adict (four T.d (rdV T.rd) T.po (T.fi + 1))))
        rw [← M.dx, ← M.d, ← M.rd, ← M.po, ← M.fi]; exact F3
  · rintro s hI
    rcases hI with ⟨h, _⟩ | ⟨_, h⟩
    · simp at h
    · exact fin s h
end Mine
end

noncomputable section
open PySem PySem.W PyProof.Rows
set_option maxHeartbeats 2000000
namespace Mine
theorem Frm.ext {hp : Hp} {T T' : TR} {h h' : Hp} (F : Frm T h T' h') (x : Ext hp h) (off : ∀ b o, hp b = some o → ¬ T.Own b) : Ext hp h' ∧ ∀ b o, hp b = some o → ¬ T'.Own b :=
  ⟨fun b o q => F.keep b o (x b o q) (off b o q), fun b o q => F.off (x b o q) (off b o q)⟩
end Mine
end

noncomputable section
open PySem PySem.W PyProof.Rows
set_option maxHeartbeats 2000000
namespace Mine
noncomputable def tsi0W : WF := fun args hp P => ∃ (a dx : Addr), args = [.ref a] ∧ hp a = some (.inst 137 dx []) ∧ hp dx = some (.adict []) ∧ ∀ d hp', TS (emptyT a dx d) hp' → Aside hp a dx (emptyT a dx d) hp' → P .none hp'
theorem tsi0_ok {X : Cx} (args : List V) (hp : Hp) (P : V → Hp → Prop) (h : tsi0W args hp P) : posW1 1 .none (w_ts_init X addW) args hp P := by
  obtain ⟨a, dx, rfl, ha, hdx, k⟩ := h
  refine ⟨rfl, ?_⟩
  refine ts_head (a := a) (dx := dx) rfl ha hdx ?_
  intro d hp1 S1 A1
  dsimp only [sCons, sIf, bCmp, wLoc, wNone]
  refine ⟨_, rfl, false, .isNotNone (.inl ⟨rfl, rfl⟩), ?_⟩
  refine ite_f ?_
  exact k d hp1 S1 A1
structure PBT (cg : Cogs) (hp : Hp) (d l sf : Addr) (e : Nat) (D : Nat → Nat → Prop) (N : Nat → Prop) (T : TR) (nd : Nat → List Nat) (st : St) : Prop where
  S : TS T st.hp
  rd : T.rd = none
  po : T.po = 0
  fi : T.fi = 0
  hsf : T.sf = sf
  G : GrL T nd e
  ex : Ext hp st.hp
  off : ∀ b o, hp b = some o → ¬ T.Own b
  nl : ∀ q, ∀ p ∈ nd q, p < 6 ∧ ∃ k, k < 3 ∧ q ∈ cg p k
  tell : ∀ p o, D p o → p ∈ nd o
  ns6 : ∀ m ∈ T.ns, m < 6
  has : ∀ m, N m → m ∈ T.ns
  l0 : st.lo 0 = some (.ref d)
  l1 : st.lo 1 = some (.ref l)
  l2 : st.lo 2 = some (.ref sf)
noncomputable def PB (cg : Cogs) (hp : Hp) (d l sf : Addr) (e : Nat) (D : Nat → Nat → Prop) (N : Nat → Prop) (st : St) : Prop := ∃ T nd, PBT cg hp d l sf e D N T nd st
theorem PB.mono {cg : Cogs} {hp : Hp} {d l sf : Addr} {e e' : Nat} {D D' : Nat → Nat → Prop} {N N' : Nat → Prop} {st : St} {lo : Nat → Option V} (I : PB cg hp d l sf e D N st) (he : e ≤ e') (hD : ∀ p o, D' p o → D p o) (hN : ∀ m, N' m → N m) (h0 : lo 0 = st.lo 0) (h1 : lo 1 = st.lo 1) (h2 : lo 2 = st.lo 2) : PB cg hp d l sf e' D' N' ⟨lo, st.hp⟩ :=
  let ⟨T, nd, I⟩ := I
  ⟨T, nd, I.S, I.rd, I.po, I.fi, I.hsf, I.G.le he, I.ex, I.off, I.nl, fun p o h => I.tell p o (hD p o h), I.ns6, fun m h => I.has m (hN m h), h0.trans I.l0, h1.trans I.l1, h2.trans I.l2⟩
theorem PB.ext {cg : Cogs} {hp : Hp} {d l sf : Addr} {e : Nat} {D : Nat → Nat → Prop} {N : Nat → Prop} {st : St} (I : PB cg hp d l sf e D N st) : Ext hp st.hp := let ⟨_, _, I⟩ := I; I.ex
theorem PB.lo0 {cg : Cogs} {hp : Hp} {d l sf : Addr} {e : Nat} {D : Nat → Nat → Prop} {N : Nat → Prop} {st : St} (I : PB cg hp d l sf e D N st) : st.lo 0 = some (.ref d) := let ⟨_, _, I⟩ := I; I.l0
theorem pb_add {cg : Cogs} {hp : Hp} {d l sf : Addr} {e n : Nat} {ps : List Nat} {D : Nat → Nat → Prop} {N : Nat → Prop} {st : St} {Ws : WA} {Q : V → St → Prop} (I : PB cg hp d l sf e D N st) (hW : ∀ K : List V → St → Prop, K (.int (n : Nat) :: intN ps) st → Ws st K) (hn : n < 6) (hps : ∀ p ∈ ps, p < 6 ∧ ∃ k, k < 3 ∧ n ∈ cg p k) (he : e + ps.length < 900000)
    (k : ∀ hp', PB cg hp d l sf (e + ps.length) (fun p o => D p o ∨ (o = n ∧ p ∈ ps)) (fun m => N m ∨ m = n) ⟨st.lo, hp'⟩ → Q .none ⟨st.lo, hp'⟩) : wMeth 137 "add" addW (wLoc 2) Ws st Q := by
  obtain ⟨T, nd, I⟩ := I
  dsimp only [wMeth, wLoc]
  refine ⟨_, I.l2, sf, T.dx, _, _, rfl, I.hsf ▸ I.S.inst, rfl, hW _ ⟨T, n, e, ps, nd, by rw [I.hsf], by omega, fun p h => by have := (hps p h).1; omega, he, I.S, I.rd, I.G, ?_⟩⟩
  intro T' hp' S' F' W' G' N'
  obtain ⟨x', o'⟩ := F'.ext I.ex I.off
  refine k hp' ⟨T', _, S', W'.rd.trans I.rd, W'.po.trans I.po, W'.fi.trans I.fi, W'.sf.trans I.hsf, G', x', o', ?_, ?_, ?_, ?_, I.l0, I.l1, I.l2⟩
  · intro q p hp
    by_cases e : q = n
    · subst e
      rw [fup_self] at hp
      rcases List.mem_append.mp hp with h | h
      · exact I.nl _ p h
      · exact hps p h
    · rw [fup_ne _ _ e] at hp; exact I.nl q p hp
  · rintro p o (h | ⟨rfl, h⟩)
    · have := I.tell p o h
      by_cases e : o = n
      · subst e; rw [fup_self]; exact List.mem_append_left _ this
      · rw [fup_ne _ _ e]; exact this
    · rw [fup_self]; exact List.mem_append_right _ h
  · intro m hm
    rcases (N' m).mp hm with h | h | h
    · exact I.ns6 m h
    · omega
    · exact (hps m h).1
  · rintro m (h | h)
    · exact (N' m).mpr (.inl (I.has m h))
    · exact (N' m).mpr (.inr (.inl h))
noncomputable def w_fill : WS := sFor (iRange (wInt (6))) (tName 3) (sCons (sFor (iList (wSub (wLoc 0) (wLoc 3))) (tName 4) (sCons (sFor (iList (wLoc 4)) (tName 5) (sCons (sExpr (wMeth 137 "add" addW (wLoc 2) (aCons (wLoc 5) (aCons (wLoc 3) (aNil)))))
  (sNil)))
  (sNil)))
  (sCons (sExpr (wMeth 137 "add" addW (wLoc 2) (aCons (wLoc 3) (aNil))))
  (sNil)))
theorem fill_ok {cg : Cogs} {rk : Nat → Nat} {hp : Hp} {d l sf : Addr} {wa : Nat → Addr} {ca : Nat → Nat → Addr} {st : St} {Q : Fl → St → Prop} (wh : WhAt cg hp d wa ca) (W : Wh cg rk) (I : PB cg hp d l sf 0 (fun _ _ => False) (fun _ => False) st)
    (k : ∀ st', PB cg hp d l sf 60 (fun p o => p < 6 ∧ ∃ k, k < 3 ∧ o ∈ cg p k) (fun m => m < 6) st' → Q .next st') : w_fill st Q := by
  unfold w_fill
  refine sFor_run (rangeSrc 6) _ (rangeV 6) (fun i st => PB cg hp d l sf (10 * i) (fun p o => p < i ∧ ∃ k, k < 3 ∧ o ∈ cg p k) (fun m => m < i) st) (fun K h => ⟨6, rfl, by omega, by omega, h⟩) (fun _ _ => rfl) (fun _ _ => rfl) (fun i _ _ => rangeV_get 6 i) ?_ ?_ ?_
  · exact I.mono (Nat.le_refl _) (fun p o h => absurd h.1 (Nat.not_lt_zero _)) (fun m h => absurd h (Nat.not_lt_zero _)) rfl rfl rfl
  · rintro p v st I hv
    rw [rangeV_get] at hv
    split at hv
    case isFalse => cases hv
    case isTrue h6 =>
    cases hv
    have hp6 : p < 6 := by omega
    dsimp only [tName, sCons]
    refine sFor_run (listSrc (wa p)) _ [.ref (ca p 0), .ref (ca p 1), .ref (ca p 2)] (fun k st => PB cg hp d l sf (10 * p + 2 * k) (fun q o => (q < p ∧ ∃ k, k < 3 ∧ o ∈ cg q k) ∨ (q = p ∧ ∃ j, j < k ∧ o ∈ cg p j)) (fun m => m < p) st ∧ st.lo 3 = some (.int (p : Nat))) (fun K h => ⟨_, I.lo0, _, rfl, _, (wh.ext I.ext).get hp6, _, _, rfl, I.ext _ _ (wh.whl p hp6), h⟩) (fun _ _ => rfl) (fun _ _ => rfl) ?_ ?_ ?_ ?_
    · rintro k st ⟨J, _⟩
      exact ⟨_, J.ext _ _ (wh.whl p hp6), rfl⟩
    · refine ⟨I.mono (by omega) ?_ (fun _ h => h) rfl rfl rfl, rfl⟩
      rintro q o (h | ⟨rfl, j, hj, _⟩)
      · exact h
      · exact absurd hj (Nat.not_lt_zero _)
    · rintro k v st ⟨J, l3⟩ hv
      have hk : k < 3 := by simpa using (List.getElem?_eq_some_iff.mp hv).1
      have hv' : v = .ref (ca p k) := by
        have : k = 0 ∨ k = 1 ∨ k = 2 := by omega
        rcases this with rfl | rfl | rfl <;> (simp at hv; exact hv.symm)
      subst hv'
      dsimp only [tName]
      have hl2 := W.len p hp6 k hk
      refine sFor_run (listSrc (ca p k)) _ (intN (cg p k)) (fun j st => PB cg hp d l sf (10 * p + 2 * k + j) (fun q o => ((q < p ∧ ∃ k, k < 3 ∧ o ∈ cg q k) ∨ (q = p ∧ ∃ j, j < k ∧ o ∈ cg p j)) ∨ (q = p ∧ o ∈ (cg p k).take j)) (fun m => m < p) st ∧ st.lo 3 = some (.int (p : Nat))) (fun K h => ⟨_, rfl, _, _, rfl, J.ext _ _ (wh.cog p hp6 k hk), h⟩) (fun _ _ => rfl) (fun _ _ => rfl) ?_ ?_ ?_ ?_
      · rintro j st ⟨J, _⟩
        exact ⟨_, J.ext _ _ (wh.cog p hp6 k hk), rfl⟩
      · refine ⟨J.mono (Nat.le_refl _) ?_ (fun _ h => h) rfl rfl rfl, l3⟩
        rintro q o (h | ⟨_, h⟩)
        · exact h
        · rw [List.take_zero] at h; cases h
      · rintro j v st ⟨J, l3⟩ hv
        obtain ⟨o, ho, rfl⟩ := intN_get hv
        have hj := (List.getElem?_eq_some_iff.mp ho).1
        have J2 := J.mono (lo := setLo st.lo 5 (.int (o : Nat))) (Nat.le_refl _) (fun _ _ h => h) (fun _ h => h) rfl rfl rfl
        dsimp only [tName, sExpr]
        refine pb_add (n := o) (ps := [p]) J2 (fun K h => ⟨_, rfl, _, l3, h⟩) (W.up p hp6 k hk o (mem_take_get ho)).1 ?_ (by simp; omega) ?_
        · intro q hq
          rw [List.mem_singleton] at hq
          subst hq
          exact ⟨hp6, k, hk, mem_take_get ho⟩
        · intro hp' J3
          refine ⟨J3.mono (Nat.le_refl _) ?_ (fun _ h => .inl h) rfl rfl rfl, l3⟩
          rintro q o' (h | ⟨rfl, h⟩)
          · exact .inl (.inl h)
          · rw [take_get ho] at h
            rcases List.mem_append.mp h with h | h
            · exact .inl (.inr ⟨rfl, h⟩)
            · rw [List.mem_singleton] at h
              exact .inr ⟨h, by simp⟩
      · rintro st ⟨J, l3⟩
        rw [intN_len] at J
        refine ⟨J.mono (by omega) ?_ (fun _ h => h) rfl rfl rfl, l3⟩
        rintro q o (h | ⟨rfl, j, hj, h⟩)
        · exact .inl (.inl h)
        · by_cases e : j = k
          · subst e; exact .inr ⟨rfl, by rw [List.take_length]; exact h⟩
          · exact .inl (.inr ⟨rfl, j, by omega, h⟩)
    · rintro st ⟨J, l3⟩
      dsimp only [sExpr]
      refine pb_add (n := p) (ps := []) J (fun K h => ⟨_, l3, h⟩) hp6 (fun q hq => by cases hq) (by simp; omega) ?_
      intro hp' J3
      refine J3.mono (by simp; omega) ?_ ?_ rfl rfl rfl
      · rintro q o ⟨hq, k, hk, h⟩
        by_cases e : q = p
        · subst e; exact .inl (.inr ⟨rfl, k, hk, h⟩)
        · exact .inl (.inl ⟨by omega, k, hk, h⟩)
      · intro m hm
        by_cases e : m = p
        · exact .inr e
        · exact .inl (by omega)
  · rintro st I
    exact k st I
end Mine
end

noncomputable section
open PySem PySem.W PyProof.Rows
set_option maxHeartbeats 2000000
namespace Mine
noncomputable def w_serve (X : Cx) : WS := sWhile (bCmp X .Gt (wSub (wLoc 7) (wLoc 3)) (wInt (0))) (sCons (sFor (iList (wSub (wSub (wLoc 0) (wLoc 3)) (wOp .Mod (wSub (wLoc 6) (wLoc 3)) (wInt (3))))) (tName 5) (sCons (sAugSub .Add (wLoc 7) (wLoc 5) (wInt (1)))
  (sNil)))
  (sCons (sAugSub .Add (wLoc 6) (wLoc 3) (wInt (1)))
  (sCons (sAugSub .Sub (wLoc 7) (wLoc 3) (wInt (1)))
  (sNil))))
structure SV (cg : Cogs) (hp h0 : Hp) (d a b sf : Addr) (p : Nat) (M s w : Nat → Nat) (st : St) : Prop where
  l0 : st.lo 0 = some (.ref d)
  l2 : st.lo 2 = some (.ref sf)
  l3 : st.lo 3 = some (.int (p : Nat))
  l6 : st.lo 6 = some (.ref a)
  l7 : st.lo 7 = some (.ref b)
  x : Ext hp st.hp
  kp : ∀ c o, h0 c = some o → c ≠ a → c ≠ b → st.hp c = some o
  ha : st.hp a = some (.list (sixV s))
  hb : st.hp b = some (.list (sixV w))
theorem SV.set5 {cg : Cogs} {hp h0 : Hp} {d a b sf : Addr} {p : Nat} {M s w : Nat → Nat} {st : St} (S : SV cg hp h0 d a b sf p M s w st) (v : V) : SV cg hp h0 d a b sf p M s w (st.setL 5 v) := ⟨S.l0, S.l2, S.l3, S.l6, S.l7, S.x, S.kp, S.ha, S.hb⟩
theorem SV.seta {cg : Cogs} {hp h0 : Hp} {d a b sf : Addr} {p : Nat} {M s w : Nat → Nat} {st : St} (S : SV cg hp h0 d a b sf p M s w st) (fa : hp a = none) (ne : a ≠ b) (s' : Nat → Nat) : SV cg hp h0 d a b sf p M s' w (st.setH a (.list (sixV s'))) :=
  ⟨S.l0, S.l2, S.l3, S.l6, S.l7, S.x.upd fa, fun c o h n1 n2 => set_keep' (S.kp c o h n1 n2) n1, Hp.set_self _ _ _, set_keep' S.hb ne.symm⟩
theorem SV.setb {cg : Cogs} {hp h0 : Hp} {d a b sf : Addr} {p : Nat} {M s w : Nat → Nat} {st : St} (S : SV cg hp h0 d a b sf p M s w st) (fb : hp b = none) (ne : a ≠ b) (w' : Nat → Nat) : SV cg hp h0 d a b sf p M s w' (st.setH b (.list (sixV w'))) :=
  ⟨S.l0, S.l2, S.l3, S.l6, S.l7, S.x.upd fb, fun c o h n1 n2 => set_keep' (S.kp c o h n1 n2) n2, set_keep' S.ha ne, Hp.set_self _ _ _⟩
theorem serve_ok {X : Cx} {cg : Cogs} {rk : Nat → Nat} {hp h0 : Hp} {d a b sf : Addr} {wa : Nat → Addr} {ca : Nat → Nat → Addr} {p : Nat} {M s w : Nat → Nat} {dn : List Nat} {st : St} {Q : Fl → St → Prop} (wh : WhAt cg hp d wa ca) (W : Wh cg rk) (hp6 : p < 6) (fa : hp a = none) (fb : hp b = none) (ne : a ≠ b)
    (hdn : ∀ q ∈ dn, ∀ k, k < 3 → q ∉ cg p k) (hpd : p ∉ dn) (S : SV cg hp h0 d a b sf p M s w st) (B : Bal cg M s w) (z : ∀ q ∈ dn, w q = 0)
    (k : ∀ s' w' st', SV cg hp h0 d a b sf p M s' w' st' → Bal cg M s' w' → (∀ q ∈ dn, w' q = 0) → w' p = 0 → Q .next st') : w_serve X st Q := by
  unfold w_serve
  dsimp only [sWhile]
  refine ⟨fun n st => ∃ s w, n = w p ∧ SV cg hp h0 d a b sf p M s w st ∧ Bal cg M s w ∧ ∀ q ∈ dn, w q = 0, ⟨_, s, w, rfl, S, B, z⟩, ?_⟩
  rintro _ st ⟨s, w, rfl, S, B, z⟩
  dsimp only [bCmp, wSub, wLoc, wInt]
  refine ⟨_, S.l7, _, S.l3, _, .list S.hb (by omega) (by omega) (sixV_get w hp6), decide (0 < w p), .int (by simp [cmpI]), ?_⟩
  by_cases hpos : 0 < w p
  · refine ite_dt hpos ?_
    have hk : s p % 3 < 3 := Nat.mod_lt _ (by omega)
    dsimp only [sCons]
    refine sFor_run (listSrc (ca p (s p % 3))) _ (intN (cg p (s p % 3))) (fun j st => ∃ w1, (∀ q, w1 q = w q + ((cg p (s p % 3)).take j).count q) ∧ SV cg hp h0 d a b sf p M s w1 st) (fun K h => ⟨_, S.l0, _, S.l3, _, (wh.ext S.x).get hp6, _, S.l6, _, S.l3, _, .list S.ha (by omega) (by omega) (sixV_get s hp6), by omega, .ref (ca p (s p % 3)), by rw [mod3]; exact (wh.ext S.x).getk hp6 hk, _, _, rfl, (wh.ext S.x).cog p hp6 _ hk, h⟩) (fun _ _ => rfl) (fun _ _ => rfl) ?_ ?_ ?_ ?_
    · rintro j st ⟨_, _, S⟩
      exact ⟨_, (wh.ext S.x).cog p hp6 _ hk, rfl⟩
    · exact ⟨w, fun q => by rw [List.take_zero]; rfl, S⟩
    · rintro j v st ⟨w1, hw1, S⟩ hv
      obtain ⟨o, ho, rfl⟩ := intN_get hv
      have ho6 := (W.up p hp6 _ hk o (mem_take_get ho)).1
      dsimp only [tName]
      refine aug6_one (p := o) S.l7 rfl S.hb ho6 ?_
      refine ⟨fup w1 o (w1 o + 1), fun q => ?_, (S.set5 _).setb fb ne _⟩
      rw [take_get ho, List.count_append, List.count_singleton]
      have := hw1 q
      by_cases e : q = o
      · subst e; rw [fup_self, if_pos (by simp)]; omega
      · rw [fup_ne _ _ e, if_neg (by simpa using fun h => e h.symm)]; omega
    · rintro st ⟨w1, hw1, S⟩
      rw [intN_len, List.take_length] at hw1
      have hp0 : (cg p (s p % 3)).count p = 0 := List.count_eq_zero_of_not_mem (W.notself hp6 hk)
      have hwp := hw1 p
      refine aug6_one (p := p) S.l6 S.l3 S.ha hp6 ?_
      have S2 := S.seta fa ne (fup s p (s p + 1))
      refine aug6 (p := p) (v := w1 p - 1) S2.l7 S2.l3 S2.hb hp6 (fun K h => h 1 ?_) ?_
      · have : ((w1 p : Nat) : Int) - 1 = ((w1 p - 1 : Nat) : Int) := by omega
        rw [← this]; rfl
      · refine ⟨w1 p - 1, by omega, fup s p (s p + 1), fup w1 p (w1 p - 1), by rw [fup_self], S2.setb fb ne _, B.step hp6 fun q hq => ?_, fun q hq => ?_⟩
        · have := hw1 q
          by_cases e : q = p
          · subst e; rw [fup_self, if_pos rfl]; omega
          · rw [fup_ne _ _ e, if_neg e]; omega
        · have e : q ≠ p := fun e => hpd (e ▸ hq)
          rw [fup_ne _ _ e, hw1 q, z q hq, List.count_eq_zero_of_not_mem (hdn q hq _ hk)]
  · refine ite_df hpos ?_
    exact k s w st S B z (by omega)
structure PI (cg : Cogs) (nd : Nat → List Nat) (hp : Hp) (d a b sf : Addr) (M : Nat → Nat) (e : Nat) (dn ou : List Nat) (T : TR) (s w : Nat → Nat) (st : St) : Prop where
  S : TS T st.hp
  rd : ∃ r, T.rd = some r
  ns : ∀ n, n ∈ T.ns ↔ n < 6
  R : Run T nd e dn ou
  hsf : T.sf = sf
  ex : Ext hp st.hp
  off : ∀ b o, hp b = some o → ¬ T.Own b
  fa : hp a = none
  fb : hp b = none
  ne : a ≠ b
  aoff : ¬ T.Own a
  boff : ¬ T.Own b
  ha : st.hp a = some (.list (sixV s))
  hb : st.hp b = some (.list (sixV w))
  B : Bal cg M s w
  z : ∀ q ∈ dn, w q = 0
  l0 : st.lo 0 = some (.ref d)
  l2 : st.lo 2 = some (.ref sf)
  l6 : st.lo 6 = some (.ref a)
  l7 : st.lo 7 = some (.ref b)
noncomputable def w_pbtail (X : Cx) : WS := sCons (sWhile (bVal (wMeth0 137 "is_active" actW (wLoc 2))) (sCons (sFor (iTup (wMeth0 137 "get_ready" grW (wLoc 2))) (tName 3) (sCons (w_serve X)
  (sCons (sExpr (wMeth 137 "done" doneW (wLoc 2) (aCons (wLoc 3) (aNil))))
  (sNil))))
  (sNil)))
  (sCons (sRet (wTuple (aCons (wLoc 6) (aCons (wLoc 7) (aNil)))))
  (sNil))
theorem pbtail_ok {X : Cx} {cg : Cogs} {rk : Nat → Nat} {nd : Nat → List Nat} {hp : Hp} {d a b sf : Addr} {wa : Nat → Addr} {ca : Nat → Nat → Addr} {M s w : Nat → Nat} {e : Nat} {T : TR} {st : St} {Q : Fl → St → Prop} (wh : WhAt cg hp d wa ca) (W : Wh cg rk) (he : e < 900000) (hnd : ∀ p o, p < 6 → (∃ k, k < 3 ∧ o ∈ cg p k) → p ∈ nd o) (hnl : ∀ q, ∀ p ∈ nd q, p < 6 ∧ ∃ k, k < 3 ∧ q ∈ cg p k)
    (O0 : PI cg nd hp d a b sf M e [] [] T s w st)
    (k : ∀ s st', Ext hp st'.hp → st'.hp a = some (.list (sixV s)) → st'.hp b = some (.list (sixV fun _ => 0)) → Fixd cg M s → Q (.ret (.tup [.ref a, .ref b])) st') : w_pbtail X st Q := by
  unfold w_pbtail
  dsimp only [sCons, sWhile]
  refine ⟨fun k st => ∃ T dn s w, k + dn.length = 9 ∧ PI cg nd hp d a b sf M e dn [] T s w st, ⟨9, T, [], s, w, rfl, O0⟩, ?_⟩
  rintro m st ⟨T, dn, s, w, hm, O⟩
  dsimp only [bVal, wMeth0, wLoc]
  refine ⟨_, O.l2, sf, T.dx, _, _, rfl, O.hsf ▸ O.S.inst, rfl, T, nd, e, dn, by rw [O.hsf], O.S, O.rd, O.R, _, .bool, ?_⟩
  cases hrl : T.rl with
  | nil =>
    simp only [List.isEmpty_nil, Bool.not_true, Bool.false_eq_true, if_false]
    dsimp only [sRet, wTuple, aCons, wLoc, aNil]
    refine ⟨_, O.l6, _, O.l7, by simp, ?_⟩
    -- all are done
    have all : ∀ n q, q < 6 → rk q < n → q ∈ dn := by
      intro n
      induction n with
      | zero => intro q _ h; exact absurd h (Nat.not_lt_zero _)
      | succ n ih =>
        intro q hq hr
        apply Classical.byContradiction
        intro hqd
        have : q ∈ T.rl := O.R.rl q ((O.ns q).mpr hq) hqd (by simp) (by
          intro p hp
          obtain ⟨hp6, j, hj, hm⟩ := hnl q p hp
          have := (W.up p hp6 j hj q hm).2
          exact ih p hp6 (by omega))
        rw [hrl] at this; simp at this
    have hw : ∀ q, q < 6 → w q = 0 := fun q hq => O.z q (all 6 q hq (W.lt q hq))
    exact k s st O.ex O.ha (O.hb.trans (by rw [sixV_congr hw])) (O.B.fix hw)
  | cons r0 rs0 =>
    simp only [List.isEmpty_cons, Bool.not_false, if_true]
    have hlen := O.R.rlen O.S
    have hpos : 0 < T.rl.length := by rw [hrl]; simp
    clear hrl
    refine sFor_gen ?_
    intro PP hPP
    dsimp only [sFor, iTup, wMeth0, wLoc]
    refine ⟨_, O.l2, sf, T.dx, _, _, rfl, O.hsf ▸ O.S.inst, rfl, T, nd, e, dn, by rw [O.hsf], O.S, O.rd, O.R, ?_⟩
    intro T1 hp1 S1 F1 e1 e2 e3 e4 R1
    obtain ⟨x1, o1⟩ := F1.ext O.ex O.off
    refine ⟨_, rfl, ?_⟩
    refine for_run (src := tupSrc (intN T.rl)) (intN T.rl) (fun i st => ∃ T' s w, PI cg nd hp d a b sf M e (dn ++ T.rl.take i) (T.rl.drop i) T' s w st) (fun _ _ => rfl) (fun _ _ => rfl) (fun i _ _ => rfl) ?_ ?_ ?_
    · exact ⟨T1, s, w, S1, by rw [e3]; exact O.rd, by rw [e2]; exact O.ns, by simpa using R1, e1.trans O.hsf, x1, o1, O.fa, O.fb, O.ne, F1.off O.ha O.aoff, F1.off O.hb O.boff, F1.keep _ _ O.ha O.aoff, F1.keep _ _ O.hb O.boff, O.B, by simpa using O.z, O.l0, O.l2, O.l6, O.l7⟩
    · rintro i v st2 ⟨T2, s2, w2, O2⟩ hv
      obtain ⟨n, hn, rfl⟩ := intN_get hv
      have hdrop : T.rl.drop i = n :: T.rl.drop (i + 1) := by
        obtain ⟨hi, hx⟩ := List.getElem?_eq_some_iff.mp hn
        rw [List.drop_eq_getElem_cons hi, hx]
      have R2 := O2.R
      rw [hdrop] at R2
      have hn6 : n < 6 := (O2.ns n).mp (R2.mem n (by simp))
      have hnot : n ∉ dn ++ T.rl.take i := fun q => (List.nodup_append.mp R2.nodup).2.2 n q n (by simp) rfl
      dsimp only [tName, sCons]
      refine serve_ok (X := X) (s := s2) (w := w2) (p := n) (dn := dn ++ T.rl.take i) (h0 := st2.hp) (M := M) (sf := sf) wh W hn6 O2.fa O2.fb O2.ne ?_ hnot ⟨O2.l0, O2.l2, rfl, O2.l6, O2.l7, O2.ex, fun c o h _ _ => h, O2.ha, O2.hb⟩ O2.B O2.z ?_
      · intro q hq k hk hm
        obtain ⟨A, C, hAC⟩ := List.append_of_mem hq
        have := R2.good.pre A q C hAC n (hnd n q hn6 ⟨k, hk, hm⟩)
        exact hnot (by rw [hAC]; simp [this])
      · intro s3 w3 st3 V B3 z3 zp
        have own : ∀ c, T2.Own c → c ≠ a ∧ c ≠ b := fun c hc => ⟨by rintro rfl; exact O2.aoff hc, by rintro rfl; exact O2.boff hc⟩
        have S3 : TS T2 st3.hp := O2.S.frame fun c o hc h => V.kp c o h (own c hc).1 (own c hc).2
        dsimp only [sExpr, wMeth, wLoc, aCons, aNil]
        refine ⟨_, V.l2, sf, T2.dx, _, _, rfl, O2.hsf ▸ S3.inst, rfl, _, V.l3, T2, nd, e, n, _, _, by rw [O2.hsf], S3, O2.rd, R2, he, ?_⟩
        intro T4 hp4 S4 F4 f1 f2 f3 R4
        obtain ⟨x4, o4⟩ := F4.ext V.x O2.off
        refine ⟨T4, s3, w3, S4, by rw [f3]; exact O2.rd, by rw [f2]; exact O2.ns, ?_, f1.trans O2.hsf, x4, o4, O2.fa, O2.fb, O2.ne, F4.off V.ha O2.aoff, F4.off V.hb O2.boff, F4.keep _ _ V.ha O2.aoff, F4.keep _ _ V.hb O2.boff, B3, ?_, V.l0, V.l2, V.l6, V.l7⟩
        · rw [take_get hn, ← List.append_assoc]; exact R4
        · intro q hq
          rw [take_get hn, ← List.append_assoc] at hq
          rcases List.mem_append.mp hq with h | h
          · exact z3 q h
          · rw [List.mem_singleton] at h; subst h; exact zp
    · rintro st2 ⟨T2, s2, w2, O2⟩
      rw [intN_len, List.take_length, List.drop_length] at O2
      have h1 := O2.R.rlen O2.S
      have h1' : (dn ++ T.rl).length ≤ 9 := by simp at h1 ⊢; omega
      simp at h1'
      rw [hPP]
      exact ⟨m - T.rl.length, by omega, T2, dn ++ T.rl, s2, w2, by simp; omega, O2⟩
end Mine
end

noncomputable section
open PySem PySem.W PyProof.Rows
set_option maxHeartbeats 2000000
namespace Mine
noncomputable def prep0W : WF := fun args hp P => prepW args hp P fun _ => False
noncomputable def pbpW : WF := fun args hp P => ∃ (d l : Addr) (ls : List Nat) (cg : Cogs) (rk : Nat → Nat) (wa : Nat → Addr) (ca : Nat → Nat → Addr), args = [.ref d, .ref l] ∧ hp l = some (.list (intN ls)) ∧ WhAt cg hp d wa ca ∧ Wh cg rk ∧
    ∀ a b s hp', Ext hp hp' → hp a = none → hp b = none → hp' a = some (.list (sixV s)) → hp' b = some (.list (sixV fun _ => 0)) → Fixd cg (fun q => ls.count q) s → P (.tup [.ref a, .ref b]) hp'
theorem pbp_ok {X : Cx} (args : List V) (hp : Hp) (P : V → Hp → Prop) (h : pbpW args hp P) : posW 2 (w__law_place_by_place X actW grW doneW prep0W addW tsi0W) args hp P := by
  obtain ⟨d, l, ls, cg, rk, wa, ca, rfl, hl, wh, W, k⟩ := h
  refine ⟨rfl, ?_⟩
  unfold w__law_place_by_place
  show sCons _ (sCons w_fill (sCons _ (sCons (sSwap2 6 7 (wTuple (aCons _ (aCons w_cnt aNil)))) (w_pbtail X)))) _ _
  generalize hT : w_pbtail X = WT
  generalize hF : w_fill = WF
  dsimp only [sCons, sAssign, wNew0, newW]
  intro sf dx ha hdx hne
  change hp sf = none at ha
  change hp dx = none at hdx
  refine ⟨sf, dx, rfl, Hp.set_self _ _ _, set_keep' (Hp.set_self _ _ _) hne.symm, ?_⟩
  intro d0 hp1 S1 A1
  refine ⟨rfl, ?_⟩
  have x0 : Ext hp ((hp.set dx (.adict [])).set sf (.inst 137 dx [])) := ((Ext.refl hp).upd hdx).upd ha
  have x1 : ∀ b o, hp b = some o → hp1 b = some o ∧ ¬ (emptyT sf dx d0).Own b := fun b o q => A1 b o (x0 b o q) (by rintro rfl; rw [ha] at q; cases q) (by rintro rfl; rw [hdx] at q; cases q)
  rw [← hF]
  refine fill_ok (cg := cg) (rk := rk) (hp := hp) (d := d) (l := l) (sf := sf) (wa := wa) (ca := ca) wh W ⟨emptyT sf dx d0, fun _ => [], S1, rfl, rfl, rfl, rfl, emptyT_gr sf dx d0, fun b o q => (x1 b o q).1, fun b o q => (x1 b o q).2, fun q p h => (by cases h), fun p o h => h.elim, fun m h => (by cases h), fun m h => h.elim, rfl, rfl, rfl⟩ ?_
  rintro st ⟨T, nd, I⟩
  have tell : ∀ p o, p < 6 → (∃ k, k < 3 ∧ o ∈ cg p k) → p ∈ nd o := fun p o h1 h2 => I.tell p o ⟨h1, h2⟩
  dsimp only [sExpr, wMeth0, wLoc]
  refine ⟨_, I.l2, sf, T.dx, _, _, rfl, I.hsf ▸ I.S.inst, rfl, T, nd, 60, by rw [I.hsf], I.S, I.rd, I.po, I.fi, I.G, ?_, ?_⟩
  · intro T' hp' F S' F' e1 e2 e3 R' _ _ _
    obtain ⟨x', o'⟩ := F'.ext I.ex I.off
    have ns : ∀ n, n ∈ T'.ns ↔ n < 6 := fun n => by rw [e2]; exact ⟨I.ns6 n, I.has n⟩
    dsimp only [sSwap2, wTuple, aCons, aNil, wOp, wList, wInt, binW]
    refine ⟨by simp, ?_⟩
    intro a0 f0
    have f0 : hp' a0 = none := f0
    refine ⟨rfl, _, Hp.set_self _ _ _, by simp, by omega, by omega, ?_⟩
    rw [zeros6]
    intro a fa
    have fa0 : (hp'.set a0 (.list [.int 0])) a = none := fa
    have X2 : Ext hp' ((hp'.set a0 (.list [.int 0])).set a (.list (sixV fun _ => 0))) := ((Ext.refl hp').new f0).new fa0
    refine cnt_ok (l := l) (ls := ls) I.l1 ((x'.trans X2) _ _ hl) ?_
    intro b hp2 x2 fb hb
    refine ⟨by simp, _, _, rfl, ?_⟩
    have x2 : Ext ((hp'.set a0 (.list [.int 0])).set a (.list (sixV fun _ => 0))) hp2 := x2
    have fb1 : ((hp'.set a0 (.list [.int 0])).set a (.list (sixV fun _ => 0))) b = none := fb
    obtain ⟨nba, fb2⟩ := fresh_set fb1
    obtain ⟨_, fb3⟩ := fresh_set fb2
    obtain ⟨_, fa1⟩ := fresh_set fa0
    have X3 : Ext hp' hp2 := X2.trans x2
    rw [← hT]
    refine pbtail_ok (rk := rk) (nd := nd) (a := a) (b := b) (sf := sf) (M := fun q => ls.count q) (s := fun _ => 0) (e := 60) (T := T') wh W (by omega) tell I.nl ⟨S'.ext X3, e3, ns, R', e1.trans I.hsf, x'.trans X3, o', x'.free fa1, x'.free fb3, nba.symm, S'.free fa1, S'.free fb3, x2 _ _ (Hp.set_self _ _ _), hb, Bal.start cg _, fun q h => (by cases h), I.l0, I.l2, rfl, rfl⟩ ?_
    intro s st' x ha' hb' hfix
    exact k a b s st'.hp x (x'.free fa1) (x'.free fb3) ha' hb' hfix
  · intro T' hp' R _ _ _ _ _ _ h1 h2
    exact Wh.noring (rk := rk) (nd := nd) (fun n m hm => by
      obtain ⟨h6, k, hk, h⟩ := I.nl n m hm
      exact (W.up m h6 k hk n h).2) h1 h2
end Mine
end

noncomputable section
open PySem PySem.W PyProof.Rows
set_option maxHeartbeats 2000000
namespace Mine
end Mine
end

noncomputable section
open PySem PySem.W PyProof.Rows
set_option maxHeartbeats 2000000
namespace Mine
noncomputable def intOf : V → Int
  | .int i => i
  | _ => 0
noncomputable def sumI (l : List V) : Int := (l.map intOf).sum
theorem sumI_ints (is : List Int) : sumI (is.map .int) = is.sum := by
  unfold sumI; rw [List.map_map]
  have : (intOf ∘ V.int) = id := by funext x; rfl
  rw [this]; simp
noncomputable def every8 (cs : List Int) (p : Nat) : Int := sumI (pickV (cs.map .int) (some (p : Int)) none (some 8))
noncomputable def numsOf8 (fs cs : List Int) : List Int := fs.mapIdx fun p f => f + every8 cs p
noncomputable def cellsOf (is : List Int) : List Int := (is.take 12).map (· % 1000000)
noncomputable def w_cells (X : Cx) : WS := sAssign 1 (compW [none] (.list []) (iList (wSlice X (wLoc 0) (pNone) (pSome (wInt (12))) (pNone))) (tName 0) (bTrue) (addL (wOp .Mod (wB intW (wLoc 0)) (wOp .Pow (wInt (10)) (wInt (6))))))
theorem cells_ok {X : Cx} {is : List Int} {st : St} {v : V} {Q : Fl → St → Prop} (l0 : st.lo 0 = some v) (hv : LstR X st.hp v (is.map .int)) (hl : is.length < 1000)
    (k : ∀ c hp', Ext st.hp hp' → hp' c = some (.list ((cellsOf is).map .int)) → Q .next ⟨setLo st.lo 1 (.ref c), hp'⟩) : w_cells X st Q := by
  unfold w_cells
  dsimp only [sAssign]
  refine comp_gen ?_
  intro PP hPP
  unfold compW
  dsimp only [iList, wSlice, wLoc, pNone, pSome, wInt]
  refine ⟨_, l0, 12, rfl, _, hv, by simp; omega, by simp, ?_⟩
  intro c hc
  refine ⟨c, _, rfl, Hp.set_self _ _ _, ?_⟩
  have ep : pickV (is.map V.int) none (some 12) none = (is.take 12).map V.int := by
    have := pickV_upto (is.map V.int) 12
    rw [show (((12 : Nat) : Int)) = 12 from rfl] at this
    rw [this]; simp
  rw [ep]
  refine comp_map (mp := [none]) (P := PP) (Wi := fun st K => K (listSrc c) st) (listSrc c) ⟨st.lo, st.hp.set c (.list ((is.take 12).map V.int))⟩ ((is.take 12).map V.int) (fun v => .int (intOf v % 1000000)) (fun _ => True) (fun K h => h) (fun _ _ => rfl) (fun _ _ => rfl) (fun i hp' x => ⟨_, x c _ (Hp.set_self _ _ _), rfl⟩) (by simp; omega) trivial (fun _ _ h => h) ?_ ?_
  · rintro v lo hp' hv x _ l0 Q hQ
    obtain ⟨i, hi, rfl⟩ := List.mem_map.mp hv
    dsimp only [wOp, wB, intW, wLoc, wInt, binW, binI]
    refine ⟨_, l0, i, rfl, by omega, by omega, by omega, by decide, ?_⟩
    exact hQ hp' x
  · intro hp' D x hD
    have x : Ext (st.hp.set c (.list ((is.take 12).map V.int))) hp' := x
    have xx : Ext st.hp hp' := ((Ext.refl st.hp).new hc).trans x
    have := k D (hp'.set D (.list ((cellsOf is).map .int))) (xx.new hD) (Hp.set_self _ _ _)
    have e2 : ((is.take 12).map V.int).map (fun v => V.int (intOf v % 1000000)) = (cellsOf is).map .int := by
      unfold cellsOf
      rw [List.map_map, List.map_map]
      apply List.map_congr_left
      intro x _; rfl
    rw [e2, hPP]
    exact this
noncomputable def w_nums (X : Cx) (Ws : WA) : WS := sComp 2 (compW [none, none, some 1] (.list []) (iEnum (wList Ws)) (tTup 2 (tsCons (tName 0) (tsCons (tName 1) (tsNil)))) (bTrue) (addL (wOp .Add (wLoc 1) (wB sumW (wSlice X (wLoc 2) (pSome (wLoc 0)) (pNone) (pSome (wInt (8))))))))
theorem nums_ok {X : Cx} {fs cs : List Int} {st : St} {c : Addr} {Ws : WA} {Q : Fl → St → Prop} (l1 : st.lo 1 = some (.ref c)) (hc : st.hp c = some (.list (cs.map .int))) (hl : cs.length < 1000) (hfl : fs.length < 1000)
    (hW : ∀ K : List V → St → Prop, K (fs.map .int) st → Ws st K)
    (k : ∀ c hp', Ext st.hp hp' → hp' c = some (.list ((numsOf8 fs cs).map .int)) → Q .next ⟨setLo st.lo 2 (.ref c), hp'⟩) : w_nums X Ws st Q := by
  unfold w_nums
  dsimp only [sComp]
  refine comp_gen ?_
  intro PP hPP
  unfold compW
  dsimp only [iEnum, wList]
  refine hW _ ⟨by simpa using hfl, ?_⟩
  intro a ha
  refine ⟨a, _, rfl, Hp.set_self _ _ _, ?_⟩
  refine comp_fm (mp := [none, none, some 1]) (P := PP) (Wi := fun st K => K (enumSrc a) st) (enumSrc a) ⟨st.lo, st.hp.set a (.list (fs.map .int))⟩ (enumV (fs.map .int)) (fun _ => true) (fun v => .int (intOf (itemV 1 v) + sumI (pickV (cs.map .int) (some (intOf (itemV 0 v))) none (some 8)))) (fun lo => lo 2 = some (.ref c)) (fun K h => h) (fun _ _ => rfl) (fun _ _ => rfl) (fun i hp' x => ⟨_, x a _ (Hp.set_self _ _ _), by rw [enumV_get]⟩) (by simp [enumV]; omega) l1 ?_ ?_
  · intro v st2 hv ex l2 acc Q1 Q0 hacc h1 h0
    simp only [enumV, List.mem_mapIdx] at hv
    obtain ⟨i, hi, hv⟩ := hv
    rw [List.getElem_map] at hv
    subst hv
    have hi' : i < fs.length := by simpa using hi
    have e0 : intOf (itemV 0 (V.tup [.int (i : Nat), .int fs[i]])) = (i : Int) := rfl
    have e9 : intOf (itemV 1 (V.tup [.int (i : Nat), .int fs[i]])) = fs[i] := rfl
    rw [e0, e9] at h1
    dsimp only [tTup, tsCons, tName, tsNil]
    refine ⟨_, rfl, rfl, _, _, rfl, _, _, rfl, rfl, ?_⟩
    dsimp only [bTrue]
    refine ite_t ?_
    dsimp only [addL, wOp, wLoc, wB, sumW, wSlice, pSome, pNone, wInt]
    have x' : Ext st.hp st2.hp := ((Ext.refl st.hp).new ha).trans ex
    obtain ⟨js, e1, e2⟩ := pickV_ints cs (some (i : Int)) none (some 8)
    refine ⟨acc, rfl, hacc, _, rfl, _, l2, _, rfl, i, rfl, 8, rfl, _, .own (x' _ _ hc), by simp; omega, by simp, ?_⟩
    intro b hb
    rw [e1]
    refine ⟨b, js, rfl, Hp.set_self _ _ _, ?_⟩
    have := h1 rfl (setLo (setLo st2.lo 0 (.int (i : Nat))) 1 (.int fs[i])) (st2.hp.set b (.list (js.map .int))) l2 (ex.new hb)
    rw [e1, sumI_ints] at this
    exact this
  · intro hp' D x hD
    have x : Ext (st.hp.set a (.list (fs.map V.int))) hp' := x
    have xx : Ext st.hp hp' := ((Ext.refl st.hp).new ha).trans x
    have e2 : ((enumV (fs.map V.int)).filter fun _ => true).map (fun v => V.int (intOf (itemV 1 v) + sumI (pickV (cs.map .int) (some (intOf (itemV 0 v))) none (some 8)))) = (numsOf8 fs cs).map .int := by
      rw [filter_true]
      apply List.ext_getElem
      · simp [enumV, numsOf8]
      · intro i h1 h2
        simp [enumV, numsOf8, every8, itemV, intOf]
    rw [e2, hPP]
    exact k D _ (xx.new hD) (Hp.set_self _ _ _)
end Mine
end

noncomputable section
open PySem PySem.W PyProof.Rows
set_option maxHeartbeats 2000000
namespace Mine
structure Hid (h rk : Nat → Nat) : Prop where
  a : ∀ j, j < 6 → h j < 6 ∧ rk (h j) = j
  b : ∀ p, p < 6 → rk p < 6 ∧ h (rk p) = p
  c : h 5 = 5
noncomputable def hidL (h : Nat → Nat) : List Nat := (List.range 6).map h
theorem Hid.rk5 {h rk : Nat → Nat} (H : Hid h rk) : rk 5 = 5 := by have := (H.a 5 (by omega)).2; rwa [H.c] at this
theorem hid_mem {h rk : Nat → Nat} (H : Hid h rk) {i o : Nat} (m : o ∈ (hidL h).drop (i + 1)) : o < 6 ∧ i < rk o := by
  obtain ⟨j, hj⟩ := List.mem_iff_getElem?.mp m
  rw [List.getElem?_drop, hidL, List.getElem?_map] at hj
  obtain ⟨k, hk, rfl⟩ := Option.map_eq_some_iff.mp hj
  obtain ⟨h1, h2⟩ := List.getElem?_eq_some_iff.mp hk
  rw [List.getElem_range] at h2
  rw [List.length_range] at h1
  subst h2
  exact ⟨(H.a _ h1).1, by rw [(H.a _ h1).2]; omega⟩
theorem getD_mem {l : List Nat} {i : Nat} (h : i < l.length) : l.getD i 0 ∈ l := by
  rw [List.getD_eq_getElem?_getD, List.getElem?_eq_getElem h]; exact List.getElem_mem h
noncomputable def w_sent : WE := compW [none, some 5, some 4] (.list []) (iTup (wTuple (aCons (wInt (1)) (aCons (wInt (5)) (aCons (wInt (25)) (aNil)))))) (tName 0) (bTrue) (addL (wSub (wLoc 1) (wOp .Mod (wOp .FloorDiv (wLoc 2) (wLoc 0)) (wB lenW (wLoc 1)))))
theorem sent_ok {st : St} {b : Addr} {n : Int} {bh : List Nat} {Q : V → St → Prop} (l5 : st.lo 5 = some (.ref b)) (l4 : st.lo 4 = some (.int n)) (hb : st.hp b = some (.list (intN bh))) (h0 : 0 < bh.length) (h6 : bh.length < 1000)
    (k : ∀ c hp' u1 u2 u3, Ext st.hp hp' → st.hp c = none → hp' c = some (.list (intN [u1, u2, u3])) → u1 ∈ bh → u2 ∈ bh → u3 ∈ bh → Q (.ref c) ⟨st.lo, hp'⟩) : w_sent st Q := by
  unfold w_sent
  have hi : ∀ z : Int, (n / z % (bh.length : Int)).toNat < bh.length ∧ 0 ≤ n / z % (bh.length : Int) ∧ n / z % (bh.length : Int) < 1000 := fun z => by
    have h1 := Int.emod_nonneg (n / z) (show (bh.length : Int) ≠ 0 by omega)
    have h2 := Int.emod_lt_of_pos (n / z) (show 0 < (bh.length : Int) by omega)
    omega
  refine comp_map (tupSrc [.int 1, .int 5, .int 25]) st [.int 1, .int 5, .int 25] (fun v => .int (bh.getD (n / intOf v % (bh.length : Int)).toNat 0 : Nat)) (fun lo => lo 1 = some (.ref b) ∧ lo 2 = some (.int n)) (fun K h => ⟨by simp, _, rfl, h⟩) (fun _ _ => rfl) (fun _ _ => rfl) (fun i _ _ => rfl) (by simp) ⟨l5, l4⟩ (fun lo v h => h) ?_ ?_
  · rintro v lo hp' hv x ⟨l1, l2⟩ l0 Q hQ
    have : ∃ z : Int, v = .int z ∧ 0 < z ∧ z < 1000000 := by
      simp only [List.mem_cons, List.not_mem_nil, or_false] at hv
      rcases hv with rfl | rfl | rfl
      · exact ⟨1, rfl, by omega, by omega⟩
      · exact ⟨5, rfl, by omega, by omega⟩
      · exact ⟨25, rfl, by omega, by omega⟩
    obtain ⟨z, rfl, z0, z1⟩ := this
    dsimp only [wSub, wLoc, wOp, wB, lenW, binW, binI]
    refine ⟨_, l1, _, l2, _, l0, z0, z1, _, l1, bh.length, ?_, by omega, .int (bh.getD (n / z % (bh.length : Int)).toNat 0 : Nat), ?_, hQ hp' x⟩
    · have := LenR.list (hp := hp') (x _ _ hb) (by rw [intN_len]; omega)
      rwa [intN_len] at this
    · obtain ⟨q1, q2, q3⟩ := hi z
      refine .list (x _ _ hb) q2 (by omega) ?_
      rw [List.getD_eq_getElem?_getD, List.getElem?_eq_getElem q1, intN, List.getElem?_map, List.getElem?_eq_getElem q1]; rfl
  · intro hp' D x hD
    exact k D _ _ _ _ (x.new hD) (x.free hD) (Hp.set_self _ _ _) (getD_mem (hi 1).1) (getD_mem (hi 5).1) (getD_mem (hi 25).1)
structure WI6 (h rk : Nat → Nat) (hp : Hp) (d : Addr) (i : Nat) : Prop where
  ex : ∃ (kvs : List (Int × V)) (ep : Nat) (wa : Nat → Addr) (ca : Nat → Nat → Addr) (cg : Cogs), hp d = some (.dict kvs ep) ∧ kvs.length = i + 1 ∧
    (∀ p, p < 6 → (p = 5 ∨ rk p < i) → kvs.lookup ((p : Nat) : Int) = some (.ref (wa p)) ∧ hp (wa p) = some (.list [.ref (ca p 0), .ref (ca p 1), .ref (ca p 2)]) ∧ ∀ k, k < 3 → hp (ca p k) = some (.list (intN (cg p k))) ∧ (cg p k).length ≤ 2 ∧ ∀ o ∈ cg p k, o < 6 ∧ rk p < rk o) ∧
    (∀ p, p < 6 → p ≠ 5 → i ≤ rk p → kvs.lookup ((p : Nat) : Int) = none)
noncomputable def rot (t k : Nat) : Nat := (k + t) % 3
noncomputable def pick3 {α : Type} (a b c : α) (k : Nat) : α := if k = 0 then a else if k = 1 then b else c
theorem WI6.put {h rk : Nat → Nat} {hp hp' : Hp} {d c : Addr} {i : Nat} {a : Nat → Addr} {l : Nat → List Nat} (H : Hid h rk) (w : WI6 h rk hp d i) (hi : i < 5) (x : ∀ b o, hp b = some o → b ≠ d → hp' b = some o) (hc : hp' c = some (.list [.ref (a 0), .ref (a 1), .ref (a 2)]))
    (hk : ∀ k, k < 3 → hp' (a k) = some (.list (intN (l k))) ∧ (l k).length ≤ 2 ∧ ∀ o ∈ l k, o < 6 ∧ i < rk o)
    (hd : ∀ kvs ep, hp d = some (.dict kvs ep) → kvs.lookup ((h i : Nat) : Int) = none → ∃ ep', hp' d = some (.dict (kvs ++ [(((h i : Nat) : Int), .ref c)]) ep')) : WI6 h rk hp' d (i + 1) := by
  obtain ⟨kvs, ep, wa, ca, cg, e1, e2, e3, e4⟩ := w.ex
  obtain ⟨h6, hr⟩ := H.a i (by omega)
  have hne : h i ≠ 5 := fun q => by rw [q, H.rk5] at hr; omega
  obtain ⟨ep', e5⟩ := hd kvs ep e1 (e4 _ h6 hne (by omega))
  refine ⟨_, ep', fup wa (h i) c, fup ca (h i) a, fup cg (h i) l, e5, by simp [e2], ?_, ?_⟩
  · intro p hp6 hor
    rw [lookup_snoc]
    by_cases e : p = h i
    · subst e
      rw [e4 _ h6 hne (by omega), fup_self, fup_self, fup_self, if_pos rfl, hr]
      exact ⟨rfl, hc, hk⟩
    · have hor' : p = 5 ∨ rk p < i := by
        rcases hor with q | q
        · exact .inl q
        · refine .inr ?_
          have : rk p ≠ i := fun q2 => e (by have := (H.b p hp6).2; rw [q2] at this; exact this.symm)
          omega
      obtain ⟨f1, f2, f3⟩ := e3 p hp6 hor'
      have nd : ∀ {b o}, hp b = some o → (∀ l e, o ≠ .dict l e) → b ≠ d := fun q1 q2 => ne_of q1 e1 (q2 _ _)
      rw [f1, fup_ne _ _ e, fup_ne _ _ e, fup_ne _ _ e]
      refine ⟨rfl, x _ _ f2 (nd f2 (by simp)), fun k hk3 => ?_⟩
      obtain ⟨g1, g2⟩ := f3 k hk3
      exact ⟨x _ _ g1 (nd g1 (by simp)), g2⟩
  · intro p hp6 n5 hle
    rw [lookup_snoc, e4 p hp6 n5 (by omega), if_neg]
    · rfl
    · intro q
      have : p = h i := by omega
      rw [this, hr] at hle; omega
noncomputable def wheelsW : WF := fun args hp P => ∃ (ln lh : Addr) (ns : List Int) (h rk : Nat → Nat), args = [.ref ln, .ref lh] ∧ hp ln = some (.list (ns.map .int)) ∧ ns.length = 5 ∧ hp lh = some (.list (intN (hidL h))) ∧ Hid h rk ∧
    ∀ d wa ca cg hp', Ext hp hp' → WhAt cg hp' d wa ca → Wh cg rk → P (.ref d) hp'
theorem wheels_ok {X : Cx} (args : List V) (hp : Hp) (P : V → Hp → Prop) (h : wheelsW args hp P) : posW 2 (w__law_wheels X) args hp P := by
  obtain ⟨ln, lh, ns, h, rk, rfl, hn, hnl, hh, H, k⟩ := h
  refine ⟨rfl, ?_⟩
  unfold w__law_wheels
  dsimp only [sCons, sAssign, wDict1, wInt, wList, aCons, aNil]
  intro d hd
  have hd : hp d = none := hd
  refine ⟨5, rfl, by simp, ?_⟩
  intro c0 h0
  refine ⟨by simp, ?_⟩
  intro c1 h1
  refine ⟨by simp, ?_⟩
  intro c2 h2
  refine ⟨by simp, ?_⟩
  intro w5 h5
  obtain ⟨p0, h0⟩ := fresh_set (show (hp.set d _) c0 = none from h0)
  obtain ⟨p1, h1⟩ := fresh_set (show (Hp.set _ c0 _) c1 = none from h1)
  obtain ⟨q1, h1⟩ := fresh_set (show (hp.set d _) c1 = none from h1)
  obtain ⟨p2, h2⟩ := fresh_set (show (Hp.set _ c1 _) c2 = none from h2)
  obtain ⟨q2, h2⟩ := fresh_set (show (Hp.set _ c0 _) c2 = none from h2)
  obtain ⟨r2, h2⟩ := fresh_set (show (hp.set d _) c2 = none from h2)
  obtain ⟨p5, h5⟩ := fresh_set (show (Hp.set _ c2 _) w5 = none from h5)
  obtain ⟨q5, h5⟩ := fresh_set (show (Hp.set _ c1 _) w5 = none from h5)
  obtain ⟨r5, h5⟩ := fresh_set (show (Hp.set _ c0 _) w5 = none from h5)
  obtain ⟨s5, h5⟩ := fresh_set (show (hp.set d _) w5 = none from h5)
  refine ⟨0, set_keep' (set_keep' (set_keep' (set_keep' (Hp.set_self _ _ _) p0.symm) q1.symm) r2.symm) s5.symm, ?_⟩
  intro ep'
  refine sFor_run (rangeSrc 5) _ (rangeV 5) (fun i st => st.lo 0 = some (.ref ln) ∧ st.lo 1 = some (.ref lh) ∧ st.lo 2 = some (.ref d) ∧ Ext hp st.hp ∧ WI6 h rk st.hp d i) (fun K h => ⟨5, rfl, by omega, by omega, h⟩) (fun _ _ => rfl) (fun _ _ => rfl) (fun i _ _ => rangeV_get 5 i) ?_ ?_ ?_
  · refine ⟨rfl, rfl, rfl, (((((Ext.refl hp).upd hd).upd h0).upd h1).upd h2).upd h5 |>.upd hd, _, ep', fun _ => w5, fun _ k => pick3 c0 c1 c2 k, fun _ _ => [], Hp.set_self _ _ _, rfl, ?_, ?_⟩
    · intro p hp6 hor
      have : p = 5 := by omega
      subst this
      refine ⟨rfl, set_keep' (Hp.set_self _ _ _) s5, fun k hk => ⟨?_, by simp, by simp⟩⟩
      have : k = 0 ∨ k = 1 ∨ k = 2 := by omega
      rcases this with rfl | rfl | rfl
      · exact set_keep' (set_keep' (set_keep' (set_keep' (Hp.set_self _ _ _) p1.symm) q2.symm) r5.symm) p0
      · exact set_keep' (set_keep' (set_keep' (Hp.set_self _ _ _) p2.symm) q5.symm) q1
      · exact set_keep' (set_keep' (Hp.set_self _ _ _) p5.symm) r2
    · intro p hp6 n5 _
      have e2 : (((p : Nat) : Int) == (5 : Int)) = false := by simp; omega
      show List.lookup _ [((5 : Int), V.ref w5)] = none
      rw [List.lookup_cons, e2]; rfl
  · rintro i v st ⟨e0, e1, e2, x, I⟩ hv
    rw [rangeV_get] at hv
    split at hv
    case isFalse => cases hv
    case isTrue i5 =>
    cases hv
    have i5 : i < 5 := by omega
    obtain ⟨num, hnum⟩ : ∃ num, ns[i]? = some num := ⟨ns[i]'(by omega), List.getElem?_eq_getElem (by omega)⟩
    obtain ⟨kvs0, ep0, _, _, _, hdd, hlen0, _⟩ := id I.ex
    dsimp only [tName, sCons, sAssign, wSub, wLoc]
    refine ⟨_, e0, _, rfl, .int num, .list (x _ _ hn) (by omega) (by omega) (by rw [Int.toNat_natCast, List.getElem?_map, hnum]; rfl), ?_⟩
    dsimp only [wSlice, pSome, pNone, wOp, wLoc, wInt, binW, binI]
    refine ⟨_, e1, _, rfl, _, rfl, _, .own (x _ _ hh), by simp [intN, hidL], by simp, ?_⟩
    intro b hb
    have hb : st.hp b = none := hb
    have eb : pickV (intN (hidL h)) (some ((i : Int) + 1)) none none = intN ((hidL h).drop (i + 1)) := by
      have := pickV_from (intN (hidL h)) (i + 1)
      rw [show ((i : Int) + 1) = ((i + 1 : Nat) : Int) by omega, this]
      simp [intN]
    rw [eb]
    have bl : ((hidL h).drop (i + 1)).length = 5 - i := by simp [hidL]
    dsimp only [sComp]
    refine sent_ok (b := b) (n := num) (bh := (hidL h).drop (i + 1)) rfl rfl (Hp.set_self _ _ _) (by omega) (by omega) ?_
    intro cs hp1 u1 u2 u3 x1 fcs hcs m1 m2 m3
    have x1 : Ext (st.hp.set b (.list (intN ((hidL h).drop (i + 1))))) hp1 := x1
    have xs : Ext st.hp hp1 := ((Ext.refl _).new hb).trans x1
    dsimp only [wList, aCons, aNil, wSlice, wLoc, pNone, pSome, wInt]
    have ep1 : pickV (intN [u1, u2, u3]) none (some 2) none = intN [u1, u2] := pickV_upto (intN [u1, u2, u3]) 2
    have ep2 : pickV (intN [u1, u2, u3]) (some 2) none none = intN [u3] := pickV_from (intN [u1, u2, u3]) 2
    refine ⟨_, rfl, _, rfl, _, .own hcs, by simp [intN], by simp, ?_⟩
    rw [ep1]
    intro a0 f0
    refine ⟨by simp, ?_⟩
    intro a1 f1
    have hcs1 : ((hp1.set a0 (.list (intN [u1, u2]))).set a1 (.list [])) cs = some (.list (intN [u1, u2, u3])) := set_keepN (set_keepN hcs f0) f1
    refine ⟨_, rfl, _, rfl, _, .own hcs1, by simp [intN], by simp, ?_⟩
    rw [ep2]
    intro a2 f2
    refine ⟨by simp, ?_⟩
    intro w f3
    refine ⟨_, rfl, by omega, by omega, by omega, ?_⟩
    obtain ⟨t, ht, ht3⟩ : ∃ t : Nat, num / 125 % 3 = (t : Int) ∧ t < 3 := ⟨(num / 125 % 3).toNat, by omega, by omega⟩
    rw [ht]
    dsimp only [sAssign1, wOp, wSlice, wLoc, pSome, pNone]
    refine ⟨_, rfl, _, rfl, _, rfl, _, .own (Hp.set_self _ _ _), by simp, by simp, ?_⟩
    intro y1 g1
    refine ⟨_, rfl, _, rfl, _, rfl, _, .own (set_keepN (Hp.set_self _ _ _) g1), by simp, by simp, ?_⟩
    intro y2 g2
    have er : pickV [.ref a0, .ref a1, .ref a2] (some (t : Int)) none none ++ pickV [.ref a0, .ref a1, .ref a2] none (some (t : Int)) none = [V.ref (pick3 a0 a1 a2 (rot t 0)), .ref (pick3 a0 a1 a2 (rot t 1)), .ref (pick3 a0 a1 a2 (rot t 2))] := by
      rw [pickV_from, pickV_upto]
      have : t = 0 ∨ t = 1 ∨ t = 2 := by omega
      rcases this with rfl | rfl | rfl <;> rfl
    show _ ∧ ∃ xs ys, _
    refine ⟨rfl, _, _, set_keepN (Hp.set_self _ _ _) g2, Hp.set_self _ _ _, by rw [pickV_from, pickV_upto]; simp; omega, ?_⟩
    rw [er]
    intro c hc
    have X7 := ((((((xs.new f0).new f1).new f2).new f3).new g1).new g2).new (o := .list [V.ref (pick3 a0 a1 a2 (rot t 0)), .ref (pick3 a0 a1 a2 (rot t 1)), .ref (pick3 a0 a1 a2 (rot t 2))]) hc
    have k0 := set_keepN (o := .list [V.ref (pick3 a0 a1 a2 (rot t 0)), .ref (pick3 a0 a1 a2 (rot t 1)), .ref (pick3 a0 a1 a2 (rot t 2))]) (set_keepN (set_keepN (set_keepN (set_keepN (set_keepN (Hp.set_self _ _ _) f1) f2) f3) g1) g2) hc
    have k1 := set_keepN (o := .list [V.ref (pick3 a0 a1 a2 (rot t 0)), .ref (pick3 a0 a1 a2 (rot t 1)), .ref (pick3 a0 a1 a2 (rot t 2))]) (set_keepN (set_keepN (set_keepN (set_keepN (Hp.set_self _ _ _) f2) f3) g1) g2) hc
    have k2 := set_keepN (o := .list [V.ref (pick3 a0 a1 a2 (rot t 0)), .ref (pick3 a0 a1 a2 (rot t 1)), .ref (pick3 a0 a1 a2 (rot t 2))]) (set_keepN (set_keepN (set_keepN (Hp.set_self _ _ _) f3) g1) g2) hc
    have hdl : kvs0.length = i + 1 := hlen0
    refine ⟨_, e2, _, e1, _, rfl, .int (h i : Nat), .list ((x.trans X7) _ _ hh) (by omega) (by omega) ?_, d, _, .dict (X7 _ _ hdd) (by omega), ?_⟩
    · rw [Int.toNat_natCast, intN, hidL, List.getElem?_map, List.getElem?_map, List.getElem?_range (by omega)]; rfl
    rintro _ ⟨ep'', rfl⟩
    have dne : ∀ {b : Addr} {xs : List V}, Hp.set _ c (.list [V.ref (pick3 a0 a1 a2 (rot t 0)), .ref (pick3 a0 a1 a2 (rot t 1)), .ref (pick3 a0 a1 a2 (rot t 2))]) b = some (.list xs) → b ≠ d := fun q => ne_of q (X7 _ _ hdd) (by simp)
    refine ⟨e0, e1, e2, ((x.trans X7).upd hd), I.put (c := c) (a := fun k => pick3 a0 a1 a2 (rot t k)) (l := fun k => pick3 [u1, u2] [] [u3] (rot t k)) H i5 (fun b o q nb => set_keep' (X7 b o q) nb) (set_keep' (Hp.set_self _ _ _) (dne (Hp.set_self _ _ _))) ?_ ?_⟩
    · intro k _
      have hm : ∀ o ∈ (hidL h).drop (i + 1), o < 6 ∧ i < rk o := fun o m => hid_mem H m
      have : rot t k = 0 ∨ rot t k = 1 ∨ rot t k = 2 := by unfold rot; omega
      rcases this with e | e | e <;> rw [e]
      · exact ⟨set_keep' k0 (dne k0), Nat.le_refl _, fun o ho => hm o (by simp [pick3] at ho; rcases ho with rfl | rfl <;> assumption)⟩
      · exact ⟨set_keep' k1 (dne k1), Nat.zero_le _, fun o ho => by simp [pick3] at ho⟩
      · exact ⟨set_keep' k2 (dne k2), by simp [pick3], fun o ho => hm o (by simp [pick3] at ho; rcases ho with rfl; assumption)⟩
    · intro kvs ep q1 q2
      rw [hdd] at q1
      cases q1
      refine ⟨ep'', (Hp.set_self _ _ _).trans ?_⟩
      rw [q2]; rfl
  · rintro st ⟨e0, e1, e2, x, I⟩
    obtain ⟨kvs, ep, wa, ca, cg, f1, f2, f3, f4⟩ := I.ex
    have all : ∀ p, p < 6 → p = 5 ∨ rk p < 5 := by
      intro p hp6
      have h1 := H.b p hp6
      by_cases q : rk p < 5
      · exact .inr q
      · refine .inl ?_
        have : rk p = 5 := by omega
        rw [this, H.c] at h1
        exact h1.2.symm
    refine ⟨_, e2, k d wa ca cg st.hp x ⟨⟨kvs, ep, f1, fun p hp6 => (f3 p hp6 (all p hp6)).1⟩, fun p hp6 => (f3 p hp6 (all p hp6)).2.1, fun p hp6 k hk => ((f3 p hp6 (all p hp6)).2.2 k hk).1⟩ ⟨fun p hp6 k hk => ((f3 p hp6 (all p hp6)).2.2 k hk).2.2, fun p hp6 => (H.b p hp6).1, fun p hp6 k hk => ((f3 p hp6 (all p hp6)).2.2 k hk).2.1⟩⟩
end Mine
end

noncomputable section
open PySem PySem.W PyProof.Rows
set_option maxHeartbeats 2000000
namespace Mine
noncomputable def plc (y : List Int) : Nat := (y.getD 2 0).toNat
noncomputable def Itm6 (ys : List (List Int)) : Prop := ∀ y ∈ ys, ∃ (r n : Int) (p : Nat), y = [r, n, (p : Int)] ∧ p < 6
theorem Itm6.lens {ys : List (List Int)} (h : Itm6 ys) : Lens 3 ys := fun y hy => by
  obtain ⟨r, n, p, rfl, _⟩ := h y hy; rfl
structure HP6 (hp : Hp) (hq : Addr) (pend : List Nat) : Prop where
  ex : ∃ ys, hp hq = some (.list (ys.map tupV)) ∧ IsHeap ys ∧ Itm6 ys ∧ (ys.map plc).Perm pend
theorem HP6.ext {hp hp' : Hp} {hq : Addr} {pend : List Nat} (h : HP6 hp hq pend) (e : hp' hq = hp hq) : HP6 hp' hq pend :=
  let ⟨ys, a, b, c, d⟩ := h.ex; ⟨ys, e.trans a, b, c, d⟩
theorem push6 {st : St} {Q : V → St → Prop} {i j k m : Nat} {hq : Addr} {pend : List Nat} {n f : Int} {p : Nat} (H : HP6 st.hp hq pend) (hl : pend.length < 900000) (hf : f.natAbs < 2 ^ 63) (hp : p < 6) (l1 : st.lo i = some (.ref hq)) (l2 : st.lo j = some (.int n)) (l3 : st.lo k = some (.int f)) (l4 : st.lo m = some (.int (p : Nat)))
    (kk : ∀ o, HP6 (st.hp.set hq o) hq (pend ++ [p]) → Q .none ⟨st.lo, st.hp.set hq o⟩) :
    wCall (pushW 3) (aCons (wLoc i) (aCons (wTuple (aCons (wOp .Mod (wOp .Mult (wLoc j) (wLoc k)) (wInt (7))) (aCons (wLoc j) (aCons (wLoc m) (aNil))))) (aNil))) st Q := by
  obtain ⟨ys, h1, h2, h3, h4⟩ := H.ex
  have hlen := h4.length_eq
  rw [List.length_map] at hlen
  dsimp only [wCall, aCons, aNil, wTuple, wLoc, wOp, wInt, binW, binI]
  refine ⟨_, l1, _, l2, _, l3, hf, by omega, _, l2, _, l4, by simp, hq, ys, [n * f % 7, n, (p : Int)], rfl, h1, h3.lens, rfl, by omega, h2, ?_⟩
  intro zs z1 z2
  refine kk _ ⟨zs, Hp.set_self _ _ _, z2, ?_, ?_⟩
  · intro y hy
    rcases List.mem_cons.mp (z1.subset hy) with rfl | hy
    · exact ⟨_, _, p, rfl, hp⟩
    · exact h3 y hy
  · refine (z1.map plc).trans ?_
    rw [List.map_cons]
    exact ((List.Perm.cons _ h4).trans (List.perm_append_singleton p pend).symm)
noncomputable def offW : WF := fun args hp P => ∃ (d l : Addr) (f : Int) (ls : List Nat) (cg : Cogs) (rk : Nat → Nat) (wa : Nat → Addr) (ca : Nat → Nat → Addr), args = [.ref d, .ref l, .int f] ∧ f.natAbs < 2 ^ 63 ∧ hp l = some (.list (intN ls)) ∧ WhAt cg hp d wa ca ∧ Wh cg rk ∧ (∀ p ∈ ls, p < 6) ∧ ls.length ≤ 6 ∧
    ∀ c s hp', Ext hp hp' → hp c = none → hp' c = some (.list (sixV s)) → Fixd cg (fun q => ls.count q) s → P (.ref c) hp'
theorem off_ok {X : Cx} (args : List V) (hp : Hp) (P : V → Hp → Prop) (h : offW args hp P) : posW 3 (w__law_off_heap X (pushW 3) (popW 3)) args hp P := by
  obtain ⟨d, l, f, ls, cg, rk, wa, ca, rfl, hf, hl, wh, W, hlt, hn, k⟩ := h
  refine ⟨rfl, ?_⟩
  unfold w__law_off_heap
  dsimp only [sCons, sSwap2, wTuple, aCons, aNil, wOp, wList, wInt, binW]
  refine ⟨by simp, ?_⟩
  intro a0 h0
  refine ⟨rfl, _, Hp.set_self _ _ _, by simp, by omega, by omega, ?_⟩
  intro c hc
  refine ⟨by simp, ?_⟩
  intro hq hhq
  refine ⟨by simp, _, _, rfl, ?_⟩
  obtain ⟨nqc, hhq⟩ := fresh_set (show (Hp.set _ c _) hq = none from hhq)
  obtain ⟨_, hhq⟩ := fresh_set hhq
  obtain ⟨_, hc⟩ := fresh_set (show (Hp.set hp a0 _) c = none from hc)
  have hhq : hp hq = none := hhq
  rw [zeros6]
  refine sFor_run (enumSrc l) _ (enumV (intN ls)) (fun i st => st.lo 0 = some (.ref d) ∧ st.lo 1 = some (.ref l) ∧ st.lo 2 = some (.int f) ∧ st.lo 3 = some (.ref c) ∧ st.lo 4 = some (.ref hq) ∧ Ext hp st.hp ∧ st.hp c = some (.list (sixV fun _ => 0)) ∧ HP6 st.hp hq (ls.take i)) (fun K h => ⟨_, rfl, l, _, rfl, ((((Ext.refl hp).upd h0).upd hc).upd hhq) _ _ hl, h⟩) (fun _ _ => rfl) (fun _ _ => rfl) ?_ ?_ ?_ ?_
  · rintro i st ⟨_, _, _, _, _, x, _⟩
    exact ⟨_, x _ _ hl, by rw [enumV_get]⟩
  · exact ⟨rfl, rfl, rfl, rfl, rfl, (((Ext.refl hp).upd h0).upd hc).upd hhq, set_keep' (Hp.set_self _ _ _) nqc.symm, [], Hp.set_self _ _ _, fun i _ h => by simp at h, fun y h => by simp at h, List.Perm.refl _⟩
  · rintro i v st ⟨e0, e1, e2, e3, e4, x, hc', H⟩ hv
    rw [enumV_get] at hv
    obtain ⟨u, hu, rfl⟩ := Option.map_eq_some_iff.mp hv
    obtain ⟨p, hp', rfl⟩ := intN_get hu
    dsimp only [tTup, tsCons, tName, tsNil]
    refine ⟨_, rfl, rfl, _, _, rfl, _, _, rfl, rfl, ?_⟩
    dsimp only [sCons, sExpr]
    refine push6 (n := i) (p := p) (H.ext rfl) (by simp; omega) hf (hlt p (mem_take_get hp')) e4 rfl e2 rfl fun o H' => ?_
    exact ⟨e0, e1, e2, e3, e4, x.upd hhq, set_keep' hc' nqc.symm, by rw [take_get hp']; exact H'⟩
  · rintro st ⟨e0, e1, e2, e3, e4, x, hc', H⟩
    have hT : (enumV (intN ls)).length = ls.length := by simp [enumV, intN]
    rw [hT, List.take_length] at H
    dsimp only [sAssign, wB, lenW, wLoc]
    refine ⟨_, e1, _, .list (x _ _ hl) (by rw [intN_len]; omega), ?_⟩
    dsimp only [sWhile]
    refine ⟨fun n st => ∃ s pend cn, n = wgt rk pend ∧ wgt rk pend ≤ 4374 ∧ (∀ o ∈ pend, o < 6) ∧ st.lo 0 = some (.ref d) ∧ st.lo 2 = some (.int f) ∧ st.lo 3 = some (.ref c) ∧ st.lo 4 = some (.ref hq) ∧ st.lo 7 = some (.int cn) ∧ Ext hp st.hp ∧ st.hp c = some (.list (sixV s)) ∧ HP6 st.hp hq pend ∧ Bal cg (fun q => ls.count q) s (fun q => pend.count q), ⟨_, _, ls, _, rfl, by have := wgt_letters rk ls; omega, hlt, e0, e2, e3, e4, rfl, x, hc', H, Bal.start cg _⟩, ?_⟩
    rintro _ st ⟨s, pend, cn, rfl, hw, hlt, e0, e2, e3, e4, e7, x, hc', H, B⟩
    have hlen := wgt_len rk pend
    obtain ⟨ys, y1, y2, y3, y4⟩ := H.ex
    have yl := y4.length_eq
    rw [List.length_map] at yl
    dsimp only [bVal, wLoc]
    refine ⟨_, e4, _, .list y1 (by rw [List.length_map]; omega), ?_⟩
    cases ys with
    | nil =>
      have : pend = [] := List.Perm.eq_nil (y4.symm)
      subst this
      exact ⟨_, e3, k c s st.hp x hc hc' (B.fix fun q _ => rfl)⟩
    | cons y ys =>
      rw [List.map_cons, List.isEmpty_cons]
      refine ite_t ?_
      obtain ⟨r, num, p, rfl, hp6⟩ := y3 y (by simp)
      dsimp only [sCons, sAssign1, wCall, aCons, aNil, wLoc]
      refine ⟨_, e4, hq, _, ys, rfl, y1, y3.lens, by rw [List.length_cons] at yl; omega, y2, ?_⟩
      intro _ zs z1 z2
      dsimp only [tTup, tsCons, tName, tsNil]
      refine ⟨_, rfl, rfl, _, _, rfl, _, _, rfl, _, _, rfl, rfl, ?_⟩
      have hk : s p % 3 < 3 := Nat.mod_lt _ (by omega)
      have hless := W.less hp6 hk
      have hperm : (p :: zs.map plc).Perm pend := ((z1.map plc).cons p).trans y4
      have hwp := wgt_perm rk hperm
      rw [wgt_cons] at hwp
      have ncq : c ≠ hq := fun e => nqc e.symm
      have hc1 : (st.hp.set hq (.list (zs.map tupV))) c = some (.list (sixV s)) := set_keep' hc' ncq
      refine sFor_run (listSrc (ca p (s p % 3))) _ (intN (cg p (s p % 3))) (fun i st => ∃ cn, st.lo 0 = some (.ref d) ∧ st.lo 2 = some (.int f) ∧ st.lo 3 = some (.ref c) ∧ st.lo 4 = some (.ref hq) ∧ st.lo 6 = some (.int (p : Nat)) ∧ st.lo 7 = some (.int cn) ∧ Ext hp st.hp ∧ st.hp c = some (.list (sixV s)) ∧ HP6 st.hp hq (zs.map plc ++ (cg p (s p % 3)).take i)) (fun K h => ⟨_, e0, _, rfl, _, (wh.ext (x.upd hhq)).get hp6, _, e3, _, rfl, _, .list hc1 (by omega) (by omega) (sixV_get s hp6), by omega, .ref (ca p (s p % 3)), by rw [mod3]; exact (wh.ext (x.upd hhq)).getk hp6 hk, _, _, rfl, (wh.ext (x.upd hhq)).cog p hp6 _ hk, h⟩) (fun _ _ => rfl) (fun _ _ => rfl) ?_ ?_ ?_ ?_
      · rintro i s2 ⟨_, _, _, _, _, _, _, x2, _⟩
        exact ⟨_, (wh.ext x2).cog p hp6 _ hk, rfl⟩
      · refine ⟨cn, e0, e2, e3, e4, rfl, e7, x.upd hhq, hc1, zs, Hp.set_self _ _ _, z2, fun y hy => y3 y (List.mem_cons_of_mem _ (z1.subset hy)), ?_⟩
        rw [List.take_zero, List.append_nil]
      · rintro i v s2 ⟨cn, e0, e2, e3, e4, e6, e7, x2, hc2, H2⟩ hv
        obtain ⟨o, ho, rfl⟩ := intN_get hv
        have hoc := mem_take_get ho
        have hl1 := wgt_len rk (zs.map plc)
        have hl2 := W.len p hp6 _ hk
        dsimp only [tName, sExpr]
        refine push6 (n := cn) (p := o) (H2.ext rfl) (by rw [List.length_append, List.length_take]; omega) hf (W.up p hp6 _ hk o hoc).1 e4 e7 e2 rfl fun ob H' => ?_
        dsimp only [sAug, wInt, iopW, sNil]
        refine ⟨_, e7, cn + 1, e0, e2, e3, e4, e6, rfl, x2.upd hhq, set_keep' hc2 ncq, ?_⟩
        rw [take_get ho, ← List.append_assoc]; exact H'
      · rintro s2 ⟨cn, e0, e2, e3, e4, e6, e7, x2, hc2, H2⟩
        rw [intN_len, List.take_length] at H2
        refine aug6_one (p := p) e3 e6 hc2 hp6 ?_
        refine ⟨wgt rk (zs.map plc ++ cg p (s p % 3)), by rw [wgt_app]; omega, fup s p (s p + 1), _, cn, rfl, by rw [wgt_app]; omega, ?_, e0, e2, e3, e4, e7, x2.upd hc, Hp.set_self _ _ _, H2.ext (Hp.set_ne _ _ nqc), ?_⟩
        · intro q hq
          rcases List.mem_append.mp hq with h | h
          · exact hlt q (hperm.subset (List.mem_cons_of_mem _ h))
          · exact (W.up p hp6 _ hk q h).1
        · refine B.step hp6 fun q hq => ?_
          have e1 := hperm.count_eq q
          have e2 := step_count (a := zs.map plc) (b := cg p (s p % 3)) (p := p) (q := q) 0
          have e3 : (zs.map plc ++ [p]).count q = (p :: zs.map plc).count q := (List.perm_append_singleton p _).count_eq q
          omega
end Mine
end

noncomputable section
open PySem PySem.W PyProof.Rows
set_option maxHeartbeats 2000000
namespace Mine
noncomputable def reduce2W (X : Cx) : WF := fun args hp P => ∃ (f d l z : Addr) (ls : List Nat) (cg : Cogs) (rk : Nat → Nat) (wa : Nat → Addr) (ca : Nat → Nat → Addr), args = [.con (.ref f), .ref l, .ref z] ∧ (∃ o fd, X.h₀.get? f = some o ∧ o.data = .func fd) ∧ SF X f 1 (letterW d) ∧
    hp l = some (.list (intN ls)) ∧ hp z = some (.list (sixV fun _ => 0)) ∧ WhAt cg hp d wa ca ∧ Wh cg rk ∧ (∀ p ∈ ls, p < 6) ∧
    ∀ c s hp', Ext hp hp' → (c = z ∨ hp c = none) → hp' c = some (.list (sixV s)) → Fixd cg (fun q => ls.count q) s → P (.ref c) hp'
theorem reduce2_ok {X : Cx} (hm : ∃ ob, X.h₀.get? 142 = some ob ∧ ob.cls ≠ .type "tuple") (args : List V) (hp : Hp) (P : V → Hp → Prop) (h : reduce2W X args hp P) : posW 3 (w_reduce X 1) args hp P := by
  obtain ⟨f, d, l, z, ls, cg, rk, wa, ca, rfl, hf, hs, hl, hz, wh, W, hlt, k⟩ := h
  obtain ⟨ob, hm1, hm2⟩ := hm
  refine ⟨rfl, ?_⟩
  unfold w_reduce
  dsimp only [sCons, sAssign, wB, wLoc, iterW, sIf, bCmp, wCon, sFor, iLiter, sRet]
  refine ⟨_, rfl, l, _, rfl, hl, ?_⟩
  intro it hit
  refine ⟨_, rfl, false, .isRef (set_keepN hz hit) hm1 hm2, ?_⟩
  refine ite_f ?_
  refine ⟨_, rfl, _, rfl, it, l, 0, rfl, Hp.set_self _ _ _, ?_⟩
  have hit : hp it = none := hit
  refine ⟨ls.length, fun i st => i ≤ ls.length ∧ st.lo 0 = some (.con (.ref f)) ∧ st.lo 3 = some (.ref it) ∧ (∃ c s, st.lo 4 = some (.ref c) ∧ (c = z ∨ hp c = none) ∧ st.hp c = some (.list (sixV s)) ∧ c ≠ it ∧ Bal cg (fun q => ls.count q) s (fun q => (ls.drop i).count q)) ∧ st.hp it = some (.liter l i) ∧ Ext hp st.hp, ⟨Nat.zero_le _, rfl, rfl, ⟨z, _, rfl, .inl rfl, set_keepN hz hit, (by rintro rfl; rw [hit] at hz; cases hz), Bal.start cg _⟩, Hp.set_self _ _ _, (Ext.refl hp).new hit⟩, ?_⟩
  rintro i st ⟨hi, e0, e3, ⟨c, s, e4, hc0, hc, hci, B⟩, eh, ex⟩
  have hl' := ex l _ hl
  by_cases h : i < ls.length
  · left
    refine ⟨.int (ls[i] : Nat), ⟨l, i, _, eh, hl', by simp [intN, h]⟩, h, ?_⟩
    have ea : (literSrc it).adv i st.hp = st.hp.set it (.liter l (i + 1)) := by simp only [literSrc, eh]
    rw [ea]
    have x2 : Ext hp (st.hp.set it (.liter l (i + 1))) := ex.upd hit
    have hd : ls.drop i = ls[i] :: ls.drop (i + 1) := List.drop_eq_getElem_cons h
    rw [hd] at B
    refine ⟨_, e0, ⟨f, rfl, hf⟩, _, e4, _, rfl, f, letterW d, rfl, hf, hs, c, ls[i], s, fun q => ls.count q, fun q => (ls.drop (i + 1)).count q, cg, rk, wa, ca, rfl, set_keep' hc hci, wh.ext x2, W, hlt _ (List.getElem_mem h), ?_, ?_⟩
    · intro q hq
      have := B q hq
      have e : (ls[i] :: ls.drop (i + 1)).count q = [ls[i]].count q + (ls.drop (i + 1)).count q := by rw [← List.singleton_append, List.count_append]
      dsimp only at this ⊢
      rw [e] at this
      exact this
    · intro c' s' hp' x3 fc hc' B'
      refine ⟨h, e0, e3, ⟨c', s', rfl, .inr (x2.free fc), hc', ?_, B'⟩, x3 _ _ (Hp.set_self _ _ _), x2.trans x3⟩
      rintro rfl
      have fc : (st.hp.set c' (.liter l (i + 1))) c' = none := fc
      rw [Hp.set_self] at fc; cases fc
  · right
    have : i = ls.length := by omega
    subst this
    refine ⟨⟨l, _, _, eh, hl', by simp [intN]⟩, _, e4, ?_⟩
    refine k c s _ (ex.upd (o := .dead) hit) hc0 (set_keep' hc hci) (B.fix fun q _ => ?_)
    rw [List.drop_length]; rfl
end Mine
end

noncomputable section
open PySem PySem.W PyProof.Rows
namespace Mine
noncomputable def mapChk (F : Fx) (scope : Scope) (cl : List (Str × Addr)) (nm : List Str) : List (Option Nat) → Nat → Bool
  | [], _ => true
  | none :: r, i => mapChk F scope cl nm r (i + 1)
  | some j :: r, i => (match nm[i]?, F.nm[j]? with
    | some x, some y => x == y && (cl.lookup x).isSome && isCF ((relabel scope F.env).names.lookup x) && isCF (F.env.kindOf x)
    | _, _ => false) && mapChk F scope cl nm r (i + 1)
theorem mapChk.ok {F : Fx} {scope : Scope} {cl : List (Str × Addr)} {nm : List Str} : ∀ {mp : List (Option Nat)} {k : Nat}, mapChk F scope cl nm mp k = true → ∀ (i j : Nat), mp[i]? = some (some j) → ∃ x, nm[k + i]? = some x ∧ F.nm[j]? = some x ∧ (cl.lookup x).isSome = true ∧ isCF ((relabel scope F.env).names.lookup x) = true ∧ isCF (F.env.kindOf x) = true
  | [], _, _, i, j, e => by simp at e
  | none :: r, k, h, i, j, e => by
    cases i with
    | zero => simp at e
    | succ i =>
      obtain ⟨x, h1, h2⟩ := mapChk.ok (mp := r) (k := k + 1) h i j (by simpa using e)
      exact ⟨x, by rw [← h1]; congr 1; omega, h2⟩
  | some j0 :: r, k, h, i, j, e => by
    simp only [mapChk, Bool.and_eq_true] at h
    cases i with
    | zero =>
      simp at e; subst e
      obtain ⟨h, _⟩ := h
      split at h
      · rename_i x y hx hy
        simp only [Bool.and_eq_true, beq_iff_eq] at h
        obtain ⟨⟨⟨rfl, h1⟩, h2⟩, h3⟩ := h
        exact ⟨x, by simpa using hx, hy, h1, h2, h3⟩
      · cases h
    | succ i =>
      obtain ⟨x, h1, h2⟩ := mapChk.ok (mp := r) (k := k + 1) h.2 i j (by simpa using e)
      exact ⟨x, by rw [← h1]; congr 1; omega, h2⟩
noncomputable def subOk (F : Fx) : List (Str × Addr) → Prop
  | [] => True
  | p :: r => F.env.cells.lookup p.1 = some p.2 ∧ subOk F r
theorem subOk.ok {F : Fx} : ∀ {cl : List (Str × Addr)}, subOk F cl → ∀ p ∈ cl, F.env.cells.lookup p.1 = some p.2
  | _ :: _, h, _, .head _ => h.1
  | _ :: _, h, p, .tail _ m => subOk.ok h.2 p m
noncomputable def namesChk (scope : Scope) : Bool := scope.names.all (fun y => (y.2 != .cell) && (y.2 != .local || scope.names.lookup y.1 == some .local))
theorem compOk {F : Fx} {scope : Scope} {cl : List (Str × Addr)} {nm : List Str} {mp : List (Option Nat)} (h1 : closureFor scope F.env = pure cl) (h2 : scope.kind = .function) (h3 : namesChk scope = true) (h4 : subOk F cl) (h5 : nm.Nodup) (h6 : mapChk F scope cl nm mp 0 = true) : CompOk F scope cl nm mp := by
  unfold namesChk at h3
  rw [List.all_eq_true] at h3
  refine ⟨h1, h2, fun y hy => ?_, fun y hy hl => ?_, h4.ok, h5, fun i j e => ?_⟩
  · have := h3 y hy
    rw [Bool.and_eq_true] at this
    simpa using this.1
  · have := h3 y hy
    rw [Bool.and_eq_true, Bool.or_eq_true] at this
    rcases this.2 with h | h
    · simp [hl] at h
    · simpa using h
  · obtain ⟨x, a, b⟩ := mapChk.ok h6 i j e
    exact ⟨x, by simpa using a, b⟩
section
variable {X : Cx} {K : Frag}
theorem fnx (B : Base X K) {a : Addr} {oc : Value} {od : Option Addr} {fd : FuncData} {osl : Array (Option Value)} (e : K.lookup a = some ⟨oc, od, .func fd, osl⟩) : ∃ o fd, X.h₀.get? a = some o ∧ o.data = .func fd := ⟨_, _, B.K _ _ e, rfl⟩
end
end Mine
end

noncomputable section
open PySem PySem.W PyProof.Rows
set_option maxRecDepth 100000
namespace Mine
noncomputable abbrev K02 (P : Params) : Frag := hd02.heap_1 P
variable {P : Params}
theorem cls1372 (name : Str) : ClsOk (K02 P) 137 name := ⟨by kernel_rfl, by kernel_rfl, by kernel_rfl⟩
theorem cls402 (name : Str) : ClsOk (K02 P) 40 name := ⟨by kernel_rfl, by kernel_rfl, by kernel_rfl⟩
theorem own_n2i2 : OwnName (K02 P) 137 "_node2info" := ⟨cls1372 _, by kernel_rfl, ⟨none, by kernel_rfl, by kernel_rfl⟩, by kernel_rfl⟩
theorem own_rn2 : OwnName (K02 P) 137 "_ready_nodes" := ⟨cls1372 _, by kernel_rfl, ⟨none, by kernel_rfl, by kernel_rfl⟩, by kernel_rfl⟩
theorem own_np2 : OwnName (K02 P) 137 "_npassedout" := ⟨cls1372 _, by kernel_rfl, ⟨none, by kernel_rfl, by kernel_rfl⟩, by kernel_rfl⟩
theorem own_nf2 : OwnName (K02 P) 137 "_nfinished" := ⟨cls1372 _, by kernel_rfl, ⟨none, by kernel_rfl, by kernel_rfl⟩, by kernel_rfl⟩
theorem slot_node2 : SlotName (K02 P) 40 "node" 0 := ⟨cls402 _, by kernel_rfl, ⟨41, by kernel_rfl, by kernel_rfl, by kernel_rfl, by kernel_rfl, by kernel_rfl, by kernel_rfl⟩, by decide⟩
theorem slot_npred2 : SlotName (K02 P) 40 "npredecessors" 1 := ⟨cls402 _, by kernel_rfl, ⟨42, by kernel_rfl, by kernel_rfl, by kernel_rfl, by kernel_rfl, by kernel_rfl, by kernel_rfl⟩, by decide⟩
theorem slot_succ2 : SlotName (K02 P) 40 "successors" 2 := ⟨cls402 _, by kernel_rfl, ⟨43, by kernel_rfl, by kernel_rfl, by kernel_rfl, by kernel_rfl, by kernel_rfl, by kernel_rfl⟩, by decide⟩
theorem meth_get2 : MethName (K02 P) 137 "_get_nodeinfo" 80 := ⟨by kernel_rfl, by kernel_rfl, by kernel_rfl, by kernel_rfl⟩
theorem meth_add2 : MethName (K02 P) 137 "add" 87 := ⟨by kernel_rfl, by kernel_rfl, by kernel_rfl, by kernel_rfl⟩
theorem meth_prepare2 : MethName (K02 P) 137 "prepare" 92 := ⟨by kernel_rfl, by kernel_rfl, by kernel_rfl, by kernel_rfl⟩
theorem meth_ready2 : MethName (K02 P) 137 "get_ready" 99 := ⟨by kernel_rfl, by kernel_rfl, by kernel_rfl, by kernel_rfl⟩
theorem meth_active2 : MethName (K02 P) 137 "is_active" 106 := ⟨by kernel_rfl, by kernel_rfl, by kernel_rfl, by kernel_rfl⟩
theorem meth_done2 : MethName (K02 P) 137 "done" 120 := ⟨by kernel_rfl, by kernel_rfl, by kernel_rfl, by kernel_rfl⟩
theorem meth_find2 : MethName (K02 P) 137 "_find_cycle" 127 := ⟨by kernel_rfl, by kernel_rfl, by kernel_rfl, by kernel_rfl⟩
theorem makes1372 : MakesName (K02 P) 137 73 := ⟨by kernel_rfl, by kernel_rfl, by kernel_rfl, by kernel_rfl⟩
theorem makes402 : MakesName (K02 P) 40 36 := ⟨by kernel_rfl, by kernel_rfl, by kernel_rfl, by kernel_rfl⟩
theorem exc552 : excIn (K02 P) 55 [.type "ValueError", .type "Exception", .type "BaseException", .type "object"] "ValueError.__new__" = true := by kernel_rfl
theorem bound_add2 : BoundName (K02 P) 137 "add" 87 := ⟨meth_add2, by kernel_rfl, by kernel_rfl, by kernel_rfl, by kernel_rfl, by kernel_rfl⟩
end Mine
end

noncomputable section
open PySem PySem.W PyProof.Rows
set_option maxRecDepth 100000
set_option maxHeartbeats 2000000
namespace Mine
noncomputable def endBody : List Stmt := match p02.main.body[18]? with
  | some (Stmt.FunctionDef _ _ b _ _ _ _ _ _ _) => b
  | _ => []
noncomputable def letP : Arguments := match endBody with
  | Stmt.FunctionDef _ p _ _ _ _ _ _ _ _ :: _ => p
  | _ => default
noncomputable def letB : List Stmt := match endBody with
  | Stmt.FunctionDef _ _ b _ _ _ _ _ _ _ :: _ => b
  | _ => []
noncomputable def letS : Scope := match endBody with
  | Stmt.FunctionDef _ _ _ _ _ _ s _ _ _ :: _ => s
  | _ => default
noncomputable def letQ : Str := "_law_to_the_end.<locals>._law_letter"
noncomputable def LetOb (c cl : Addr) (ob : Obj) : Prop := ∃ doc pm ctv, ob = fnMade "_law_letter" letQ letP letB letS [("wheels", cl)] doc pm c ctv
noncomputable def endW : WF := fun args hp P => ∃ (wa : Addr), args = [.ref wa] ∧ hp 192 = some (.raw (tabObj #[])) ∧ ∀ f c cl ob oc oe ps hp', hp f = none → hp c = none → hp cl = none → LetOb c cl ob → (∃ vs t, oc.data = .fields vs ∧ vs[1]? = some (.str letQ t)) → oe.data = .cell (some (.ref wa)) →
  (∀ b o, hp b = some o → b ≠ 192 → hp' b = some o) → hp' 192 = some (.raw (tabObj ps)) → hp' f = some (.raw ob) → hp' c = some (.raw oc) → hp' cl = some (.raw oe) → P (.con (.ref f)) hp'
noncomputable def w_end (L : Addr) : WS := sCons (sDef 1 192 letQ fun c ob => LetOb c (L + 1) ob) (sCons (sRet (wLoc 1)) sNil)
theorem end_ok (L : Addr) (hp : Hp) (P : V → Hp → Prop) (wa : Addr) (hL : hp (L + 1) = none) (h192 : hp 192 = some (.raw (tabObj #[])))
    (k : ∀ f c cl ob oc oe ps hp', hp f = none → hp c = none → hp cl = none → LetOb c cl ob → (∃ vs t, oc.data = .fields vs ∧ vs[1]? = some (.str letQ t)) → oe.data = .cell (some (.ref wa)) →
      (∀ b o, hp b = some o → b ≠ 192 → hp' b = some o) → hp' 192 = some (.raw (tabObj ps)) → hp' f = some (.raw ob) → hp' c = some (.raw oc) → hp' cl = some (.raw oe) → P (.con (.ref f)) hp') : w_end L ⟨fun i => [V.ref wa][i]?, hp⟩ (finL 0 L P) := by
  unfold w_end
  dsimp only [sCons, sDef, sRet, wLoc]
  refine ⟨h192, ?_⟩
  intro f c ob oc ps ff fc nfc nf nc hob hoc
  refine ⟨_, rfl, wa, rfl, ?_⟩
  intro hn oe hoe
  have ff : hp f = none := ff
  have fc : hp c = none := fc
  have k1 : ((((hp.set 192 (.raw (tabObj ps))).set c (.raw oc)).set f (.raw ob)) f) = some (.raw ob) := Hp.set_self _ _ _
  have k2 : ((((hp.set 192 (.raw (tabObj ps))).set c (.raw oc)).set f (.raw ob)) c) = some (.raw oc) := (Hp.set_ne _ _ (Ne.symm nfc)).trans (Hp.set_self _ _ _)
  have k3 : ((((hp.set 192 (.raw (tabObj ps))).set c (.raw oc)).set f (.raw ob)) 192) = some (.raw (tabObj ps)) := (Hp.set_ne _ _ (Ne.symm nf)).trans ((Hp.set_ne _ _ (Ne.symm nc)).trans (Hp.set_self _ _ _))
  have hn : ((((hp.set 192 (.raw (tabObj ps))).set c (.raw oc)).set f (.raw ob)) (L + 1)) = none := hn
  have ne : ∀ {b o}, ((((hp.set 192 (.raw (tabObj ps))).set c (.raw oc)).set f (.raw ob)) b) = some o → b ≠ L + 1 := by rintro b o q rfl; rw [hn] at q; cases q
  refine k f c (L + 1) ob oc oe ps _ ff fc hL hob hoc hoe ?_ ((Hp.set_ne _ _ (ne k3)).trans k3) ((Hp.set_ne _ _ (ne k1)).trans k1) ((Hp.set_ne _ _ (ne k2)).trans k2) (Hp.set_self _ _ _)
  intro b o q n192
  have q2 : ((((hp.set 192 (.raw (tabObj ps))).set c (.raw oc)).set f (.raw ob)) b) = some o := by
    refine (Hp.set_ne _ _ ?_).trans ((Hp.set_ne _ _ ?_).trans ((Hp.set_ne _ _ n192).trans q))
    · rintro rfl; rw [ff] at q; cases q
    · rintro rfl; rw [fc] at q; cases q
  exact (Hp.set_ne _ _ (ne q2)).trans q2
theorem ok2_end {X : Cx} (B : Base X (K02 X.w.params)) (BM : BMk X) : SF X 197 1 endW := by
  have hC : CodeHd X.h₀ 196 192 := codeHd_of_K B.K (by kernel_rfl)
  refine (sf_defL (nm := ["wheels", "_law_letter"]) (ps := ["wheels"]) (k := 0) (x := "wheels") (d := 0) (Wb := w_end) (B.def (a := 197) rfl rfl rfl rfl rfl) (by decide) (by decide) (nmOk (by rfl)) ?k (by rfl) (by rfl) (fun L => rfl) ?b).mono ?m
  case k =>
    intro L x hx
    simp only [List.mem_cons, List.not_mem_nil, or_false] at hx
    rcases hx with rfl
    exact .inr ⟨rfl, rfl⟩
  case b =>
    intro L fr A hA hF
    refine m_cons (m_def BM (by first | exact st_local rfl rfl | exact st_cell rfl rfl rfl | exact ⟨rfl, .inl rfl⟩) rfl hC rfl rfl rfl rfl rfl) (m_cons (m_ret (r_loc (by exact ⟨rfl, rfl, rfl⟩))) m_nil)
  case m =>
    rintro args hp P ⟨wa, rfl, h192, k⟩
    refine ⟨[.ref wa], bind_pos fun vs hv => (match vs, hv with | [v0], _ => rfl), rfl, fun L _ hL => end_ok L hp P wa hL h192 k⟩
end Mine
end

noncomputable section
open PySem PySem.W PyProof.Rows
set_option maxRecDepth 100000
set_option maxHeartbeats 2000000
namespace Mine
theorem ok2_letter {X : Cx} (B : Base X (K02 X.w.params)) {f c cl wa : Addr} {ob oc oe : Obj} (hob : LetOb c cl ob) (hf : X.h₀.get? f = some ob) (hc : X.h₀.get? c = some oc) (hoc : ∃ vs t, oc.data = .fields vs ∧ vs[1]? = some (.str letQ t)) (hcl : X.h₀.get? cl = some oe) (hoe : oe.data = .cell (some (.ref wa))) : SF X f 1 (letterW wa) := by
  obtain ⟨doc, pm, ctv, rfl⟩ := hob
  obtain ⟨vs, t, ho1, ho2⟩ := hoc
  have N : CloAt X f (fnX "_law_letter" letQ letP letB letS [("wheels", cl)] .none .none doc pm none (.ref c) ctv) letB "wheels" cl wa :=
    ⟨⟨_, hf, rfl⟩, B.lim, ⟨c, oc, vs, t, rfl, hc, ho1, ho2⟩, rfl, rfl, rfl, rfl, rfl, rfl, rfl, ⟨oe, hcl, hoe⟩, by rfl, (show ∀ y ∈ letS.names, y.2 ≠ NameKind.cell by decide)⟩
  refine (sf_clo N (nm := ["served", "letter", "after", "pile", "place", "wheels"]) (ps := ["served", "letter"]) (n := 2) (j := 5) (d := 0) (W := w_letter) (by decide) (by decide) (by rfl) (by rfl) (by rfl) ?l (by intro vs h; exact (match vs, h with | [v0, v1], _ => rfl)) ?b).mono (fun args hp P h => letter_ok (X := X) args hp P h)
  case l =>
    intro y hy
    simp only [List.mem_cons, List.not_mem_nil, or_false] at hy
    rcases hy with rfl | rfl <;> rfl
  case b =>
    intro L fr A hA hF
    unfold w_letter
    exact m_cons (m_swap2 hA.handled (r_tuple (a_cons (r_listc (r_blt B (by rfl) (by rfl) (by decide) (by rfl) (by rfl)) (r_loc (by exact ⟨rfl, rfl, rfl⟩)) (by rfl)) (a_cons (r_list (a_cons (r_loc (by exact ⟨rfl, rfl, rfl⟩)) (a_nil) (by rfl))) (a_nil) (by rfl)) (by rfl))) (by first | exact st_local rfl rfl | exact st_cell rfl rfl rfl | exact ⟨rfl, .inl rfl⟩) (by first | exact st_local rfl rfl | exact st_cell rfl rfl rfl | exact ⟨rfl, .inl rfl⟩) (by rfl) (by rfl))
      (m_cons (m_while (q_val (r_loc (by exact ⟨rfl, rfl, rfl⟩)) (by exact fun _ => rfl)) (m_cons (m_assign (by first | exact st_local rfl rfl | exact st_cell rfl rfl rfl | exact ⟨rfl, .inl rfl⟩) (r_pop (r_loc (by exact ⟨rfl, rfl, rfl⟩)) (by exact ⟨rfl, rfl, rfl, rfl⟩)) (by rfl))
      (m_cons (m_aug (by exact ⟨rfl, rfl, rfl⟩) (by first | exact st_local rfl rfl | exact st_cell rfl rfl rfl | exact ⟨rfl, .inl rfl⟩) (r_sub (r_sub (r_loc (by exact ⟨rfl, rfl, rfl⟩)) (r_loc (by exact ⟨rfl, rfl, rfl⟩)) (by exact fun _ _ => rfl)) (r_op (r_sub (r_loc (by exact ⟨rfl, rfl, rfl⟩)) (r_loc (by exact ⟨rfl, rfl, rfl⟩)) (by exact fun _ _ => rfl)) (r_int)) (by exact fun _ _ => rfl)))
      (m_cons (m_augsub (r_loc (by exact ⟨rfl, rfl, rfl⟩)) (r_loc (by exact ⟨rfl, rfl, rfl⟩)) (r_int) (by exact fun _ _ _ => rfl))
      (m_nil)))))
      (m_cons (m_ret (r_loc (by exact ⟨rfl, rfl, rfl⟩)))
      (m_nil)))
end Mine
end

noncomputable section
open PySem PySem.W PyProof.Rows
set_option maxRecDepth 100000
set_option maxHeartbeats 2000000
namespace Mine
noncomputable def w_lawt (X : Cx) (Wre Wof Wpb : WF) : WS :=
  sCons (sIf (bOr (bCmp X .NotEq (wCall Wre (aCons (wLoc 8) (aCons (wLoc 5) (aCons (wOp .Mult (wList (aCons (wInt (0)) (aNil))) (wInt (6))) (aNil))))) (wLoc 7)) (bCmp X .NotEq (wCall Wre (aCons (wLoc 8) (aCons (wSlice X (wLoc 5) (pNone) (pNone) (pSome (wInt (-1)))) (aCons (wOp .Mult (wList (aCons (wInt (0)) (aNil))) (wInt (6))) (aNil))))) (wLoc 7))) (sCons (sRet (wBool false))
  (sNil)) (sNil))
  (sCons (sIf (bCmp X .NotEq (wCall Wof (aCons (wLoc 4) (aCons (wLoc 5) (aCons (wOp .Add (wInt (1)) (wOp .Mod (wB sumW (wLoc 1)) (wInt (6)))) (aNil))))) (wLoc 7)) (sCons (sRet (wBool false))
  (sNil)) (sNil))
  (sCons (sRet (wCmp X .Eq (wCall Wpb (aCons (wLoc 4) (aCons (wLoc 5) (aNil)))) (wTuple (aCons (wLoc 7) (aCons (wOp .Mult (wList (aCons (wInt (0)) (aNil))) (wInt (6))) (aNil))))))
  (sNil)))
noncomputable def w_law2 (X : Cx) (Wwh Wdu Wen Wof Wpb : WF) (Wre : Cx → WF) : WS :=
  sCons (sAssign 1 (compW [none] (.list []) (iList (wSlice X (wLoc 0) (pNone) (pSome (wInt (12))) (pNone))) (tName 0) (bTrue) (addL (wOp .Mod (wB intW (wLoc 0)) (wOp .Pow (wInt (10)) (wInt (6)))))))
  (sCons (sComp 2 (compW [none, none, some 1] (.list []) (iEnum (wList (aCons (wInt (35)) (aCons (wInt (305)) (aCons (wInt (7)) (aCons (wInt (130)) (aCons (wInt (0)) (aCons (wInt (5)) (aCons (wInt (2)) (aCons (wInt (9)) (aNil))))))))))) (tTup 2 (tsCons (tName 0) (tsCons (tName 1) (tsNil)))) (bTrue) (addL (wOp .Add (wLoc 1) (wB sumW (wSlice X (wLoc 2) (pSome (wLoc 0)) (pNone) (pSome (wInt (8)))))))))
  (sCons (sAssign 3 (wOp .Add (compW [none, some 1] (.list []) (iRange (wInt (5))) (tName 0) (bTrue) (addL (wOp .Mod (wOp .Add (wB sumW (wLoc 1)) (wOp .Mult (wInt (2)) (wLoc 0))) (wInt (5))))) (wList (aCons (wInt (5)) (aNil)))))
  (sCons (sAssign 4 (wCall Wwh (aCons (wSlice X (wLoc 2) (pNone) (pSome (wInt (5))) (pNone)) (aCons (wLoc 3) (aNil)))))
  (sCons (sAssign 5 (wList (aNil)))
  (sCons (sFor (iList (wSlice X (wLoc 2) (pSome (wInt (5))) (pNone) (pNone))) (tName 6) (sCons (sAug 5 .Add (wOp .Mult (wList (aCons (wOp .Mod (wLoc 6) (wInt (5))) (aNil))) (wOp .Add (wInt (1)) (wOp .Mod (wOp .FloorDiv (wLoc 6) (wInt (5))) (wInt (2))))))
  (sNil)))
  (sCons (sAssign 7 (wCall Wdu (aCons (wLoc 4) (aCons (wLoc 5) (aNil)))))
  (sCons (sAssign 8 (wCall Wen (aCons (wLoc 4) (aNil))))
  (sSwitch X fun X => w_lawt X (Wre X) Wof Wpb))))))))
theorem ok2_law {X : Cx} (B : Base X (K02 X.w.params)) {Wwh Wdu Wen Wof Wpb : WF} {Wre : Cx → WF} (hwh : SF X 183 1 Wwh) (hdu : SF X 207 1 Wdu) (hen : SF X 197 1 Wen) (hre : ∀ h, Sub X h → SF (X.on h) 150 2 (Wre (X.on h))) (hof : ∀ h, Sub X h → SF (X.on h) 190 4 Wof) (hpb : ∀ h, Sub X h → SF (X.on h) 202 7 Wpb) :
    SF X 212 8 (posW 1 (w_law2 X Wwh Wdu Wen Wof Wpb Wre)) := by
  have C := B.cok
  refine sf_pos (nm := ["script", "cells", "numbers", "hidden", "wheels", "letters", "number", "due", "step"]) (ps := ["script"]) (d := 7) (B.def (a := 212) rfl rfl rfl rfl rfl) (by decide) (by decide) (by rfl) (by rfl) ?k (by intro vs h; exact (match vs, h with | [v0], _ => rfl)) ?b
  case k =>
    intro L x hx
    simp only [List.mem_cons, List.not_mem_nil, or_false] at hx
    rcases hx with rfl <;> first | exact .inl rfl | exact .inr ⟨rfl, rfl⟩
  case b =>
    intro L fr A hA hF
    unfold w_law2
    refine m_cons (m_assign (by first | exact st_local rfl rfl | exact st_cell rfl rfl rfl | exact ⟨rfl, .inl rfl⟩) (r_comp (by exact fun _ => rfl) (compOk (nm := ["cell"]) (mp := [none]) rfl rfl (by rfl) (by repeat (first | exact trivial | refine ⟨rfl, ?_⟩)) (by decide) (by rfl)) (i_list hA.handled (r_slice (r_loc (by exact ⟨rfl, rfl, rfl⟩)) (p_none) (p_some (r_int)) (p_none) (by exact fun _ _ => ⟨_, rfl⟩))) (fun _ => t_name (by first | exact st_local rfl rfl | exact st_cell rfl rfl rfl | exact ⟨rfl, .inl rfl⟩)) (fun _ => c_nil) (fun _ => r_op (r_intc (r_blt B (by rfl) (by rfl) (by decide) (by rfl) (by rfl)) (r_loc (by exact ⟨rfl, rfl, rfl⟩)) (by rfl)) (r_op (r_int) (r_int)))) (by rfl))
      (m_cons (m_comp (by first | exact st_local rfl rfl | exact st_cell rfl rfl rfl | exact ⟨rfl, .inl rfl⟩) (by rfl) (by exact fun _ => rfl) (compOk (nm := ["place", "first", "cells"]) (mp := [none, none, some 1]) rfl rfl (by rfl) (by repeat (first | exact trivial | refine ⟨rfl, ?_⟩)) (by decide) (by rfl)) (i_enum hA.handled (r_blt B (by rfl) (by rfl) (by decide) (by rfl) (by rfl)) (r_list (a_cons (r_int) (a_cons (r_int) (a_cons (r_int) (a_cons (r_int) (a_cons (r_int) (a_cons (r_int) (a_cons (r_int) (a_cons (r_int) (a_nil) (by rfl)) (by rfl)) (by rfl)) (by rfl)) (by rfl)) (by rfl)) (by rfl)) (by rfl))) (by rfl)) (fun _ => t_tup hA.handled (by rfl) (ts_cons (t_name (by first | exact st_local rfl rfl | exact st_cell rfl rfl rfl | exact ⟨rfl, .inl rfl⟩)) (ts_cons (t_name (by first | exact st_local rfl rfl | exact st_cell rfl rfl rfl | exact ⟨rfl, .inl rfl⟩)) (ts_nil) (by rfl)) (by rfl)) (by rfl) (by rfl)) (fun _ => c_nil) (fun _ => r_op (r_loc (by exact ⟨rfl, rfl, rfl⟩)) (r_sum hA.handled (r_blt B (by rfl) (by rfl) (by decide) (by rfl) (by rfl)) (r_slice (r_loc (by exact ⟨rfl, rfl, rfl⟩)) (p_some (r_loc (by exact ⟨rfl, rfl, rfl⟩))) (p_none) (p_some (r_int)) (by exact fun _ _ => ⟨_, rfl⟩)) (by rfl))))
      (m_cons (m_assign (by first | exact st_local rfl rfl | exact st_cell rfl rfl rfl | exact ⟨rfl, .inl rfl⟩) (r_op (r_comp (by exact fun _ => rfl) (compOk (nm := ["place", "cells"]) (mp := [none, some 1]) rfl rfl (by rfl) (by repeat (first | exact trivial | refine ⟨rfl, ?_⟩)) (by decide) (by rfl)) (i_range hA.handled (by exact fun _ _ => rfl) (r_blt B (by rfl) (by rfl) (by decide) (by rfl) (by rfl)) (r_int) (by rfl)) (fun _ => t_name (by first | exact st_local rfl rfl | exact st_cell rfl rfl rfl | exact ⟨rfl, .inl rfl⟩)) (fun _ => c_nil) (fun _ => r_op (r_op (r_sum hA.handled (r_blt B (by rfl) (by rfl) (by decide) (by rfl) (by rfl)) (r_loc (by exact ⟨rfl, rfl, rfl⟩)) (by rfl)) (r_op (r_int) (r_loc (by exact ⟨rfl, rfl, rfl⟩)))) (r_int))) (r_list (a_cons (r_int) (a_nil) (by rfl)))) (by rfl))
      (m_cons (m_assign (by first | exact st_local rfl rfl | exact st_cell rfl rfl rfl | exact ⟨rfl, .inl rfl⟩) (r_call hA hF (by decide) hwh (fnx B rfl) (r_fn B (by rfl) (by rfl) (by rfl)) (a_cons (r_slice (r_loc (by exact ⟨rfl, rfl, rfl⟩)) (p_none) (p_some (r_int)) (p_none) (by exact fun _ _ => ⟨_, rfl⟩)) (a_cons (r_loc (by exact ⟨rfl, rfl, rfl⟩)) (a_nil) (by rfl)) (by rfl)) (by rfl)) (by rfl))
      (m_cons (m_assign (by first | exact st_local rfl rfl | exact st_cell rfl rfl rfl | exact ⟨rfl, .inl rfl⟩) (r_list (a_nil)) (by rfl))
      (m_cons (m_for (i_list hA.handled (r_slice (r_loc (by exact ⟨rfl, rfl, rfl⟩)) (p_some (r_int)) (p_none) (p_none) (by exact fun _ _ => ⟨_, rfl⟩))) (t_name (by first | exact st_local rfl rfl | exact st_cell rfl rfl rfl | exact ⟨rfl, .inl rfl⟩)) (m_cons (m_aug (by exact ⟨rfl, rfl, rfl⟩) (by first | exact st_local rfl rfl | exact st_cell rfl rfl rfl | exact ⟨rfl, .inl rfl⟩) (r_op (r_list (a_cons (r_op (r_loc (by exact ⟨rfl, rfl, rfl⟩)) (r_int)) (a_nil) (by rfl))) (r_op (r_int) (r_op (r_op (r_loc (by exact ⟨rfl, rfl, rfl⟩)) (r_int)) (r_int)))))
  (m_nil)) (by exact fun _ => rfl))
      (m_cons (m_assign (by first | exact st_local rfl rfl | exact st_cell rfl rfl rfl | exact ⟨rfl, .inl rfl⟩) (r_call hA hF (by decide) hdu (fnx B rfl) (r_fn B (by rfl) (by rfl) (by rfl)) (a_cons (r_loc (by exact ⟨rfl, rfl, rfl⟩)) (a_cons (r_loc (by exact ⟨rfl, rfl, rfl⟩)) (a_nil) (by rfl)) (by rfl)) (by rfl)) (by rfl))
      (m_cons (m_assign (by first | exact st_local rfl rfl | exact st_cell rfl rfl rfl | exact ⟨rfl, .inl rfl⟩) (r_call hA hF (by decide) hen (fnx B rfl) (r_fn B (by rfl) (by rfl) (by rfl)) (a_cons (r_loc (by exact ⟨rfl, rfl, rfl⟩)) (a_nil) (by rfl)) (by rfl)) (by rfl))
      (m_switch fun h S => ?tail))))))))
    have B2 : Base (X.on h) (K02 X.w.params) := B.on S
    have C2 := B2.cok
    unfold w_lawt
    exact m_cons (m_if (q_or (q_cmp C2 hA (r_call hA hF (by decide) (hre _ S) (fnx B2 rfl) (r_fn B2 (by rfl) (by rfl) (by rfl)) (a_cons (r_loc (by exact ⟨rfl, rfl, rfl⟩)) (a_cons (r_loc (by exact ⟨rfl, rfl, rfl⟩)) (a_cons (r_op (r_list (a_cons (r_int) (a_nil) (by rfl))) (r_int)) (a_nil) (by rfl)) (by rfl)) (by rfl)) (by rfl)) (r_loc (by exact ⟨rfl, rfl, rfl⟩)) (by rfl)) (q_cmp C2 hA (r_call hA hF (by decide) (hre _ S) (fnx B2 rfl) (r_fn B2 (by rfl) (by rfl) (by rfl)) (a_cons (r_loc (by exact ⟨rfl, rfl, rfl⟩)) (a_cons (r_slice (r_loc (by exact ⟨rfl, rfl, rfl⟩)) (p_none) (p_none) (p_some (r_neg)) (by exact fun _ _ => ⟨_, rfl⟩)) (a_cons (r_op (r_list (a_cons (r_int) (a_nil) (by rfl))) (r_int)) (a_nil) (by rfl)) (by rfl)) (by rfl)) (by rfl)) (r_loc (by exact ⟨rfl, rfl, rfl⟩)) (by rfl))) (m_cons (m_ret (r_bool))
  (m_nil)) (m_nil))
      (m_cons (m_if (q_cmp C2 hA (r_call hA hF (by decide) (hof _ S) (fnx B2 rfl) (r_fn B2 (by rfl) (by rfl) (by rfl)) (a_cons (r_loc (by exact ⟨rfl, rfl, rfl⟩)) (a_cons (r_loc (by exact ⟨rfl, rfl, rfl⟩)) (a_cons (r_op (r_int) (r_op (r_sum hA.handled (r_blt B2 (by rfl) (by rfl) (by decide) (by rfl) (by rfl)) (r_loc (by exact ⟨rfl, rfl, rfl⟩)) (by rfl)) (r_int))) (a_nil) (by rfl)) (by rfl)) (by rfl)) (by rfl)) (r_loc (by exact ⟨rfl, rfl, rfl⟩)) (by rfl)) (m_cons (m_ret (r_bool))
  (m_nil)) (m_nil))
      (m_cons (m_ret (r_cmp C2 hA (r_call hA hF (by decide) (hpb _ S) (fnx B2 rfl) (r_fn B2 (by rfl) (by rfl) (by rfl)) (a_cons (r_loc (by exact ⟨rfl, rfl, rfl⟩)) (a_cons (r_loc (by exact ⟨rfl, rfl, rfl⟩)) (a_nil) (by rfl)) (by rfl)) (by rfl)) (r_tuple (a_cons (r_loc (by exact ⟨rfl, rfl, rfl⟩)) (a_cons (r_op (r_list (a_cons (r_int) (a_nil) (by rfl))) (r_int)) (a_nil) (by rfl)) (by rfl))) (by rfl)))
      (m_nil)))
end Mine
end

noncomputable section
open PySem PySem.W PyProof.Rows
set_option maxHeartbeats 2000000
namespace Mine
theorem eq6_at {hp : Hp} {s : Nat → Nat} {n : Nat} (j : Nat) (x y : V) (h1 : (sixV s)[j]? = some x) (h2 : (sixV s)[j]? = some y) : EqR hp n x y true := by
  rw [h1] at h2; cases h2
  have hj : j < 6 := (List.getElem?_eq_some_iff.mp h1).1
  have := sixV_get s hj
  rw [Int.toNat_natCast, h1] at this
  cases this
  have := EqR.int (hp := hp) (n := n) (a := ((s j : Nat) : Int)) (b := ((s j : Nat) : Int))
  simpa using this
theorem ne6 {X : Cx} {hp : Hp} {a b : Addr} {s t : Nat → Nat} (ha : hp a = some (.list (sixV s))) (hb : hp b = some (.list (sixV t))) (h : ∀ q, q < 6 → s q = t q) : CmpR X hp .NotEq (.ref a) (.ref b) false := by
  rw [← sixV_congr h] at hb
  exact CmpR.neList (X := X) (fun _ => true) ha hb rfl eq6_at
theorem eq6 {hp : Hp} {a b : Addr} {s t : Nat → Nat} (hab : a ≠ b) (ha : hp a = some (.list (sixV s))) (hb : hp b = some (.list (sixV t))) (h : ∀ q, q < 6 → s q = t q) : EqR hp 8 (.ref a) (.ref b) true := by
  rw [← sixV_congr h] at hb
  exact EqR.lists (n := 7) (fun _ => true) hab ha hb rfl eq6_at
theorem pick_rev (ls : List Nat) : pickV (intN ls) none none (some (-1)) = intN ls.reverse := by
  unfold pickV
  rw [krv_bounds]
  show (sliceRange (((intN ls).length : Int) - 1) (-1) (-1)).filterMap ((intN ls)[·]?) = _
  rw [krv_sliceRange, krv_range, List.filterMap_reverse, pickV_arr]
  have := krv_all (intN ls).toArray
  rw [List.size_toArray] at this
  rw [this]
  simp [intN]
theorem zeros_ok {st : St} {Q : V → St → Prop} (k : ∀ z hp', Ext st.hp hp' → st.hp z = none → hp' z = some (.list (sixV fun _ => 0)) → Q (.ref z) ⟨st.lo, hp'⟩) : wOp .Mult (wList (aCons (wInt 0) aNil)) (wInt 6) st Q := by
  dsimp only [wOp, wList, aCons, aNil, wInt, binW]
  refine ⟨by simp, ?_⟩
  intro a0 h0
  refine ⟨rfl, _, Hp.set_self _ _ _, by simp, by omega, by omega, ?_⟩
  intro z hz
  have hz' : (st.hp.set a0 (.list [.int 0])) z = none := hz
  rw [zeros6]
  exact k z _ (((Ext.refl st.hp).new h0).new hz') (fresh_set hz').2 (Hp.set_self _ _ _)
theorem lawt_ok {X : Cx} {st : St} {P : Fl → St → Prop} {d l du f c1 : Addr} {ls : List Nat} {cs : List Int} {cg : Cogs} {rk : Nat → Nat} {wa : Nat → Addr} {ca : Nat → Nat → Addr} (l1 : st.lo 1 = some (.ref c1)) (l4 : st.lo 4 = some (.ref d)) (l5 : st.lo 5 = some (.ref l)) (l7 : st.lo 7 = some (.ref du)) (l8 : st.lo 8 = some (.con (.ref f)))
    (hc : st.hp c1 = some (.list (cs.map .int))) (wh : WhAt cg st.hp d wa ca) (W : Wh cg rk) (hl : st.hp l = some (.list (intN ls))) (hlt : ∀ p ∈ ls, p < 6) (hn : ls.length ≤ 6) (hdu : st.hp du = some (.list (sixV (dueT cg (fun q => ls.count q) 6))))
    (hf : ∃ o fd, X.h₀.get? f = some o ∧ o.data = .func fd) (hs : SF X f 1 (letterW d)) (k : ∀ hp', Ext st.hp hp' → P (.ret (.bool true)) ⟨st.lo, hp'⟩) : w_lawt X (reduce2W X) offW pbpW st P := by
  have fx := dueT_fix W (fun q => ls.count q)
  unfold w_lawt
  dsimp only [sCons, sIf, bOr, bCmp, wCall, aCons, wLoc, aNil]
  refine ⟨_, l8, _, l5, zeros_ok ?_⟩
  intro z h1 x1 fz hz
  refine ⟨f, d, l, z, ls, cg, rk, wa, ca, rfl, hf, hs, x1 _ _ hl, hz, wh.ext x1, W, hlt, ?_⟩
  intro c s h2 x2 _ hc2 F2
  have x2 := x1.trans x2
  refine ⟨_, l7, false, ne6 hc2 (x2 _ _ hdu) fun q hq => F2.eq W fx hq, ?_⟩
  refine ite_f ?_
  dsimp only [wSlice, wLoc, pNone, pSome, wInt]
  refine ⟨_, l8, _, l5, _, rfl, _, .own (x2 _ _ hl), by rw [intN_len]; omega, by decide, ?_⟩
  intro lr flr
  rw [pick_rev ls]
  have x3 := x2.new (o := .list (intN ls.reverse)) flr
  refine zeros_ok ?_
  intro z2 h4 x4 fz2 hz2
  have x34 := x3.trans x4
  refine ⟨f, d, lr, z2, ls.reverse, cg, rk, wa, ca, rfl, hf, hs, x4 _ _ (Hp.set_self _ _ _), hz2, wh.ext x34, W, fun p hp => hlt p (List.mem_reverse.mp hp), ?_⟩
  intro c' s' h5 x5 _ hc5 F5
  have x5 := x34.trans x5
  have F5 : Fixd cg (fun q => ls.count q) s' := fun q hq => by have := F5 q hq; dsimp only at this; rw [List.count_reverse] at this; exact this
  refine ⟨_, l7, false, ne6 hc5 (x5 _ _ hdu) fun q hq => F5.eq W fx hq, ?_⟩
  refine ite_f ?_
  dsimp only [sNil, sCons, sIf, bCmp, wCall, aCons, wLoc, aNil, wOp, wInt, wB, sumW, binW, binI]
  refine ⟨_, l4, _, l5, _, l1, c1, cs, rfl, x5 _ _ hc, by omega, d, l, 1 + cs.sum % 6, ls, cg, rk, wa, ca, rfl, by omega, x5 _ _ hl, wh.ext x5, W, hlt, hn, ?_⟩
  intro c6 s6 h6 x6 _ hc6 F6
  have x6 := x5.trans x6
  refine ⟨_, l7, false, ne6 hc6 (x6 _ _ hdu) fun q hq => F6.eq W fx hq, ?_⟩
  refine ite_f ?_
  dsimp only [sNil, sCons, sRet, wCmp, wCall, aCons, wLoc, aNil, wTuple]
  refine ⟨_, l4, _, l5, d, l, ls, cg, rk, wa, ca, rfl, x6 _ _ hl, wh.ext x6, W, ?_⟩
  intro a b s7 h7 x7 fa fb ha hb F7
  have x67 := x6.trans x7
  refine ⟨_, l7, zeros_ok ?_⟩
  intro z8 h8 x8 fz8 hz8
  have x8' := x67.trans x8
  refine ⟨by simp, true, ?_, k _ x8'⟩
  have nd : a ≠ du := by rintro rfl; have h := x6 _ _ hdu; have fa : h6 a = none := fa; rw [fa] at h; cases h
  have nz : b ≠ z8 := by rintro rfl; have fz8 : h7 b = none := fz8; rw [fz8] at hb; cases hb
  exact CmpR.eqTup (X := X) (fun _ => true) rfl (by
    intro j x y hx hy
    have hj : j < 2 := (List.getElem?_eq_some_iff.mp hx).1
    have : j = 0 ∨ j = 1 := by omega
    rcases this with rfl | rfl
    · cases hx; cases hy; exact eq6 nd (x8 _ _ ha) (x8' _ _ hdu) fun q hq => F7.eq W fx hq
    · cases hx; cases hy; exact eq6 nz (x8 _ _ hb) hz8 fun q hq => rfl)
end Mine
end

noncomputable section
open PySem PySem.W PyProof.Rows
set_option maxHeartbeats 2000000
namespace Mine
noncomputable def hOf (S j : Nat) : Nat := if j = 5 then 5 else (S + 2 * j) % 5
noncomputable def rkOf (S p : Nat) : Nat := if p = 5 then 5 else ((p + 5 - S) * 3) % 5
theorem hid_of {S : Nat} (h : S < 5) : Hid (hOf S) (rkOf S) := by
  refine ⟨fun j hj => ?_, fun p hp => ?_, rfl⟩
  · unfold hOf rkOf
    by_cases e : j = 5
    · rw [if_pos e]; exact ⟨by omega, by rw [if_pos rfl]; omega⟩
    · rw [if_neg e, if_neg (by omega)]; omega
  · unfold hOf rkOf
    by_cases e : p = 5
    · rw [if_pos e]; exact ⟨by omega, by rw [if_pos rfl]; omega⟩
    · rw [if_neg e, if_neg (by omega)]; omega
noncomputable def w_hid : WE := compW [none, some 1] (.list []) (iRange (wInt (5))) (tName 0) (bTrue) (addL (wOp .Mod (wOp .Add (wB sumW (wLoc 1)) (wOp .Mult (wInt (2)) (wLoc 0))) (wInt (5))))
theorem hid_ok {st : St} {c1 : Addr} {cs : List Int} {Q : V → St → Prop} (l1 : st.lo 1 = some (.ref c1)) (hc : st.hp c1 = some (.list (cs.map .int)))
    (k : ∀ c hp', Ext st.hp hp' → st.hp c = none → hp' c = some (.list (intN ((List.range 5).map (hOf (cs.sum % 5).toNat)))) → Q (.ref c) ⟨st.lo, hp'⟩) : w_hid st Q := by
  unfold w_hid
  refine comp_map (rangeSrc 5) st (rangeV 5) (fun v => .int ((cs.sum + 2 * intOf v) % 5)) (fun lo => lo 1 = some (.ref c1)) (fun K h => ⟨5, rfl, by omega, by omega, h⟩) (fun _ _ => rfl) (fun _ _ => rfl) (fun i _ _ => rangeV_get 5 i) (by simp [rangeV]) l1 (fun lo v h => h) ?_ ?_
  · rintro v lo hp' hv x l1 l0 Q hQ
    obtain ⟨q, hq, rfl⟩ := mem_rangeV hv
    dsimp only [wOp, wB, sumW, wLoc, wInt, binW, binI]
    exact ⟨_, l1, c1, cs, rfl, x _ _ hc, _, l0, by omega, by omega, hQ hp' x⟩
  · intro hp' D x hD
    refine k D _ (x.new hD) (x.free hD) ((Hp.set_self _ _ _).trans ?_)
    unfold rangeV intN
    rw [List.map_map, List.map_map]
    congr 2
    refine List.map_congr_left fun j hj => ?_
    have := List.mem_range.mp hj
    show V.int ((cs.sum + 2 * (j : Int)) % 5) = V.int ((hOf (cs.sum % 5).toNat j : Nat) : Int)
    unfold hOf
    rw [if_neg (by omega)]
    congr 1
    omega
noncomputable def w_let (X : Cx) : WS := sFor (iList (wSlice X (wLoc 2) (pSome (wInt (5))) (pNone) (pNone))) (tName 6) (sCons (sAug 5 .Add (wOp .Mult (wList (aCons (wOp .Mod (wLoc 6) (wInt (5))) (aNil))) (wOp .Add (wInt (1)) (wOp .Mod (wOp .FloorDiv (wLoc 6) (wInt (5))) (wInt (2))))))
  (sNil))
theorem flat_rep (p : Nat) : ∀ k : Nat, (List.replicate k [V.int (p : Nat)]).flatten = intN (List.replicate k p)
  | 0 => rfl
  | k + 1 => by
    rw [List.replicate_succ, List.flatten_cons, flat_rep p k, List.replicate_succ]; rfl
theorem let_ok {X : Cx} {st : St} {n2 l : Addr} {ns : List Int} {Q : Fl → St → Prop} (l2 : st.lo 2 = some (.ref n2)) (l5 : st.lo 5 = some (.ref l)) (hn : st.hp n2 = some (.list (ns.map .int))) (hnl : ns.length = 8) (hl : st.hp l = some (.list []))
    (hne : n2 ≠ l) (k : ∀ ls st', (∀ p ∈ ls, p < 6) → ls.length ≤ 6 → st'.hp l = some (.list (intN ls)) → (∀ b o, st.hp b = some o → b ≠ l → st'.hp b = some o) → (∀ i, i ≠ 6 → st'.lo i = st.lo i) → Q .next st') : w_let X st Q := by
  unfold w_let
  refine sFor_gen ?_
  intro PP hPP
  dsimp only [sFor, iList, wSlice, wLoc, pSome, pNone, wInt]
  refine ⟨_, l2, _, rfl, _, .own hn, by simp [hnl], by simp, ?_⟩
  intro c hc
  have hc : st.hp c = none := hc
  have ec : pickV (ns.map V.int) (some 5) none none = (ns.drop 5).map V.int := by
    have := pickV_from (ns.map V.int) 5
    rw [show (((5 : Nat) : Int)) = 5 from rfl] at this
    rw [this]; simp
  rw [ec]
  have ncl : l ≠ c := by rintro rfl; rw [hl] at hc; cases hc
  refine ⟨c, _, rfl, Hp.set_self _ _ _, ?_⟩
  refine for_run (src := listSrc c) ((ns.drop 5).map V.int) (fun i s => ∃ ls : List Nat, (∀ p ∈ ls, p < 6) ∧ ls.length ≤ 2 * i ∧ s.hp l = some (.list (intN ls)) ∧ (∀ b o, st.hp b = some o → b ≠ l → s.hp b = some o) ∧ (∀ i, i ≠ 6 → s.lo i = st.lo i) ∧ s.hp c = some (.list ((ns.drop 5).map V.int))) (fun _ _ => rfl) (fun _ _ => rfl) (fun i s h => ⟨_, h.choose_spec.2.2.2.2.2, rfl⟩) ?_ ?_ ?_
  · exact ⟨[], by simp, by simp, set_keep' hl ncl, fun b o h _ => set_keepN h hc, fun i _ => rfl, Hp.set_self _ _ _⟩
  · rintro i v s ⟨ls, h1, h2, h3, h4, h5, h6⟩ hv
    obtain ⟨n, hn', rfl⟩ : ∃ n : Int, (ns.drop 5)[i]? = some n ∧ v = .int n := by
      rw [List.getElem?_map] at hv
      obtain ⟨n, a, b⟩ := Option.map_eq_some_iff.mp hv
      exact ⟨n, a, b.symm⟩
    have hi : i < 3 := by
      have := (List.getElem?_eq_some_iff.mp hn').1
      simp [hnl] at this; omega
    obtain ⟨p, hp, hp5⟩ : ∃ p : Nat, n % 5 = (p : Int) ∧ p < 5 := ⟨(n % 5).toNat, by omega, by omega⟩
    obtain ⟨m, hm, hm2⟩ : ∃ m : Nat, 1 + n / 5 % 2 = (m : Int) ∧ m ≤ 2 := ⟨(1 + n / 5 % 2).toNat, by omega, by omega⟩
    dsimp only [tName, sCons, sAug, wOp, wList, aCons, aNil, wLoc, wInt, binW, binI]
    refine ⟨_, (h5 5 (by omega)).trans l5, _, rfl, by omega, by simp, ?_⟩
    intro a fa
    rw [hp]
    refine ⟨_, rfl, by omega, by omega, by omega, ?_⟩
    dsimp only
    rw [hm]
    refine ⟨rfl, _, Hp.set_self _ _ _, by simp, by omega, by omega, ?_⟩
    intro t ft
    have fa : s.hp a = none := fa
    have ft : (s.hp.set a (.list [.int (p : Nat)])) t = none := ft
    rw [Int.toNat_natCast, flat_rep]
    have y1 : ((s.hp.set a (.list [.int (p : Nat)])).set t (.list (intN (List.replicate m p)))) l = some (.list (intN ls)) := set_keepN (set_keepN h3 fa) ft
    refine ⟨intN ls, _, y1, Hp.set_self _ _ _, by rw [intN_len, intN_len, List.length_replicate]; omega, ?_⟩
    dsimp only [sNil]
    refine ⟨ls ++ List.replicate m p, ?_, by rw [List.length_append, List.length_replicate]; omega, ?_, ?_, ?_, ?_⟩
    · intro q hq
      rcases List.mem_append.mp hq with h | h
      · exact h1 q h
      · have := (List.mem_replicate.mp h).2; omega
    · rw [intN_app]; exact Hp.set_self _ _ _
    · intro b o hb nb
      exact set_keep' (set_keepN (set_keepN (h4 b o hb nb) fa) ft) nb
    · intro j hj
      show setLo (setLo s.lo 6 _) 5 _ j = _
      by_cases e : j = 5
      · subst e; exact l5.symm
      · show (if j = 5 then _ else if j = 6 then _ else s.lo j) = _
        rw [if_neg e, if_neg hj]; exact h5 j hj
    · exact set_keep' (set_keepN (set_keepN h6 fa) ft) (Ne.symm ncl)
  · rintro s ⟨ls, h1, h2, h3, h4, h5, h6⟩
    have : ((ns.drop 5).map V.int).length = 3 := by simp [hnl]
    rw [this] at h2
    rw [hPP]
    exact k ls s h1 (by omega) h3 h4 h5
end Mine
end

noncomputable section
open PySem PySem.W PyProof.Rows
set_option maxHeartbeats 2000000
namespace Mine
theorem WhAt.keep {cg : Cogs} {hp hp' : Hp} {d : Addr} {wa : Nat → Addr} {ca : Nat → Nat → Addr} (w : WhAt cg hp d wa ca) (x : ∀ b o, hp b = some o → (∀ ob, o ≠ .raw ob) → hp' b = some o) : WhAt cg hp' d wa ca :=
  ⟨let ⟨kvs, ep, h, l⟩ := w.dict; ⟨kvs, ep, x _ _ h (by simp), l⟩, fun p hp => x _ _ (w.whl p hp) (by simp), fun p hp k hk => x _ _ (w.cog p hp k hk) (by simp)⟩
noncomputable def law2W (X : Cx) : WF := fun args hp P => ∃ (v : V) (is : List Int), args = [v] ∧ LstR X hp v (is.map .int) ∧ is.length < 1000 ∧ hp 192 = some (.raw (tabObj #[])) ∧ ∀ hp' ps, hp' 192 = some (.raw (tabObj ps)) → P (.bool true) hp'
noncomputable def w_law2b (X : Cx) : WS := sCons (sAssign 4 (wCall wheelsW (aCons (wSlice X (wLoc 2) (pNone) (pSome (wInt (5))) (pNone)) (aCons (wLoc 3) (aNil))))) (sCons (sAssign 5 (wList (aNil))) (sCons (w_let X) (sCons (sAssign 7 (wCall due2W (aCons (wLoc 4) (aCons (wLoc 5) (aNil))))) (sCons (sAssign 8 (wCall endW (aCons (wLoc 4) (aNil)))) (sSwitch X fun X => w_lawt X (reduce2W X) offW pbpW)))))
theorem law2b_ok {X : Cx} (B : Base X (K02 X.w.params)) {st : St} {P : Fl → St → Prop} {c1 c2 lh : Addr} {cs ns : List Int} {S : Nat} (e1 : st.lo 1 = some (.ref c1)) (e2 : st.lo 2 = some (.ref c2)) (e3 : st.lo 3 = some (.ref lh)) (hc1 : st.hp c1 = some (.list (cs.map .int))) (hc2 : st.hp c2 = some (.list (ns.map .int))) (hnl : ns.length = 8) (hlh : st.hp lh = some (.list (intN (hidL (hOf S))))) (hS5 : S < 5) (h192 : st.hp 192 = some (.raw (tabObj #[])))
    (k : ∀ st' ps, st'.hp 192 = some (.raw (tabObj ps)) → P (.ret (.bool true)) st') : w_law2b X st P := by
  unfold w_law2b
  obtain ⟨lo0, h4⟩ := st
  have hc1 : h4 c1 = _ := hc1
  have hc2 : h4 c2 = _ := hc2
  have hlh : h4 lh = _ := hlh
  have h192 : h4 192 = _ := h192
  dsimp only [sCons, sAssign]
  dsimp only [wCall, aCons, aNil, wSlice, wLoc, pNone, pSome, wInt]
  refine ⟨_, e2, _, rfl, _, .own hc2, by simp [hnl], by simp, ?_⟩
  intro ln fln
  have fln : h4 ln = none := fln
  have en : pickV (ns.map V.int) none (some 5) none = (ns.take 5).map V.int := by
    have := pickV_upto (ns.map V.int) 5
    rw [show (((5 : Nat) : Int)) = 5 from rfl] at this
    rw [this]; simp
  rw [en]
  have x5 : Ext h4 (h4.set ln (.list ((ns.take 5).map V.int))) := (Ext.refl h4).new fln
  refine ⟨_, e3, ln, lh, ns.take 5, hOf S, rkOf S, rfl, Hp.set_self _ _ _, by simp [hnl], x5 _ _ hlh, hid_of hS5, ?_⟩
  intro d wa ca cg h6 x6 wh W
  have x6 : Ext h4 h6 := x5.trans x6
  refine ⟨by simp, ?_⟩
  intro l fl
  have fl : h6 l = none := fl
  have x7 : Ext h6 (h6.set l (.list [])) := (Ext.refl h6).new fl
  have h7l : (h6.set l (.list [])) l = some (.list []) := Hp.set_self _ _ _
  have wh7 := wh.ext x7
  have c17 := x7 _ _ (x6 _ _ hc1)
  have c27 := x7 _ _ (x6 _ _ hc2)
  have t7 := x7 _ _ (x6 _ _ h192)
  have neL : ∀ b o, h6 b = some o → b ≠ l := by rintro b o q rfl; rw [fl] at q; cases q
  have n2l := neL _ _ (x6 _ _ hc2)
  have n1l := neL _ _ (x6 _ _ hc1)
  have n192 := neL _ _ (x6 _ _ h192)
  have whL : ∀ h', (∀ b o, (h6.set l (.list [])) b = some o → b ≠ l → h' b = some o) → WhAt cg h' d wa ca := fun h' q =>
    ⟨let ⟨kvs, ep, e, l'⟩ := wh.dict; ⟨kvs, ep, q _ _ (x7 _ _ e) (neL _ _ e), l'⟩, fun p hp => q _ _ (x7 _ _ (wh.whl p hp)) (neL _ _ (wh.whl p hp)), fun p hp k hk => q _ _ (x7 _ _ (wh.cog p hp k hk)) (neL _ _ (wh.cog p hp k hk))⟩
  refine let_ok (X := X) (n2 := c2) (l := l) (ns := ns) e2 rfl c27 hnl h7l n2l ?_
  intro ls st hlt hln hl kp lo
  have kp : ∀ b o, (h6.set l (.list [])) b = some o → b ≠ l → st.hp b = some o := kp
  have wh8 := whL _ kp
  have c18 := kp _ _ c17 n1l
  have t8 := kp _ _ t7 n192
  have e1 : st.lo 1 = some (.ref c1) := (lo 1 (by omega)).trans e1
  have e4 : st.lo 4 = some (.ref d) := lo 4 (by omega)
  have e5 : st.lo 5 = some (.ref l) := lo 5 (by omega)
  clear lo kp whL neL hlh hc2 hc1 c17 c27 t7 x5 x6 x7 wh wh7 h7l
  refine ⟨_, e4, _, e5, d, l, ls, cg, rkOf S, wa, ca, rfl, hl, wh8, W, ?_⟩
  intro du h9 x9 _ hdu
  refine ⟨_, e4, d, rfl, x9 _ _ t8, ?_⟩
  intro f c cl ob oc oe ps h10 ff fc fcl hob hoc hoe kp t10 hf hc hcl
  have wh9 := wh8.ext x9
  have t9 := x9 _ _ t8
  have n9 : ∀ {b o}, h9 b = some o → b ≠ f ∧ b ≠ c ∧ b ≠ cl := by
    intro b o q
    refine ⟨?_, ?_, ?_⟩
    · rintro rfl; have ff : h9 b = none := ff; rw [ff] at q; cases q
    · rintro rfl; have fc : h9 b = none := fc; rw [fc] at q; cases q
    · rintro rfl; have fcl : h9 b = none := fcl; rw [fcl] at q; cases q
  have kc : ∀ b o, h9 b = some o → (∀ ob, o ≠ .raw ob) → (h10.cut [f, c, cl]) b = some o := by
    intro b o q nr
    obtain ⟨q1, q2, q3⟩ := n9 q
    unfold Hp.cut
    rw [if_neg (by simp [q1, q2, q3])]
    refine kp b o q ?_
    rintro rfl
    have t9 : h9 192 = some (.raw (tabObj #[])) := t9
    rw [t9] at q; cases q
    exact nr _ rfl
  have tc : (h10.cut [f, c, cl]) 192 = some (.raw (tabObj ps)) := by
    obtain ⟨q1, q2, q3⟩ := n9 t9
    unfold Hp.cut
    rw [if_neg (by simp [q1, q2, q3])]; exact t10
  dsimp only [sSwitch]
  refine ⟨[f, c, cl], ?_, ?_⟩
  · intro b hb
    simp only [List.mem_cons, List.not_mem_nil, or_false] at hb
    rcases hb with rfl | rfl | rfl
    · exact ⟨_, hf⟩
    · exact ⟨_, hc⟩
    · exact ⟨_, hcl⟩
  · intro h S' hk
    have B' : Base (X.on h) (K02 X.w.params) := B.on S'
    have hf' := hk f (by simp) _ hf
    have hc' := hk c (by simp) _ hc
    have hcl' := hk cl (by simp) _ hcl
    have hs := ok2_letter B' hob hf' hc' hoc hcl' hoe
    refine lawt_ok (X := X.on h) (d := d) (l := l) (du := du) (f := f) (c1 := c1) (ls := ls) (cs := cs) (cg := cg) (rk := rkOf S) (wa := wa) (ca := ca) e1 e4 e5 rfl rfl (kc _ _ (x9 _ _ c18) (by simp)) (wh9.keep kc) W (kc _ _ (x9 _ _ hl) (by simp)) hlt hln (kc _ _ hdu (by simp)) ?_ hs ?_
    · obtain ⟨doc, pm, ctv, rfl⟩ := hob
      exact ⟨_, _, hf', rfl⟩
    · intro hp' x
      exact k _ ps (x _ _ tc)
theorem law2_ok {X : Cx} (B : Base X (K02 X.w.params)) (args : List V) (hp : Hp) (P : V → Hp → Prop) (h : law2W X args hp P) : posW 1 (w_law2 X wheelsW due2W endW offW pbpW reduce2W) args hp P := by
  obtain ⟨v, is, rfl, hv, hil, h192, k⟩ := h
  refine ⟨rfl, ?_⟩
  unfold w_law2
  show sCons (w_cells X) _ _ _
  refine cells_ok (is := is) rfl hv hil ?_
  intro c1 h1 x1 hc1
  have hcl : (cellsOf is).length < 1000 := by simp [cellsOf]; omega
  generalize hcs : cellsOf is = cs at hc1 hcl
  show sCons (w_nums X _) _ _ _
  refine nums_ok (fs := [35, 305, 7, 130, 0, 5, 2, 9]) (cs := cs) rfl hc1 hcl (by simp) (fun K h => h) ?_
  intro c2 h2 x2 hc2
  have x2 : Ext h1 h2 := x2
  generalize hns : numsOf8 [35, 305, 7, 130, 0, 5, 2, 9] cs = ns at hc2
  have hnl : ns.length = 8 := by rw [← hns]; rfl
  show sCons (sAssign 3 (wOp .Add w_hid _)) (w_law2b X) _ _
  generalize hWT : w_law2b X = WT
  dsimp only [sCons, sAssign, wOp]
  refine hid_ok (c1 := c1) (cs := cs) rfl (x2 _ _ hc1) ?_
  intro ch h3 x3 _ hch
  have x3 : Ext h2 h3 := x3
  dsimp only [wList, aCons, aNil, wInt]
  refine ⟨by simp, ?_⟩
  intro a5 f5
  have f5 : h3 a5 = none := f5
  show _ ∧ ∃ xs ys, _
  refine ⟨rfl, _, _, set_keepN hch f5, Hp.set_self _ _ _, by simp [intN], ?_⟩
  intro lh flh
  have flh : (h3.set a5 (.list [.int 5])) lh = none := flh
  generalize hS : (cs.sum % 5).toNat = S
  have hS5 : S < 5 := by omega
  have eh : intN ((List.range 5).map (hOf S)) ++ [V.int 5] = intN (hidL (hOf S)) := rfl
  rw [eh]
  have x4 : Ext h3 ((h3.set a5 (.list [.int 5])).set lh (.list (intN (hidL (hOf S))))) := ((Ext.refl h3).new f5).new flh
  have hlh : ((h3.set a5 (.list [.int 5])).set lh (.list (intN (hidL (hOf S))))) lh = some (.list (intN (hidL (hOf S)))) := Hp.set_self _ _ _
  have x24 := x3.trans x4
  rw [← hWT]
  refine law2b_ok B (c1 := c1) (c2 := c2) (lh := lh) (cs := cs) (ns := ns) rfl rfl rfl (x24 _ _ (x2 _ _ hc1)) (x24 _ _ hc2) hnl hlh hS5 (x24 _ _ (x2 _ _ (x1 _ _ h192))) ?_
  intro st' ps q
  exact k _ ps q
end Mine
end

noncomputable section
open PySem PySem.W PyProof.Rows
set_option maxRecDepth 100000
set_option maxHeartbeats 2000000
namespace Mine
theorem ok2_ts_init1 {X : Cx} (B : Base X (K02 X.w.params)) {Wts_add : WF} (hts_add : SF X 87 4 Wts_add) :
    SF X 73 5 (posW1 1 .none (w_ts_init X Wts_add)) := by
  have C := B.cok
  refine sf_dflt1 B (dv := .none) (rv := .none) (nm := ["self", "graph", "node", "predecessors"]) (ps := ["self", "graph"]) (d := 4) (B.def (a := 73) rfl rfl rfl rfl rfl) (by decide) (by decide) (by rfl) (by rfl) ?k rfl rfl rfl (fun h => .mkNone h) (by intro vs h; exact (match vs, h with | [v0], _ => ⟨_, rfl, rfl⟩)) ?b
  case k =>
    intro L x hx
    simp only [List.mem_cons, List.not_mem_nil, or_false] at hx
    rcases hx with rfl | rfl <;> first | exact .inl rfl | exact .inr ⟨rfl, rfl⟩
  case b =>
    intro L fr A hA hF
    unfold w_ts_init
    exact m_cons (m_assign1 (r_dict0) (t_own B own_n2i2 (r_loc (by exact ⟨rfl, rfl, rfl⟩))) (by rfl) (by rfl) (by rfl))
      (m_cons (m_assign1 (r_none) (t_own B own_rn2 (r_loc (by exact ⟨rfl, rfl, rfl⟩))) (by rfl) (by rfl) (by rfl))
      (m_cons (m_assign1 (r_int) (t_own B own_np2 (r_loc (by exact ⟨rfl, rfl, rfl⟩))) (by rfl) (by rfl) (by rfl))
      (m_cons (m_assign1 (r_int) (t_own B own_nf2 (r_loc (by exact ⟨rfl, rfl, rfl⟩))) (by rfl) (by rfl) (by rfl))
      (m_cons (m_if (q_cmp C hA (r_loc (by exact ⟨rfl, rfl, rfl⟩)) (r_none) (by rfl)) (m_cons (m_for (i_items C hA.handled (r_loc (by exact ⟨rfl, rfl, rfl⟩)) (by exact ⟨rfl, rfl, rfl, rfl⟩)) (t_tup hA.handled (by rfl) (ts_cons (t_name (by first | exact st_local rfl rfl | exact st_cell rfl rfl rfl | exact ⟨rfl, .inl rfl⟩)) (ts_cons (t_name (by first | exact st_local rfl rfl | exact st_cell rfl rfl rfl | exact ⟨rfl, .inl rfl⟩)) (ts_nil) (by rfl)) (by rfl)) (by rfl) (by rfl)) (m_cons (m_expr (r_methS B bound_add2 hA hF (by decide) hts_add (r_loc (by exact ⟨rfl, rfl, rfl⟩)) (r_loc (by exact ⟨rfl, rfl, rfl⟩)) (r_loc (by exact ⟨rfl, rfl, rfl⟩)) (by rfl) (by rfl) (by rfl) (by rfl)) (by rfl) (by rfl))
      (m_nil)) (by exact fun _ => rfl))
      (m_nil)) (m_nil))
      (m_nil)))))


end Mine
end

noncomputable section
open PySem PySem.W PyProof.Rows
set_option maxRecDepth 100000
set_option maxHeartbeats 2000000
namespace Mine
theorem ok2__siftdown {X : Cx} (B : Base X (K02 X.w.params))  :
    SF X 171 1 (posW 3 (w__siftdown X)) := by
  have C := B.cok
  refine sf_pos (nm := ["heap", "startpos", "pos", "newitem", "parentpos", "parent"]) (ps := ["heap", "startpos", "pos"]) (d := 0) (B.def (a := 171) rfl rfl rfl rfl rfl) (by decide) (by decide) (by rfl) (by rfl) ?k (by intro vs h; exact (match vs, h with | [v0, v1, v2], _ => rfl)) ?b
  case k =>
    intro L x hx
    simp only [List.mem_cons, List.not_mem_nil, or_false] at hx
    rcases hx with rfl | rfl | rfl <;> first | exact .inl rfl | exact .inr ⟨rfl, rfl⟩
  case b =>
    intro L fr A hA hF
    unfold w__siftdown
    exact m_cons (m_assign (by first | exact st_local rfl rfl | exact st_cell rfl rfl rfl | exact ⟨rfl, .inl rfl⟩) (r_sub (r_loc (by exact ⟨rfl, rfl, rfl⟩)) (r_loc (by exact ⟨rfl, rfl, rfl⟩)) (by exact fun _ _ => rfl)) (by rfl))
      (m_cons (m_while (q_cmp C hA (r_loc (by exact ⟨rfl, rfl, rfl⟩)) (r_loc (by exact ⟨rfl, rfl, rfl⟩)) (by rfl)) (m_cons (m_assign (by first | exact st_local rfl rfl | exact st_cell rfl rfl rfl | exact ⟨rfl, .inl rfl⟩) (r_op (r_op (r_loc (by exact ⟨rfl, rfl, rfl⟩)) (r_int)) (r_int)) (by rfl))
      (m_cons (m_assign (by first | exact st_local rfl rfl | exact st_cell rfl rfl rfl | exact ⟨rfl, .inl rfl⟩) (r_sub (r_loc (by exact ⟨rfl, rfl, rfl⟩)) (r_loc (by exact ⟨rfl, rfl, rfl⟩)) (by exact fun _ _ => rfl)) (by rfl))
      (m_cons (m_if (q_cmp C hA (r_loc (by exact ⟨rfl, rfl, rfl⟩)) (r_loc (by exact ⟨rfl, rfl, rfl⟩)) (by rfl)) (m_cons (m_assign1 (r_loc (by exact ⟨rfl, rfl, rfl⟩)) (t_sub (r_loc (by exact ⟨rfl, rfl, rfl⟩)) (r_loc (by exact ⟨rfl, rfl, rfl⟩))) (by rfl) (by rfl) (by rfl))
      (m_cons (m_assign (by first | exact st_local rfl rfl | exact st_cell rfl rfl rfl | exact ⟨rfl, .inl rfl⟩) (r_loc (by exact ⟨rfl, rfl, rfl⟩)) (by rfl))
      (m_cons (m_cont)
      (m_nil)))) (m_nil))
      (m_cons (m_break)
      (m_nil))))))
      (m_cons (m_assign1 (r_loc (by exact ⟨rfl, rfl, rfl⟩)) (t_sub (r_loc (by exact ⟨rfl, rfl, rfl⟩)) (r_loc (by exact ⟨rfl, rfl, rfl⟩))) (by rfl) (by rfl) (by rfl))
      (m_nil)))

theorem ok2__siftup {X : Cx} (B : Base X (K02 X.w.params)) {W_siftdown : WF} (h_siftdown : SF X 171 1 W_siftdown) :
    SF X 178 2 (posW 2 (w__siftup X W_siftdown)) := by
  have C := B.cok
  refine sf_pos (nm := ["heap", "pos", "endpos", "startpos", "newitem", "childpos", "rightpos"]) (ps := ["heap", "pos"]) (d := 1) (B.def (a := 178) rfl rfl rfl rfl rfl) (by decide) (by decide) (by rfl) (by rfl) ?k (by intro vs h; exact (match vs, h with | [v0, v1], _ => rfl)) ?b
  case k =>
    intro L x hx
    simp only [List.mem_cons, List.not_mem_nil, or_false] at hx
    rcases hx with rfl | rfl <;> first | exact .inl rfl | exact .inr ⟨rfl, rfl⟩
  case b =>
    intro L fr A hA hF
    unfold w__siftup
    exact m_cons (m_assign (by first | exact st_local rfl rfl | exact st_cell rfl rfl rfl | exact ⟨rfl, .inl rfl⟩) (r_len (r_blt B (by rfl) (by rfl) (by decide) (by rfl) (by rfl)) (r_loc (by exact ⟨rfl, rfl, rfl⟩)) (by rfl)) (by rfl))
      (m_cons (m_assign (by first | exact st_local rfl rfl | exact st_cell rfl rfl rfl | exact ⟨rfl, .inl rfl⟩) (r_loc (by exact ⟨rfl, rfl, rfl⟩)) (by rfl))
      (m_cons (m_assign (by first | exact st_local rfl rfl | exact st_cell rfl rfl rfl | exact ⟨rfl, .inl rfl⟩) (r_sub (r_loc (by exact ⟨rfl, rfl, rfl⟩)) (r_loc (by exact ⟨rfl, rfl, rfl⟩)) (by exact fun _ _ => rfl)) (by rfl))
      (m_cons (m_assign (by first | exact st_local rfl rfl | exact st_cell rfl rfl rfl | exact ⟨rfl, .inl rfl⟩) (r_op (r_op (r_int) (r_loc (by exact ⟨rfl, rfl, rfl⟩))) (r_int)) (by rfl))
      (m_cons (m_while (q_cmp C hA (r_loc (by exact ⟨rfl, rfl, rfl⟩)) (r_loc (by exact ⟨rfl, rfl, rfl⟩)) (by rfl)) (m_cons (m_assign (by first | exact st_local rfl rfl | exact st_cell rfl rfl rfl | exact ⟨rfl, .inl rfl⟩) (r_op (r_loc (by exact ⟨rfl, rfl, rfl⟩)) (r_int)) (by rfl))
      (m_cons (m_if (q_and (q_cmp C hA (r_loc (by exact ⟨rfl, rfl, rfl⟩)) (r_loc (by exact ⟨rfl, rfl, rfl⟩)) (by rfl)) (q_not (q_cmp C hA (r_sub (r_loc (by exact ⟨rfl, rfl, rfl⟩)) (r_loc (by exact ⟨rfl, rfl, rfl⟩)) (by exact fun _ _ => rfl)) (r_sub (r_loc (by exact ⟨rfl, rfl, rfl⟩)) (r_loc (by exact ⟨rfl, rfl, rfl⟩)) (by exact fun _ _ => rfl)) (by rfl)))) (m_cons (m_assign (by first | exact st_local rfl rfl | exact st_cell rfl rfl rfl | exact ⟨rfl, .inl rfl⟩) (r_loc (by exact ⟨rfl, rfl, rfl⟩)) (by rfl))
      (m_nil)) (m_nil))
      (m_cons (m_assign1 (r_sub (r_loc (by exact ⟨rfl, rfl, rfl⟩)) (r_loc (by exact ⟨rfl, rfl, rfl⟩)) (by exact fun _ _ => rfl)) (t_sub (r_loc (by exact ⟨rfl, rfl, rfl⟩)) (r_loc (by exact ⟨rfl, rfl, rfl⟩))) (by rfl) (by rfl) (by rfl))
      (m_cons (m_assign (by first | exact st_local rfl rfl | exact st_cell rfl rfl rfl | exact ⟨rfl, .inl rfl⟩) (r_loc (by exact ⟨rfl, rfl, rfl⟩)) (by rfl))
      (m_cons (m_assign (by first | exact st_local rfl rfl | exact st_cell rfl rfl rfl | exact ⟨rfl, .inl rfl⟩) (r_op (r_op (r_int) (r_loc (by exact ⟨rfl, rfl, rfl⟩))) (r_int)) (by rfl))
      (m_nil)))))))
      (m_cons (m_assign1 (r_loc (by exact ⟨rfl, rfl, rfl⟩)) (t_sub (r_loc (by exact ⟨rfl, rfl, rfl⟩)) (r_loc (by exact ⟨rfl, rfl, rfl⟩))) (by rfl) (by rfl) (by rfl))
      (m_cons (m_expr (r_call hA hF (by decide) h_siftdown (fnx B rfl) (r_fn B (by rfl) (by rfl) (by rfl)) (a_cons (r_loc (by exact ⟨rfl, rfl, rfl⟩)) (a_cons (r_loc (by exact ⟨rfl, rfl, rfl⟩)) (a_cons (r_loc (by exact ⟨rfl, rfl, rfl⟩)) (a_nil) (by rfl)) (by rfl)) (by rfl)) (by rfl)) (by rfl) (by rfl))
      (m_nil)))))))

theorem ok2_heappush {X : Cx} (B : Base X (K02 X.w.params)) {W_siftdown : WF} (h_siftdown : SF X 171 1 W_siftdown) :
    SF X 157 2 (posW 2 (w_heappush X W_siftdown)) := by
  have C := B.cok
  refine sf_pos (nm := ["heap", "item"]) (ps := ["heap", "item"]) (d := 1) (B.def (a := 157) rfl rfl rfl rfl rfl) (by decide) (by decide) (by rfl) (by rfl) ?k (by intro vs h; exact (match vs, h with | [v0, v1], _ => rfl)) ?b
  case k =>
    intro L x hx
    simp only [List.mem_cons, List.not_mem_nil, or_false] at hx
    rcases hx with rfl | rfl <;> first | exact .inl rfl | exact .inr ⟨rfl, rfl⟩
  case b =>
    intro L fr A hA hF
    unfold w_heappush
    exact m_cons (m_expr (r_append (r_loc (by exact ⟨rfl, rfl, rfl⟩)) (r_loc (by exact ⟨rfl, rfl, rfl⟩)) (by exact ⟨rfl, rfl, rfl, rfl⟩)) (by rfl) (by rfl))
      (m_cons (m_expr (r_call hA hF (by decide) h_siftdown (fnx B rfl) (r_fn B (by rfl) (by rfl) (by rfl)) (a_cons (r_loc (by exact ⟨rfl, rfl, rfl⟩)) (a_cons (r_int) (a_cons (r_op (r_len (r_blt B (by rfl) (by rfl) (by decide) (by rfl) (by rfl)) (r_loc (by exact ⟨rfl, rfl, rfl⟩)) (by rfl)) (r_int)) (a_nil) (by rfl)) (by rfl)) (by rfl)) (by rfl)) (by rfl) (by rfl))
      (m_nil))

theorem ok2_heappop {X : Cx} (B : Base X (K02 X.w.params)) {W_siftup : WF} (h_siftup : SF X 178 2 W_siftup) :
    SF X 164 3 (posW 1 (w_heappop X W_siftup)) := by
  have C := B.cok
  refine sf_pos (nm := ["heap", "lastelt", "returnitem"]) (ps := ["heap"]) (d := 2) (B.def (a := 164) rfl rfl rfl rfl rfl) (by decide) (by decide) (by rfl) (by rfl) ?k (by intro vs h; exact (match vs, h with | [v0], _ => rfl)) ?b
  case k =>
    intro L x hx
    simp only [List.mem_cons, List.not_mem_nil, or_false] at hx
    rcases hx with rfl <;> first | exact .inl rfl | exact .inr ⟨rfl, rfl⟩
  case b =>
    intro L fr A hA hF
    unfold w_heappop
    exact m_cons (m_assign (by first | exact st_local rfl rfl | exact st_cell rfl rfl rfl | exact ⟨rfl, .inl rfl⟩) (r_pop (r_loc (by exact ⟨rfl, rfl, rfl⟩)) (by exact ⟨rfl, rfl, rfl, rfl⟩)) (by rfl))
      (m_cons (m_if (q_val (r_loc (by exact ⟨rfl, rfl, rfl⟩)) (by exact fun _ => rfl)) (m_cons (m_assign (by first | exact st_local rfl rfl | exact st_cell rfl rfl rfl | exact ⟨rfl, .inl rfl⟩) (r_sub (r_loc (by exact ⟨rfl, rfl, rfl⟩)) (r_int) (by exact fun _ _ => rfl)) (by rfl))
      (m_cons (m_assign1 (r_loc (by exact ⟨rfl, rfl, rfl⟩)) (t_sub (r_loc (by exact ⟨rfl, rfl, rfl⟩)) (r_int)) (by rfl) (by rfl) (by rfl))
      (m_cons (m_expr (r_call hA hF (by decide) h_siftup (fnx B rfl) (r_fn B (by rfl) (by rfl) (by rfl)) (a_cons (r_loc (by exact ⟨rfl, rfl, rfl⟩)) (a_cons (r_int) (a_nil) (by rfl)) (by rfl)) (by rfl)) (by rfl) (by rfl))
      (m_cons (m_ret (r_loc (by exact ⟨rfl, rfl, rfl⟩)))
      (m_nil))))) (m_nil))
      (m_cons (m_ret (r_loc (by exact ⟨rfl, rfl, rfl⟩)))
      (m_nil)))

end Mine
end

noncomputable section
open PySem PySem.W PyProof.Rows
set_option maxRecDepth 100000
set_option maxHeartbeats 2000000
namespace Mine
theorem ok2_ni_init {X : Cx} (B : Base X (K02 X.w.params))  :
    SF X 36 1 (posW 2 (w_ni_init X)) := by
  have C := B.cok
  refine sf_pos (nm := ["self", "node"]) (ps := ["self", "node"]) (d := 0) (B.def (a := 36) rfl rfl rfl rfl rfl) (by decide) (by decide) (by rfl) (by rfl) ?k (by intro vs h; exact (match vs, h with | [v0, v1], _ => rfl)) ?b
  case k =>
    intro L x hx
    simp only [List.mem_cons, List.not_mem_nil, or_false] at hx
    rcases hx with rfl | rfl <;> first | exact .inl rfl | exact .inr ⟨rfl, rfl⟩
  case b =>
    intro L fr A hA hF
    unfold w_ni_init
    exact m_cons (m_assign1 (r_loc (by exact ⟨rfl, rfl, rfl⟩)) (t_slot B slot_node2 (r_loc (by exact ⟨rfl, rfl, rfl⟩))) (by rfl) (by rfl) (by rfl))
      (m_cons (m_assign1 (r_int) (t_slot B slot_npred2 (r_loc (by exact ⟨rfl, rfl, rfl⟩))) (by rfl) (by rfl) (by rfl))
      (m_cons (m_assign1 (r_list (a_nil)) (t_slot B slot_succ2 (r_loc (by exact ⟨rfl, rfl, rfl⟩))) (by rfl) (by rfl) (by rfl))
      (m_nil)))

theorem ok2_tsget_nodeinfo {X : Cx} (B : Base X (K02 X.w.params)) {Wni_init : WF} (hni_init : SF X 36 1 Wni_init) :
    SF X 80 3 (posW 2 (w_tsget_nodeinfo X Wni_init)) := by
  have C := B.cok
  refine sf_pos (nm := ["self", "node", "result"]) (ps := ["self", "node"]) (d := 2) (B.def (a := 80) rfl rfl rfl rfl rfl) (by decide) (by decide) (by rfl) (by rfl) ?k (by intro vs h; exact (match vs, h with | [v0, v1], _ => rfl)) ?b
  case k =>
    intro L x hx
    simp only [List.mem_cons, List.not_mem_nil, or_false] at hx
    rcases hx with rfl | rfl <;> first | exact .inl rfl | exact .inr ⟨rfl, rfl⟩
  case b =>
    intro L fr A hA hF
    unfold w_tsget_nodeinfo
    exact m_cons (m_if (q_cmp C hA (r_wal (r_dget C (r_getOwn B own_n2i2 (r_loc (by exact ⟨rfl, rfl, rfl⟩)) (by rfl)) (r_loc (by exact ⟨rfl, rfl, rfl⟩)) (by exact ⟨rfl, rfl, rfl, rfl⟩)) (t_name (by first | exact st_local rfl rfl | exact st_cell rfl rfl rfl | exact ⟨rfl, .inl rfl⟩))) (r_none) (by rfl)) (m_cons (m_assign2 (r_new B makes402 hA hF (by decide) hni_init (r_fn B (by rfl) (by rfl) (by rfl)) (a_cons (r_loc (by exact ⟨rfl, rfl, rfl⟩)) (a_nil) (by rfl)) (by rfl) (by rfl)) (t_sub (r_getOwn B own_n2i2 (r_loc (by exact ⟨rfl, rfl, rfl⟩)) (by rfl)) (r_loc (by exact ⟨rfl, rfl, rfl⟩))) (t_name (by first | exact st_local rfl rfl | exact st_cell rfl rfl rfl | exact ⟨rfl, .inl rfl⟩)) (by rfl) (by rfl))
      (m_nil)) (m_nil))
      (m_cons (m_ret (r_loc (by exact ⟨rfl, rfl, rfl⟩)))
      (m_nil))

theorem ok2_ts_add {X : Cx} (B : Base X (K02 X.w.params)) {Wtsget_nodeinfo : WF} (htsget_nodeinfo : SF X 80 3 Wtsget_nodeinfo) :
    SF X 87 4 (varW 2 (w_ts_add X Wtsget_nodeinfo)) := by
  have C := B.cok
  refine sf_var (nm := ["self", "node", "predecessors", "nodeinfo", "pred", "pred_info"]) (ps := ["self", "node", "predecessors"]) (d := 3) (B.def (a := 87) rfl rfl rfl rfl rfl) (by decide) (by decide) (by rfl) (by rfl) ?k (by intro vs ws h; exact (match vs, h, ws with | [v0, v1], _, [] => rfl | [v0, v1], _, _ :: _ => rfl)) ?b
  case k =>
    intro L x hx
    simp only [List.mem_cons, List.not_mem_nil, or_false] at hx
    rcases hx with rfl | rfl | rfl <;> first | exact .inl rfl | exact .inr ⟨rfl, rfl⟩
  case b =>
    intro L fr A hA hF
    unfold w_ts_add
    exact m_cons (m_if (q_cmp C hA (r_getOwn B own_rn2 (r_loc (by exact ⟨rfl, rfl, rfl⟩)) (by rfl)) (r_none) (by rfl)) (m_never) (m_nil))
      (m_cons (m_assign (by first | exact st_local rfl rfl | exact st_cell rfl rfl rfl | exact ⟨rfl, .inl rfl⟩) (r_meth B meth_get2 hA hF (by decide) htsget_nodeinfo (r_loc (by exact ⟨rfl, rfl, rfl⟩)) (a_cons (r_loc (by exact ⟨rfl, rfl, rfl⟩)) (a_nil) (by rfl)) (by rfl) (by rfl) (by rfl)) (by rfl))
      (m_cons (m_augslot B slot_npred2 (r_loc (by exact ⟨rfl, rfl, rfl⟩)) (r_len (r_blt B (by rfl) (by rfl) (by decide) (by rfl) (by rfl)) (r_loc (by exact ⟨rfl, rfl, rfl⟩)) (by rfl)))
      (m_cons (m_for (i_tup hA.handled (r_loc (by exact ⟨rfl, rfl, rfl⟩))) (t_name (by first | exact st_local rfl rfl | exact st_cell rfl rfl rfl | exact ⟨rfl, .inl rfl⟩)) (m_cons (m_assign (by first | exact st_local rfl rfl | exact st_cell rfl rfl rfl | exact ⟨rfl, .inl rfl⟩) (r_meth B meth_get2 hA hF (by decide) htsget_nodeinfo (r_loc (by exact ⟨rfl, rfl, rfl⟩)) (a_cons (r_loc (by exact ⟨rfl, rfl, rfl⟩)) (a_nil) (by rfl)) (by rfl) (by rfl) (by rfl)) (by rfl))
      (m_cons (m_expr (r_append (r_getSlot B slot_succ2 (r_loc (by exact ⟨rfl, rfl, rfl⟩)) (by rfl)) (r_loc (by exact ⟨rfl, rfl, rfl⟩)) (by exact ⟨rfl, rfl, rfl, rfl⟩)) (by rfl) (by rfl))
      (m_nil))) (by exact fun _ => rfl))
      (m_nil))))

end Mine
end

noncomputable section
open PySem PySem.W PyProof.Rows
set_option maxRecDepth 100000
set_option maxHeartbeats 2000000
namespace Mine
theorem ok2_tsfind_cycle {X : Cx} (B : Base X (K02 X.w.params))  :
    SF X 127 1 (posW 1 (w_tsfind_cycle X)) := by
  have C := B.cok
  refine sf_pos (nm := ["self", "n2i", "stack", "itstack", "seen", "node2stacki", "node"]) (ps := ["self"]) (d := 0) (B.def (a := 127) rfl rfl rfl rfl rfl) (by decide) (by decide) (by rfl) (by rfl) ?k (by intro vs h; exact (match vs, h with | [v0], _ => rfl)) ?b
  case k =>
    intro L x hx
    simp only [List.mem_cons, List.not_mem_nil, or_false] at hx
    rcases hx with rfl <;> first | exact .inl rfl | exact .inr ⟨rfl, rfl⟩
  case b =>
    intro L fr A hA hF
    unfold w_tsfind_cycle
    exact m_cons (m_assign (by first | exact st_local rfl rfl | exact st_cell rfl rfl rfl | exact ⟨rfl, .inl rfl⟩) (r_getOwn B own_n2i2 (r_loc (by exact ⟨rfl, rfl, rfl⟩)) (by rfl)) (by rfl))
      (m_cons (m_assign (by first | exact st_local rfl rfl | exact st_cell rfl rfl rfl | exact ⟨rfl, .inl rfl⟩) (r_list (a_nil)) (by rfl))
      (m_cons (m_assign (by first | exact st_local rfl rfl | exact st_cell rfl rfl rfl | exact ⟨rfl, .inl rfl⟩) (r_list (a_nil)) (by rfl))
      (m_cons (m_assign (by first | exact st_local rfl rfl | exact st_cell rfl rfl rfl | exact ⟨rfl, .inl rfl⟩) (r_setc (r_blt B (by rfl) (by rfl) (by decide) (by rfl) (by rfl))) (by rfl))
      (m_cons (m_assign (by first | exact st_local rfl rfl | exact st_cell rfl rfl rfl | exact ⟨rfl, .inl rfl⟩) (r_dict0) (by rfl))
      (m_cons (m_for (i_keys C hA.handled (r_loc (by exact ⟨rfl, rfl, rfl⟩))) (t_name (by first | exact st_local rfl rfl | exact st_cell rfl rfl rfl | exact ⟨rfl, .inl rfl⟩)) (m_cons (m_if (q_cmp C hA (r_loc (by exact ⟨rfl, rfl, rfl⟩)) (r_loc (by exact ⟨rfl, rfl, rfl⟩)) (by rfl)) (m_cons (m_cont)
      (m_nil)) (m_nil))
      (m_cons (m_while (q_val (r_bool) (by exact fun _ => rfl)) (m_cons (m_if (q_cmp C hA (r_loc (by exact ⟨rfl, rfl, rfl⟩)) (r_loc (by exact ⟨rfl, rfl, rfl⟩)) (by rfl)) (m_cons (m_if (q_cmp C hA (r_loc (by exact ⟨rfl, rfl, rfl⟩)) (r_loc (by exact ⟨rfl, rfl, rfl⟩)) (by rfl)) (m_cons (m_ret (r_op (r_slice (r_loc (by exact ⟨rfl, rfl, rfl⟩)) (p_some (r_sub (r_loc (by exact ⟨rfl, rfl, rfl⟩)) (r_loc (by exact ⟨rfl, rfl, rfl⟩)) (by exact fun _ _ => rfl))) (p_none) (p_none) (by exact fun _ _ => ⟨_, rfl⟩)) (r_list (a_cons (r_loc (by exact ⟨rfl, rfl, rfl⟩)) (a_nil) (by rfl)))))
      (m_nil)) (m_nil))
      (m_nil)) (m_cons (m_expr (r_sadd (r_loc (by exact ⟨rfl, rfl, rfl⟩)) (r_loc (by exact ⟨rfl, rfl, rfl⟩)) (by exact ⟨rfl, rfl, rfl, rfl⟩)) (by rfl) (by rfl))
      (m_cons (m_expr (r_append (r_loc (by exact ⟨rfl, rfl, rfl⟩)) (r_nextm (r_iter (r_blt B (by rfl) (by rfl) (by decide) (by rfl) (by rfl)) (r_getSlot B slot_succ2 (r_sub (r_loc (by exact ⟨rfl, rfl, rfl⟩)) (r_loc (by exact ⟨rfl, rfl, rfl⟩)) (by exact fun _ _ => rfl)) (by rfl)) (by rfl)) (by rfl)) (by exact ⟨rfl, rfl, rfl, rfl⟩)) (by rfl) (by rfl))
      (m_cons (m_assign1 (r_len (r_blt B (by rfl) (by rfl) (by decide) (by rfl) (by rfl)) (r_loc (by exact ⟨rfl, rfl, rfl⟩)) (by rfl)) (t_sub (r_loc (by exact ⟨rfl, rfl, rfl⟩)) (r_loc (by exact ⟨rfl, rfl, rfl⟩))) (by rfl) (by rfl) (by rfl))
      (m_cons (m_expr (r_append (r_loc (by exact ⟨rfl, rfl, rfl⟩)) (r_loc (by exact ⟨rfl, rfl, rfl⟩)) (by exact ⟨rfl, rfl, rfl, rfl⟩)) (by rfl) (by rfl))
      (m_nil))))))
      (m_cons (m_whileE (q_val (r_loc (by exact ⟨rfl, rfl, rfl⟩)) (by exact fun _ => rfl)) (m_cons (m_try hF (x_cons (x_assign (by first | exact st_local rfl rfl | exact st_cell rfl rfl rfl | exact ⟨rfl, .inl rfl⟩) (ex_next hA.handled (r_sub (r_loc (by exact ⟨rfl, rfl, rfl⟩)) (r_neg) (by exact fun _ _ => rfl)) (by rfl)) (by rfl))
      (x_cons (x_of (m_break))
      (x_nil))) (meets_builtin nx_sub2 nx_sub3 isSubtype_stop (B.blt (by rfl) (by rfl) (by decide)) (by rfl) (by rfl)) (fun _ => m_cons (m_del (r_loc (by exact ⟨rfl, rfl, rfl⟩)) (r_pop (r_loc (by exact ⟨rfl, rfl, rfl⟩)) (by exact ⟨rfl, rfl, rfl, rfl⟩)))
      (m_cons (m_expr (r_pop (r_loc (by exact ⟨rfl, rfl, rfl⟩)) (by exact ⟨rfl, rfl, rfl, rfl⟩)) (by rfl) (by rfl))
      (m_nil))))
      (m_nil)) (m_cons (m_break)
      (m_nil)))
      (m_nil))))
      (m_nil))) (by exact fun _ => rfl))
      (m_cons (m_ret (r_none))
      (m_nil)))))))

theorem ok2_ts_prepare {X : Cx} (B : Base X (K02 X.w.params)) {Wtsfind_cycle : WF} (htsfind_cycle : SF X 127 1 Wtsfind_cycle) :
    SFE X (.ref 55) 92 2 (posWx 1 (w_ts_prepare X Wtsfind_cycle)) := by
  have C := B.cok
  refine sf_posx (nm := ["self", "cycle"]) (ps := ["self"]) (d := 1) (B.def (a := 92) rfl rfl rfl rfl rfl) (by decide) (by decide) (by rfl) (by rfl) ?k (by intro vs h; exact (match vs, h with | [v0], _ => rfl)) ?b
  case k =>
    intro L x hx
    simp only [List.mem_cons, List.not_mem_nil, or_false] at hx
    rcases hx with rfl <;> first | exact .inl rfl | exact .inr ⟨rfl, rfl⟩
  case b =>
    intro L fr A hA hF
    unfold w_ts_prepare
    exact x_cons (x_of (m_if (q_cmp C hA (r_getOwn B own_rn2 (r_loc (by exact ⟨rfl, rfl, rfl⟩)) (by rfl)) (r_none) (by rfl)) (m_never) (m_nil)))
      (x_cons (x_of (m_assign1 (r_comp (by exact fun _ => rfl) (compOk (nm := ["i"]) (mp := [none]) rfl rfl (by rfl) (by repeat (first | exact trivial | refine ⟨rfl, ?_⟩)) (by decide) (by rfl)) (i_values C hA.handled (r_getOwn B own_n2i2 (r_loc (by exact ⟨rfl, rfl, rfl⟩)) (by rfl)) (by exact ⟨rfl, rfl, rfl, rfl⟩)) (fun _ => t_name (by first | exact st_local rfl rfl | exact st_cell rfl rfl rfl | exact ⟨rfl, .inl rfl⟩)) (fun _ => c_one (q_cmp C hA (r_getSlot B slot_npred2 (r_loc (by exact ⟨rfl, rfl, rfl⟩)) (by rfl)) (r_int) (by rfl))) (fun _ => r_getSlot B slot_node2 (r_loc (by exact ⟨rfl, rfl, rfl⟩)) (by rfl))) (t_own B own_rn2 (r_loc (by exact ⟨rfl, rfl, rfl⟩))) (by rfl) (by rfl) (by rfl)))
      (x_cons (x_of (m_assign (by first | exact st_local rfl rfl | exact st_cell rfl rfl rfl | exact ⟨rfl, .inl rfl⟩) (r_meth0 B meth_find2 hA hF (by decide) htsfind_cycle (r_loc (by exact ⟨rfl, rfl, rfl⟩)) (by rfl)) (by rfl)))
      (x_cons (x_if (q_val (r_loc (by exact ⟨rfl, rfl, rfl⟩)) (by exact fun _ => rfl)) (x_cons (x_raise B (x := "CycleError") (by rfl) exc552 PySem.F.excBase_ValueError hA.handled (r_fn B (by rfl) (by rfl) (by rfl)) (a_cons (r_joined) (a_cons (r_loc (by exact ⟨rfl, rfl, rfl⟩)) (a_nil) (by rfl)) (by rfl)) (by rfl) (by rfl))
      (x_nil)) (x_nil))
      (x_nil))))

end Mine
end

noncomputable section
open PySem PySem.W PyProof.Rows
set_option maxRecDepth 100000
set_option maxHeartbeats 2000000
namespace Mine
theorem ok2_ts_get_ready {X : Cx} (B : Base X (K02 X.w.params))  :
    SF X 99 1 (posW 1 (w_ts_get_ready X)) := by
  have C := B.cok
  refine sf_pos (nm := ["self", "result", "n2i", "node"]) (ps := ["self"]) (d := 0) (B.def (a := 99) rfl rfl rfl rfl rfl) (by decide) (by decide) (by rfl) (by rfl) ?k (by intro vs h; exact (match vs, h with | [v0], _ => rfl)) ?b
  case k =>
    intro L x hx
    simp only [List.mem_cons, List.not_mem_nil, or_false] at hx
    rcases hx with rfl <;> first | exact .inl rfl | exact .inr ⟨rfl, rfl⟩
  case b =>
    intro L fr A hA hF
    unfold w_ts_get_ready
    exact m_cons (m_if (q_cmp C hA (r_getOwn B own_rn2 (r_loc (by exact ⟨rfl, rfl, rfl⟩)) (by rfl)) (r_none) (by rfl)) (m_never) (m_nil))
      (m_cons (m_assign (by first | exact st_local rfl rfl | exact st_cell rfl rfl rfl | exact ⟨rfl, .inl rfl⟩) (r_tuplec (r_blt B (by rfl) (by rfl) (by decide) (by rfl) (by rfl)) (r_getOwn B own_rn2 (r_loc (by exact ⟨rfl, rfl, rfl⟩)) (by rfl)) (by rfl)) (by rfl))
      (m_cons (m_assign (by first | exact st_local rfl rfl | exact st_cell rfl rfl rfl | exact ⟨rfl, .inl rfl⟩) (r_getOwn B own_n2i2 (r_loc (by exact ⟨rfl, rfl, rfl⟩)) (by rfl)) (by rfl))
      (m_cons (m_for (i_tup hA.handled (r_loc (by exact ⟨rfl, rfl, rfl⟩))) (t_name (by first | exact st_local rfl rfl | exact st_cell rfl rfl rfl | exact ⟨rfl, .inl rfl⟩)) (m_cons (m_assign1 (r_gint B (by rfl) (by rfl) (by rfl)) (t_slot B slot_npred2 (r_sub (r_loc (by exact ⟨rfl, rfl, rfl⟩)) (r_loc (by exact ⟨rfl, rfl, rfl⟩)) (by exact fun _ _ => rfl))) (by rfl) (by rfl) (by rfl))
      (m_nil)) (by exact fun _ => rfl))
      (m_cons (m_expr (r_clear (r_getOwn B own_rn2 (r_loc (by exact ⟨rfl, rfl, rfl⟩)) (by rfl)) (by exact ⟨rfl, rfl, rfl, rfl⟩)) (by rfl) (by rfl))
      (m_cons (m_augown B own_np2 (r_loc (by exact ⟨rfl, rfl, rfl⟩)) (r_len (r_blt B (by rfl) (by rfl) (by decide) (by rfl) (by rfl)) (r_loc (by exact ⟨rfl, rfl, rfl⟩)) (by rfl)))
      (m_cons (m_ret (r_loc (by exact ⟨rfl, rfl, rfl⟩)))
      (m_nil)))))))

theorem ok2_ts_is_active {X : Cx} (B : Base X (K02 X.w.params))  :
    SF X 106 1 (posW 1 (w_ts_is_active X)) := by
  have C := B.cok
  refine sf_pos (nm := ["self"]) (ps := ["self"]) (d := 0) (B.def (a := 106) rfl rfl rfl rfl rfl) (by decide) (by decide) (by rfl) (by rfl) ?k (by intro vs h; exact (match vs, h with | [v0], _ => rfl)) ?b
  case k =>
    intro L x hx
    simp only [List.mem_cons, List.not_mem_nil, or_false] at hx
    rcases hx with rfl <;> first | exact .inl rfl | exact .inr ⟨rfl, rfl⟩
  case b =>
    intro L fr A hA hF
    unfold w_ts_is_active
    exact m_cons (m_if (q_cmp C hA (r_getOwn B own_rn2 (r_loc (by exact ⟨rfl, rfl, rfl⟩)) (by rfl)) (r_none) (by rfl)) (m_never) (m_nil))
      (m_cons (m_ret (r_or (r_cmp C hA (r_getOwn B own_nf2 (r_loc (by exact ⟨rfl, rfl, rfl⟩)) (by rfl)) (r_getOwn B own_np2 (r_loc (by exact ⟨rfl, rfl, rfl⟩)) (by rfl)) (by rfl)) (r_boolc (r_blt B (by rfl) (by rfl) (by decide) (by rfl) (by rfl)) (r_getOwn B own_rn2 (r_loc (by exact ⟨rfl, rfl, rfl⟩)) (by rfl)) (by rfl))))
      (m_nil))

theorem ok2_ts_done {X : Cx} (B : Base X (K02 X.w.params))  :
    SF X 120 1 (varW 1 (w_ts_done X)) := by
  have C := B.cok
  refine sf_var (nm := ["self", "nodes", "n2i", "node", "nodeinfo", "stat", "successor", "successor_info"]) (ps := ["self", "nodes"]) (d := 0) (B.def (a := 120) rfl rfl rfl rfl rfl) (by decide) (by decide) (by rfl) (by rfl) ?k (by intro vs ws h; exact (match vs, h, ws with | [v0], _, [] => rfl | [v0], _, _ :: _ => rfl)) ?b
  case k =>
    intro L x hx
    simp only [List.mem_cons, List.not_mem_nil, or_false] at hx
    rcases hx with rfl | rfl <;> first | exact .inl rfl | exact .inr ⟨rfl, rfl⟩
  case b =>
    intro L fr A hA hF
    unfold w_ts_done
    exact m_cons (m_if (q_cmp C hA (r_getOwn B own_rn2 (r_loc (by exact ⟨rfl, rfl, rfl⟩)) (by rfl)) (r_none) (by rfl)) (m_never) (m_nil))
      (m_cons (m_assign (by first | exact st_local rfl rfl | exact st_cell rfl rfl rfl | exact ⟨rfl, .inl rfl⟩) (r_getOwn B own_n2i2 (r_loc (by exact ⟨rfl, rfl, rfl⟩)) (by rfl)) (by rfl))
      (m_cons (m_for (i_tup hA.handled (r_loc (by exact ⟨rfl, rfl, rfl⟩))) (t_name (by first | exact st_local rfl rfl | exact st_cell rfl rfl rfl | exact ⟨rfl, .inl rfl⟩)) (m_cons (m_if (q_cmp C hA (r_wal (r_dget C (r_loc (by exact ⟨rfl, rfl, rfl⟩)) (r_loc (by exact ⟨rfl, rfl, rfl⟩)) (by exact ⟨rfl, rfl, rfl, rfl⟩)) (t_name (by first | exact st_local rfl rfl | exact st_cell rfl rfl rfl | exact ⟨rfl, .inl rfl⟩))) (r_none) (by rfl)) (m_never) (m_nil))
      (m_cons (m_assign (by first | exact st_local rfl rfl | exact st_cell rfl rfl rfl | exact ⟨rfl, .inl rfl⟩) (r_getSlot B slot_npred2 (r_loc (by exact ⟨rfl, rfl, rfl⟩)) (by rfl)) (by rfl))
      (m_cons (m_if (q_cmp C hA (r_loc (by exact ⟨rfl, rfl, rfl⟩)) (r_gint B (by rfl) (by rfl) (by rfl)) (by rfl)) (m_never) (m_nil))
      (m_cons (m_assign1 (r_gint B (by rfl) (by rfl) (by rfl)) (t_slot B slot_npred2 (r_loc (by exact ⟨rfl, rfl, rfl⟩))) (by rfl) (by rfl) (by rfl))
      (m_cons (m_for (i_list hA.handled (r_getSlot B slot_succ2 (r_loc (by exact ⟨rfl, rfl, rfl⟩)) (by rfl))) (t_name (by first | exact st_local rfl rfl | exact st_cell rfl rfl rfl | exact ⟨rfl, .inl rfl⟩)) (m_cons (m_assign (by first | exact st_local rfl rfl | exact st_cell rfl rfl rfl | exact ⟨rfl, .inl rfl⟩) (r_sub (r_loc (by exact ⟨rfl, rfl, rfl⟩)) (r_loc (by exact ⟨rfl, rfl, rfl⟩)) (by exact fun _ _ => rfl)) (by rfl))
      (m_cons (m_augslot B slot_npred2 (r_loc (by exact ⟨rfl, rfl, rfl⟩)) (r_int))
      (m_cons (m_if (q_cmp C hA (r_getSlot B slot_npred2 (r_loc (by exact ⟨rfl, rfl, rfl⟩)) (by rfl)) (r_int) (by rfl)) (m_cons (m_expr (r_append (r_getOwn B own_rn2 (r_loc (by exact ⟨rfl, rfl, rfl⟩)) (by rfl)) (r_loc (by exact ⟨rfl, rfl, rfl⟩)) (by exact ⟨rfl, rfl, rfl, rfl⟩)) (by rfl) (by rfl))
      (m_nil)) (m_nil))
      (m_nil)))) (by exact fun _ => rfl))
      (m_cons (m_augown B own_nf2 (r_loc (by exact ⟨rfl, rfl, rfl⟩)) (r_int))
      (m_nil))))))) (by exact fun _ => rfl))
      (m_nil)))

theorem ok2_reduce {X : Cx} (B : Base X (K02 X.w.params)) {dv : Nat} (hdv : dv ≤ 1)  :
    SF X 150 2 (posW 3 (w_reduce X dv)) := by
  have C := B.cok
  refine sf_dflt B (nm := ["function", "sequence", "initial", "it", "value", "element"]) (ps := ["function", "sequence", "initial"]) (d := 1) (B.def (a := 150) rfl rfl rfl rfl rfl) (by decide) (by decide) (by rfl) (by rfl) ?k rfl rfl rfl (by intro vs h; exact (match vs, h with | [v0, v1, v2], _ => ⟨_, rfl, rfl⟩)) ?b
  case k =>
    intro L x hx
    simp only [List.mem_cons, List.not_mem_nil, or_false] at hx
    rcases hx with rfl | rfl | rfl <;> first | exact .inl rfl | exact .inr ⟨rfl, rfl⟩
  case b =>
    intro L fr A hA hF
    unfold w_reduce
    exact m_cons (m_assign (by first | exact st_local rfl rfl | exact st_cell rfl rfl rfl | exact ⟨rfl, .inl rfl⟩) (r_iter (r_blt B (by rfl) (by rfl) (by decide) (by rfl) (by rfl)) (r_loc (by exact ⟨rfl, rfl, rfl⟩)) (by rfl)) (by rfl))
      (m_cons (m_if (q_cmp C hA (r_loc (by exact ⟨rfl, rfl, rfl⟩)) (r_fn B (by rfl) (by rfl) (by rfl)) (by rfl)) (m_never) (m_cons (m_assign (by first | exact st_local rfl rfl | exact st_cell rfl rfl rfl | exact ⟨rfl, .inl rfl⟩) (r_loc (by exact ⟨rfl, rfl, rfl⟩)) (by rfl))
      (m_nil)))
      (m_cons (m_for (i_liter hA.handled (r_loc (by exact ⟨rfl, rfl, rfl⟩))) (t_name (by first | exact st_local rfl rfl | exact st_cell rfl rfl rfl | exact ⟨rfl, .inl rfl⟩)) (m_cons (m_assign (by first | exact st_local rfl rfl | exact st_cell rfl rfl rfl | exact ⟨rfl, .inl rfl⟩) (r_callv hA hF hdv (r_loc (by exact ⟨rfl, rfl, rfl⟩)) (a_cons (r_loc (by exact ⟨rfl, rfl, rfl⟩)) (a_cons (r_loc (by exact ⟨rfl, rfl, rfl⟩)) (a_nil) (by rfl)) (by rfl)) (by rfl)) (by rfl))
      (m_nil)) (by exact fun _ => rfl))
      (m_cons (m_ret (r_loc (by exact ⟨rfl, rfl, rfl⟩)))
      (m_nil))))

end Mine
end

noncomputable section
open PySem PySem.W PyProof.Rows
set_option maxRecDepth 100000
set_option maxHeartbeats 2000000
namespace Mine
theorem ok2__law_wheels {X : Cx} (B : Base X (K02 X.w.params))  :
    SF X 183 1 (posW 2 (w__law_wheels X)) := by
  have C := B.cok
  refine sf_pos (nm := ["numbers", "hidden", "wheels", "place", "number", "behind", "sent", "wheel", "turn"]) (ps := ["numbers", "hidden"]) (d := 0) (B.def (a := 183) rfl rfl rfl rfl rfl) (by decide) (by decide) (by rfl) (by rfl) ?k (by intro vs h; exact (match vs, h with | [v0, v1], _ => rfl)) ?b
  case k =>
    intro L x hx
    simp only [List.mem_cons, List.not_mem_nil, or_false] at hx
    rcases hx with rfl | rfl <;> first | exact .inl rfl | exact .inr ⟨rfl, rfl⟩
  case b =>
    intro L fr A hA hF
    unfold w__law_wheels
    refine m_cons ?a ?b
    case a =>
      refine m_assign ?s ?v ?w
      case s => first | exact st_local rfl rfl | exact st_cell rfl rfl rfl
      case v =>
        refine r_dict1 r_int ?q
        exact r_list (a_cons (r_list (a_nil)) (a_cons (r_list (a_nil)) (a_cons (r_list (a_nil)) (a_nil) (by rfl)) (by rfl)) (by rfl))
      case w => rfl
    case b =>
     exact (m_cons (m_for (i_range hA.handled (by exact fun _ _ => rfl) (r_blt B (by rfl) (by rfl) (by decide) (by rfl) (by rfl)) (r_int) (by rfl)) (t_name (by first | exact st_local rfl rfl | exact st_cell rfl rfl rfl | exact ⟨rfl, .inl rfl⟩)) (m_cons (m_assign (by first | exact st_local rfl rfl | exact st_cell rfl rfl rfl | exact ⟨rfl, .inl rfl⟩) (r_sub (r_loc (by exact ⟨rfl, rfl, rfl⟩)) (r_loc (by exact ⟨rfl, rfl, rfl⟩)) (by exact fun _ _ => rfl)) (by rfl))
      (m_cons (m_assign (by first | exact st_local rfl rfl | exact st_cell rfl rfl rfl | exact ⟨rfl, .inl rfl⟩) (r_slice (r_loc (by exact ⟨rfl, rfl, rfl⟩)) (p_some (r_op (r_loc (by exact ⟨rfl, rfl, rfl⟩)) (r_int))) (p_none) (p_none) (by exact fun _ _ => ⟨_, rfl⟩)) (by rfl))
      (m_cons (m_comp (by first | exact st_local rfl rfl | exact st_cell rfl rfl rfl | exact ⟨rfl, .inl rfl⟩) (by rfl) (by exact fun _ => rfl) (compOk (nm := ["size", "behind", "number"]) (mp := [none, some 5, some 4]) rfl rfl (by rfl) (by repeat (first | exact trivial | refine ⟨rfl, ?_⟩)) (by decide) (by rfl)) (i_tup hA.handled (r_tuple (a_cons (r_int) (a_cons (r_int) (a_cons (r_int) (a_nil) (by rfl)) (by rfl)) (by rfl)))) (fun _ => t_name (by first | exact st_local rfl rfl | exact st_cell rfl rfl rfl | exact ⟨rfl, .inl rfl⟩)) (fun _ => c_nil) (fun _ => r_sub (r_loc (by exact ⟨rfl, rfl, rfl⟩)) (r_op (r_op (r_loc (by exact ⟨rfl, rfl, rfl⟩)) (r_loc (by exact ⟨rfl, rfl, rfl⟩))) (r_len (r_blt B (by rfl) (by rfl) (by decide) (by rfl) (by rfl)) (r_loc (by exact ⟨rfl, rfl, rfl⟩)) (by rfl))) (by exact fun _ _ => rfl)))
      (m_cons (m_assign (by first | exact st_local rfl rfl | exact st_cell rfl rfl rfl | exact ⟨rfl, .inl rfl⟩) (r_list (a_cons (r_slice (r_loc (by exact ⟨rfl, rfl, rfl⟩)) (p_none) (p_some (r_int)) (p_none) (by exact fun _ _ => ⟨_, rfl⟩)) (a_cons (r_list (a_nil)) (a_cons (r_slice (r_loc (by exact ⟨rfl, rfl, rfl⟩)) (p_some (r_int)) (p_none) (p_none) (by exact fun _ _ => ⟨_, rfl⟩)) (a_nil) (by rfl)) (by rfl)) (by rfl))) (by rfl))
      (m_cons (m_assign (by first | exact st_local rfl rfl | exact st_cell rfl rfl rfl | exact ⟨rfl, .inl rfl⟩) (r_op (r_op (r_loc (by exact ⟨rfl, rfl, rfl⟩)) (r_int)) (r_int)) (by rfl))
      (m_cons (m_assign1 (r_op (r_slice (r_loc (by exact ⟨rfl, rfl, rfl⟩)) (p_some (r_loc (by exact ⟨rfl, rfl, rfl⟩))) (p_none) (p_none) (by exact fun _ _ => ⟨_, rfl⟩)) (r_slice (r_loc (by exact ⟨rfl, rfl, rfl⟩)) (p_none) (p_some (r_loc (by exact ⟨rfl, rfl, rfl⟩))) (p_none) (by exact fun _ _ => ⟨_, rfl⟩))) (t_sub (r_loc (by exact ⟨rfl, rfl, rfl⟩)) (r_sub (r_loc (by exact ⟨rfl, rfl, rfl⟩)) (r_loc (by exact ⟨rfl, rfl, rfl⟩)) (by exact fun _ _ => rfl))) (by rfl) (by rfl) (by rfl))
      (m_nil))))))) (by exact fun _ => rfl))
      (m_cons (m_ret (r_loc (by exact ⟨rfl, rfl, rfl⟩)))
      (m_nil)))
end Mine
end

noncomputable section
open PySem PySem.W PyProof.Rows
set_option maxRecDepth 100000
set_option maxHeartbeats 2000000
namespace Mine
theorem ok2__law_off_heap {X : Cx} (B : Base X (K02 X.w.params)) {Wheappush : WF} {Wheappop : WF} (hheappush : SF X 157 2 Wheappush) (hheappop : SF X 164 3 Wheappop) :
    SF X 190 4 (posW 3 (w__law_off_heap X Wheappush Wheappop)) := by
  have C := B.cok
  refine sf_pos (nm := ["wheels", "letters", "factor", "served", "heap", "number", "place", "count", "rank", "other"]) (ps := ["wheels", "letters", "factor"]) (d := 3) (B.def (a := 190) rfl rfl rfl rfl rfl) (by decide) (by decide) (by rfl) (by rfl) ?k (by intro vs h; exact (match vs, h with | [v0, v1, v2], _ => rfl)) ?b
  case k =>
    intro L x hx
    simp only [List.mem_cons, List.not_mem_nil, or_false] at hx
    rcases hx with rfl | rfl | rfl <;> first | exact .inl rfl | exact .inr ⟨rfl, rfl⟩
  case b =>
    intro L fr A hA hF
    unfold w__law_off_heap
    exact m_cons (m_swap2 hA.handled (r_tuple (a_cons (r_op (r_list (a_cons (r_int) (a_nil) (by rfl))) (r_int)) (a_cons (r_list (a_nil)) (a_nil) (by rfl)) (by rfl))) (by first | exact st_local rfl rfl | exact st_cell rfl rfl rfl | exact ⟨rfl, .inl rfl⟩) (by first | exact st_local rfl rfl | exact st_cell rfl rfl rfl | exact ⟨rfl, .inl rfl⟩) (by rfl) (by rfl))
      (m_cons (m_for (i_enum hA.handled (r_blt B (by rfl) (by rfl) (by decide) (by rfl) (by rfl)) (r_loc (by exact ⟨rfl, rfl, rfl⟩)) (by rfl)) (t_tup hA.handled (by rfl) (ts_cons (t_name (by first | exact st_local rfl rfl | exact st_cell rfl rfl rfl | exact ⟨rfl, .inl rfl⟩)) (ts_cons (t_name (by first | exact st_local rfl rfl | exact st_cell rfl rfl rfl | exact ⟨rfl, .inl rfl⟩)) (ts_nil) (by rfl)) (by rfl)) (by rfl) (by rfl)) (m_cons (m_expr (r_call hA hF (by decide) hheappush (fnx B rfl) (r_fn B (by rfl) (by rfl) (by rfl)) (a_cons (r_loc (by exact ⟨rfl, rfl, rfl⟩)) (a_cons (r_tuple (a_cons (r_op (r_op (r_loc (by exact ⟨rfl, rfl, rfl⟩)) (r_loc (by exact ⟨rfl, rfl, rfl⟩))) (r_int)) (a_cons (r_loc (by exact ⟨rfl, rfl, rfl⟩)) (a_cons (r_loc (by exact ⟨rfl, rfl, rfl⟩)) (a_nil) (by rfl)) (by rfl)) (by rfl))) (a_nil) (by rfl)) (by rfl)) (by rfl)) (by rfl) (by rfl))
      (m_nil)) (by exact fun _ => rfl))
      (m_cons (m_assign (by first | exact st_local rfl rfl | exact st_cell rfl rfl rfl | exact ⟨rfl, .inl rfl⟩) (r_len (r_blt B (by rfl) (by rfl) (by decide) (by rfl) (by rfl)) (r_loc (by exact ⟨rfl, rfl, rfl⟩)) (by rfl)) (by rfl))
      (m_cons (m_while (q_val (r_loc (by exact ⟨rfl, rfl, rfl⟩)) (by exact fun _ => rfl)) (m_cons (m_assign1 (r_call hA hF (by decide) hheappop (fnx B rfl) (r_fn B (by rfl) (by rfl) (by rfl)) (a_cons (r_loc (by exact ⟨rfl, rfl, rfl⟩)) (a_nil) (by rfl)) (by rfl)) (t_tup hA.handled (by rfl) (ts_cons (t_name (by first | exact st_local rfl rfl | exact st_cell rfl rfl rfl | exact ⟨rfl, .inl rfl⟩)) (ts_cons (t_name (by first | exact st_local rfl rfl | exact st_cell rfl rfl rfl | exact ⟨rfl, .inl rfl⟩)) (ts_cons (t_name (by first | exact st_local rfl rfl | exact st_cell rfl rfl rfl | exact ⟨rfl, .inl rfl⟩)) (ts_nil) (by rfl)) (by rfl)) (by rfl)) (by rfl) (by rfl)) (by rfl) (by rfl) (by rfl))
      (m_cons (m_for (i_list hA.handled (r_sub (r_sub (r_loc (by exact ⟨rfl, rfl, rfl⟩)) (r_loc (by exact ⟨rfl, rfl, rfl⟩)) (by exact fun _ _ => rfl)) (r_op (r_sub (r_loc (by exact ⟨rfl, rfl, rfl⟩)) (r_loc (by exact ⟨rfl, rfl, rfl⟩)) (by exact fun _ _ => rfl)) (r_int)) (by exact fun _ _ => rfl))) (t_name (by first | exact st_local rfl rfl | exact st_cell rfl rfl rfl | exact ⟨rfl, .inl rfl⟩)) (m_cons (m_expr (r_call hA hF (by decide) hheappush (fnx B rfl) (r_fn B (by rfl) (by rfl) (by rfl)) (a_cons (r_loc (by exact ⟨rfl, rfl, rfl⟩)) (a_cons (r_tuple (a_cons (r_op (r_op (r_loc (by exact ⟨rfl, rfl, rfl⟩)) (r_loc (by exact ⟨rfl, rfl, rfl⟩))) (r_int)) (a_cons (r_loc (by exact ⟨rfl, rfl, rfl⟩)) (a_cons (r_loc (by exact ⟨rfl, rfl, rfl⟩)) (a_nil) (by rfl)) (by rfl)) (by rfl))) (a_nil) (by rfl)) (by rfl)) (by rfl)) (by rfl) (by rfl))
      (m_cons (m_aug (by exact ⟨rfl, rfl, rfl⟩) (by first | exact st_local rfl rfl | exact st_cell rfl rfl rfl | exact ⟨rfl, .inl rfl⟩) (r_int))
      (m_nil))) (by exact fun _ => rfl))
      (m_cons (m_augsub (r_loc (by exact ⟨rfl, rfl, rfl⟩)) (r_loc (by exact ⟨rfl, rfl, rfl⟩)) (r_int) (by exact fun _ _ _ => rfl))
      (m_nil)))))
      (m_cons (m_ret (r_loc (by exact ⟨rfl, rfl, rfl⟩)))
      (m_nil)))))

end Mine
end

noncomputable section
open PySem PySem.W PyProof.Rows
set_option maxRecDepth 100000
set_option maxHeartbeats 2000000
namespace Mine
theorem ok2__law_place_by_place {X : Cx} (B : Base X (K02 X.w.params)) {Wts_is_active : WF} {Wts_get_ready : WF} {Wts_done : WF} {Wts_prepare : WF} {Wts_add : WF} {Wts_init : WF} (hts_is_active : SF X 106 1 Wts_is_active) (hts_get_ready : SF X 99 1 Wts_get_ready) (hts_done : SF X 120 1 Wts_done) (hts_prepare : SF X 92 2 Wts_prepare) (hts_add : SF X 87 4 Wts_add) (hts_init : SF X 73 5 Wts_init) :
    SF X 202 7 (posW 2 (w__law_place_by_place X Wts_is_active Wts_get_ready Wts_done Wts_prepare Wts_add Wts_init)) := by
  have C := B.cok
  refine sf_pos (nm := ["wheels", "letters", "sorter", "place", "cog", "other", "served", "waiting"]) (ps := ["wheels", "letters"]) (d := 6) (B.def (a := 202) rfl rfl rfl rfl rfl) (by decide) (by decide) (by rfl) (by rfl) ?k (by intro vs h; exact (match vs, h with | [v0, v1], _ => rfl)) ?b
  case k =>
    intro L x hx
    simp only [List.mem_cons, List.not_mem_nil, or_false] at hx
    rcases hx with rfl | rfl <;> first | exact .inl rfl | exact .inr ⟨rfl, rfl⟩
  case b =>
    intro L fr A hA hF
    unfold w__law_place_by_place
    exact m_cons (m_assign (by first | exact st_local rfl rfl | exact st_cell rfl rfl rfl | exact ⟨rfl, .inl rfl⟩) (r_new0 B makes1372 hA hF (by decide) hts_init (r_fn B (by rfl) (by rfl) (by rfl))) (by rfl))
      (m_cons (m_for (i_range hA.handled (by exact fun _ _ => rfl) (r_blt B (by rfl) (by rfl) (by decide) (by rfl) (by rfl)) (r_int) (by rfl)) (t_name (by first | exact st_local rfl rfl | exact st_cell rfl rfl rfl | exact ⟨rfl, .inl rfl⟩)) (m_cons (m_for (i_list hA.handled (r_sub (r_loc (by exact ⟨rfl, rfl, rfl⟩)) (r_loc (by exact ⟨rfl, rfl, rfl⟩)) (by exact fun _ _ => rfl))) (t_name (by first | exact st_local rfl rfl | exact st_cell rfl rfl rfl | exact ⟨rfl, .inl rfl⟩)) (m_cons (m_for (i_list hA.handled (r_loc (by exact ⟨rfl, rfl, rfl⟩))) (t_name (by first | exact st_local rfl rfl | exact st_cell rfl rfl rfl | exact ⟨rfl, .inl rfl⟩)) (m_cons (m_expr (r_meth B meth_add2 hA hF (by decide) hts_add (r_loc (by exact ⟨rfl, rfl, rfl⟩)) (a_cons (r_loc (by exact ⟨rfl, rfl, rfl⟩)) (a_cons (r_loc (by exact ⟨rfl, rfl, rfl⟩)) (a_nil) (by rfl)) (by rfl)) (by rfl) (by rfl) (by rfl)) (by rfl) (by rfl))
      (m_nil)) (by exact fun _ => rfl))
      (m_nil)) (by exact fun _ => rfl))
      (m_cons (m_expr (r_meth B meth_add2 hA hF (by decide) hts_add (r_loc (by exact ⟨rfl, rfl, rfl⟩)) (a_cons (r_loc (by exact ⟨rfl, rfl, rfl⟩)) (a_nil) (by rfl)) (by rfl) (by rfl) (by rfl)) (by rfl) (by rfl))
      (m_nil))) (by exact fun _ => rfl))
      (m_cons (m_expr (r_meth0 B meth_prepare2 hA hF (by decide) hts_prepare (r_loc (by exact ⟨rfl, rfl, rfl⟩)) (by rfl)) (by rfl) (by rfl))
      (m_cons (m_swap2 hA.handled (r_tuple (a_cons (r_op (r_list (a_cons (r_int) (a_nil) (by rfl))) (r_int)) (a_cons (r_comp (by exact fun _ => rfl) (compOk (nm := ["place", "letters"]) (mp := [none, some 1]) rfl rfl (by rfl) (by repeat (first | exact trivial | refine ⟨rfl, ?_⟩)) (by decide) (by rfl)) (i_range hA.handled (by exact fun _ _ => rfl) (r_blt B (by rfl) (by rfl) (by decide) (by rfl) (by rfl)) (r_int) (by rfl)) (fun _ => t_name (by first | exact st_local rfl rfl | exact st_cell rfl rfl rfl | exact ⟨rfl, .inl rfl⟩)) (fun _ => c_nil) (fun _ => r_count (r_loc (by exact ⟨rfl, rfl, rfl⟩)) (r_loc (by exact ⟨rfl, rfl, rfl⟩)) (by exact ⟨rfl, rfl, rfl, rfl⟩))) (a_nil) (by rfl)) (by rfl))) (by first | exact st_local rfl rfl | exact st_cell rfl rfl rfl | exact ⟨rfl, .inl rfl⟩) (by first | exact st_local rfl rfl | exact st_cell rfl rfl rfl | exact ⟨rfl, .inl rfl⟩) (by rfl) (by rfl))
      (m_cons (m_while (q_val (r_meth0 B meth_active2 hA hF (by decide) hts_is_active (r_loc (by exact ⟨rfl, rfl, rfl⟩)) (by rfl)) (by exact fun _ => rfl)) (m_cons (m_for (i_tup hA.handled (r_meth0 B meth_ready2 hA hF (by decide) hts_get_ready (r_loc (by exact ⟨rfl, rfl, rfl⟩)) (by rfl))) (t_name (by first | exact st_local rfl rfl | exact st_cell rfl rfl rfl | exact ⟨rfl, .inl rfl⟩)) (m_cons (m_while (q_cmp C hA (r_sub (r_loc (by exact ⟨rfl, rfl, rfl⟩)) (r_loc (by exact ⟨rfl, rfl, rfl⟩)) (by exact fun _ _ => rfl)) (r_int) (by rfl)) (m_cons (m_for (i_list hA.handled (r_sub (r_sub (r_loc (by exact ⟨rfl, rfl, rfl⟩)) (r_loc (by exact ⟨rfl, rfl, rfl⟩)) (by exact fun _ _ => rfl)) (r_op (r_sub (r_loc (by exact ⟨rfl, rfl, rfl⟩)) (r_loc (by exact ⟨rfl, rfl, rfl⟩)) (by exact fun _ _ => rfl)) (r_int)) (by exact fun _ _ => rfl))) (t_name (by first | exact st_local rfl rfl | exact st_cell rfl rfl rfl | exact ⟨rfl, .inl rfl⟩)) (m_cons (m_augsub (r_loc (by exact ⟨rfl, rfl, rfl⟩)) (r_loc (by exact ⟨rfl, rfl, rfl⟩)) (r_int) (by exact fun _ _ _ => rfl))
      (m_nil)) (by exact fun _ => rfl))
      (m_cons (m_augsub (r_loc (by exact ⟨rfl, rfl, rfl⟩)) (r_loc (by exact ⟨rfl, rfl, rfl⟩)) (r_int) (by exact fun _ _ _ => rfl))
      (m_cons (m_augsub (r_loc (by exact ⟨rfl, rfl, rfl⟩)) (r_loc (by exact ⟨rfl, rfl, rfl⟩)) (r_int) (by exact fun _ _ _ => rfl))
      (m_nil)))))
      (m_cons (m_expr (r_meth B meth_done2 hA hF (by decide) hts_done (r_loc (by exact ⟨rfl, rfl, rfl⟩)) (a_cons (r_loc (by exact ⟨rfl, rfl, rfl⟩)) (a_nil) (by rfl)) (by rfl) (by rfl) (by rfl)) (by rfl) (by rfl))
      (m_nil))) (by exact fun _ => rfl))
      (m_nil)))
      (m_cons (m_ret (r_tuple (a_cons (r_loc (by exact ⟨rfl, rfl, rfl⟩)) (a_cons (r_loc (by exact ⟨rfl, rfl, rfl⟩)) (a_nil) (by rfl)) (by rfl))))
      (m_nil))))))

end Mine
end

noncomputable section
open PySem PySem.W PyProof.Rows
set_option maxRecDepth 100000
set_option maxHeartbeats 2000000
namespace Mine
theorem ok2__law_due {X : Cx} (B : Base X (K02 X.w.params))  :
    SF X 207 1 (posW 2 (w2__law_due X)) := by
  have C := B.cok
  refine sf_pos (nm := ["wheels", "letters", "due", "step", "fresh", "place", "cog", "other"]) (ps := ["wheels", "letters"]) (d := 0) (B.def (a := 207) rfl rfl rfl rfl rfl) (by decide) (by decide) (by rfl) (by rfl) ?k (by intro vs h; exact (match vs, h with | [v0, v1], _ => rfl)) ?b
  case k =>
    intro L x hx
    simp only [List.mem_cons, List.not_mem_nil, or_false] at hx
    rcases hx with rfl | rfl <;> first | exact .inl rfl | exact .inr ⟨rfl, rfl⟩
  case b =>
    intro L fr A hA hF
    unfold w2__law_due
    exact m_cons (m_assign (by first | exact st_local rfl rfl | exact st_cell rfl rfl rfl | exact ⟨rfl, .inl rfl⟩) (r_op (r_list (a_cons (r_int) (a_nil) (by rfl))) (r_int)) (by rfl))
      (m_cons (m_for (i_range hA.handled (by exact fun _ _ => rfl) (r_blt B (by rfl) (by rfl) (by decide) (by rfl) (by rfl)) (r_int) (by rfl)) (t_name (by first | exact st_local rfl rfl | exact st_cell rfl rfl rfl | exact ⟨rfl, .inl rfl⟩)) (m_cons (m_comp (by first | exact st_local rfl rfl | exact st_cell rfl rfl rfl | exact ⟨rfl, .inl rfl⟩) (by rfl) (by exact fun _ => rfl) (compOk (nm := ["place", "letters"]) (mp := [none, some 1]) rfl rfl (by rfl) (by repeat (first | exact trivial | refine ⟨rfl, ?_⟩)) (by decide) (by rfl)) (i_range hA.handled (by exact fun _ _ => rfl) (r_blt B (by rfl) (by rfl) (by decide) (by rfl) (by rfl)) (r_int) (by rfl)) (fun _ => t_name (by first | exact st_local rfl rfl | exact st_cell rfl rfl rfl | exact ⟨rfl, .inl rfl⟩)) (fun _ => c_nil) (fun _ => r_count (r_loc (by exact ⟨rfl, rfl, rfl⟩)) (r_loc (by exact ⟨rfl, rfl, rfl⟩)) (by exact ⟨rfl, rfl, rfl, rfl⟩)))
      (m_cons (m_for (i_range hA.handled (by exact fun _ _ => rfl) (r_blt B (by rfl) (by rfl) (by decide) (by rfl) (by rfl)) (r_int) (by rfl)) (t_name (by first | exact st_local rfl rfl | exact st_cell rfl rfl rfl | exact ⟨rfl, .inl rfl⟩)) (m_cons (m_for (i_range hA.handled (by exact fun _ _ => rfl) (r_blt B (by rfl) (by rfl) (by decide) (by rfl) (by rfl)) (r_int) (by rfl)) (t_name (by first | exact st_local rfl rfl | exact st_cell rfl rfl rfl | exact ⟨rfl, .inl rfl⟩)) (m_cons (m_for (i_list hA.handled (r_sub (r_sub (r_loc (by exact ⟨rfl, rfl, rfl⟩)) (r_loc (by exact ⟨rfl, rfl, rfl⟩)) (by exact fun _ _ => rfl)) (r_loc (by exact ⟨rfl, rfl, rfl⟩)) (by exact fun _ _ => rfl))) (t_name (by first | exact st_local rfl rfl | exact st_cell rfl rfl rfl | exact ⟨rfl, .inl rfl⟩)) (m_cons (m_augsub (r_loc (by exact ⟨rfl, rfl, rfl⟩)) (r_loc (by exact ⟨rfl, rfl, rfl⟩)) (r_op (r_op (r_op (r_sub (r_loc (by exact ⟨rfl, rfl, rfl⟩)) (r_loc (by exact ⟨rfl, rfl, rfl⟩)) (by exact fun _ _ => rfl)) (r_int)) (r_loc (by exact ⟨rfl, rfl, rfl⟩))) (r_int)) (by exact fun _ _ _ => rfl))
      (m_nil)) (by exact fun _ => rfl))
      (m_nil)) (by exact fun _ => rfl))
      (m_nil)) (by exact fun _ => rfl))
      (m_cons (m_assign (by first | exact st_local rfl rfl | exact st_cell rfl rfl rfl | exact ⟨rfl, .inl rfl⟩) (r_loc (by exact ⟨rfl, rfl, rfl⟩)) (by rfl))
      (m_nil)))) (by exact fun _ => rfl))
      (m_cons (m_ret (r_loc (by exact ⟨rfl, rfl, rfl⟩)))
      (m_nil)))
end Mine
end

noncomputable section
open PySem PySem.W PyProof.Rows
set_option maxRecDepth 100000
set_option maxHeartbeats 8000000
namespace Mine
theorem IntsAre.mine2 {vs : List Value} {is : List Int} (h : IntsAre vs is) : Ints vs is := by
  induction h with
  | nil => exact .nil
  | cons n t _ ih => exact .cons ih
theorem off02 {X : Cx} (B : Base X (K02 X.w.params)) : SF X 190 4 offW := by
  have s1 : SF X 171 1 (dwnW 3) := (ok2__siftdown B).mono dwn_ok
  have s2 : SF X 178 2 (upW 3) := (ok2__siftup B s1).mono up_ok
  have s3 : SF X 157 2 (pushW 3) := (ok2_heappush B s1).mono push_ok
  have s4 : SF X 164 3 (popW 3) := (ok2_heappop B s2).mono pop_ok
  exact (ok2__law_off_heap B s3 s4).mono off_ok
theorem pbp02 {X : Cx} (B : Base X (K02 X.w.params)) : SF X 202 7 pbpW := by
  have s5 : SF X 36 1 niW := (ok2_ni_init B).mono ni_ok
  have s6 : SF X 80 3 getnW := (ok2_tsget_nodeinfo B s5).mono getn_ok
  have s7 : SF X 87 4 addW := (ok2_ts_add B s6).mono add_ok
  have s8 : SF X 73 5 tsi0W := (ok2_ts_init1 B s7).mono tsi0_ok
  have s9 : SF X 127 1 fcW := (ok2_tsfind_cycle B).mono fc_ok
  have s10 : SFE X (.ref 55) 92 2 prepW := (ok2_ts_prepare B s9).mono prep_ok
  have s11 : SF X 99 1 grW := (ok2_ts_get_ready B).mono gr_ok
  have s12 : SF X 106 1 actW := (ok2_ts_is_active B).mono act_ok
  have s13 : SF X 120 1 doneW := (ok2_ts_done B).mono done_ok
  exact (ok2__law_place_by_place B s12 s11 s13 s10.toSF s7 s8).mono pbp_ok
theorem red02 {X : Cx} (B : Base X (K02 X.w.params)) : SF X 150 2 (reduce2W X) := by
  have hm : ∃ ob, X.h₀.get? 142 = some ob ∧ ob.cls ≠ .type "tuple" := ⟨_, B.K 142 _ rfl, by simp⟩
  exact (ok2_reduce B (dv := 1) (Nat.le_refl _)).mono (reduce2_ok hm)
theorem all02 {X : Cx} (B : Base X (K02 X.w.params)) (BM : BMk X) : SF X 212 8 (law2W X) :=
  (ok2_law B ((ok2__law_wheels B).mono wheels_ok) ((ok2__law_due B).mono due2_ok) (ok2_end B BM) (fun _ S => red02 (B.on S)) (fun _ S => off02 (B.on S)) (fun _ S => pbp02 (B.on S))).mono (law2_ok B)
end Mine
theorem PySem.Challenge.cw_nq0195_02_holds : PySem.Challenge.rw_nq0195_02.Holds :=
  Mine.hd02 ⟨Mine.hook_k 64 Mine.hook02a Mine.hook02b, by
  intro w s₀ s₁ mg mb G Y fa o pm cd doc dV kV ho hd hcd hD hmg hg args vals as hpre hlay hrd hwl hlo
  have KX := km_in_of Y
  have KT := km_tabs_of Y
  clear ho hd hcd hD
  refine Ground.open G ?_
  intro T B D TE TW
  wrow_args hpre hlay hrd hwl hlo
  rename_i is _ _ _ _ _ _ _ la vs _ hL _ _ _ hI _ hc _
  have hT : TabsAt [(196, 192)] s₁.heap := List.forall_mem_cons.mpr ⟨⟨codeHd_of_K (c := 196) (P := 192) KX (by kernel_rfl), KT 192 (by simp)⟩, fun _ h => nomatch h⟩
  have hfa : fa = 212 := by
    have h1 : mg "law" = some (.ref 212) := mg_of KX T.g rfl
    have hn : Mine.d02.1.name = "law" := by kernel_rfl
    have h2 : mg "law" = some (.ref fa) := hn ▸ hmg
    rw [h1] at h2
    exact (Value.ref.inj (Option.some.inj h2)).symm
  subst hfa
  refine enter_call ?_
  refine kn_post hT (fun _ _ => rfl) ?_
  have T' := ghost_top hT T
  have hb : Mine.Base ⟨PySem.Challenge.rw_nq0195_02.row.prog, w, ghostOf s₁.heap [(196, 192)]⟩ (Mine.K02 w.params) := by
    refine ⟨ghost_K hT KX (by kernel_rfl), ⟨mg, T'.g⟩, ⟨mb, T'.b, T'.builtins⟩, T'.nolimit, ?_, ⟨_, _, mg, mb, topRead_of T'⟩⟩
    have := T.seer (by decide +kernel)
    obtain ⟨ms, h1, _⟩ := this.mods
    obtain ⟨o, _, _, e, _⟩ := ghost_ns hT h1
    exact ⟨o, e⟩
  have hm : Mine.BMk ⟨PySem.Challenge.rw_nq0195_02.row.prog, w, ghostOf s₁.heap [(196, 192)]⟩ := by
    obtain ⟨bm, ob, h⟩ := T'.bmain
    exact ⟨mg, bm, ob, T'.g, h⟩
  have g192 : (ghostOf s₁.heap [(196, 192)]).get? 192 = none := hideAll_none _ (by simp)
  refine Mine.all02 hb hm _ [] ⟨rfl, by decide, by decide⟩ ⟨[], rfl, trivial⟩ (fun b => if b = 192 then some (.raw (tabObj #[])) else none) _ ⟨fun b o e => of_hideAll _ e, fun b o e => if_neg (by rintro rfl; rw [g192] at e; cases e), fun b o e => ?_⟩ (fun b hb => by cases hb) [.con (.ref la)] _ (.one (.mkCon _ _)) (fun v hp' => v = .bool true ∧ ∃ ps, hp' 192 = some (.raw (tabObj ps))) ⟨_, is, rfl, .base (ghost_list hT hL) (Mine.IntsAre.mine2 hI), by omega, if_pos rfl, fun _ ps h => ⟨rfl, ps, h⟩⟩ _ ?_
  · split at e
    · rename_i q
      cases e
      subst q
      exact ⟨KT 192 (by simp), fun items n q => by cases q⟩
    · cases e
  · rintro v hp' rv s' H ev hv ⟨rfl, ps, hps⟩
    have := hv.unBool
    subst this
    obtain ⟨h', tk, rfl⟩ := ev.rest
    refine ⟨⟨.inl ⟨_, _, [], rfl, raisesW_false ?_, .bool true, ?_, unshared_nil⟩, fun b o e => H.base b o e, rfl, hg⟩, ⟨ps, (H.own _ _ hps).1⟩, trivial⟩
    · wrow_none_raised
    · wrow_post⟩
end
