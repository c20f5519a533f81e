import PyProof.Rows.All
import Wide.All
import OpenK.AllK
import Wide.FinOn
import Open.Tops
import PySem.Challenge.RW_ln0015_01
set_option Elab.async false
set_option linter.unusedVariables false
set_option linter.deprecated false

section
open PySem PySem.W PyProof.Rows
namespace Mine
set_option maxRecDepth 100000 in
set_option maxHeartbeats 8000000 in
open_shared sh for PySem.Challenge.pw_ln0015_01 leaving 38
end Mine
end

section
open PySem PySem.W PySem.Calls PyProof.Rows
namespace Mine
/-- the one frame that lies under the text's top -/
abbrev B0 : List Frame := [topFrame ⟨0, 0, 0, 0⟩]
abbrev seg (p : Program) (w : World) : Nat → Shared → Thread → Option (Flow × Shared × Code × Pos) := segRun treeTable p w 11 (some (.ref 6)) 1
theorem seg_mono {p : Program} {w : World} (k : Nat) : ∀ (n : Nat) (s : Shared) (t : Thread) (r), seg p w n s t = some r → seg p w (n + k) s t = some r
  | 0, _, _, _, h => by simp [seg, segRun] at h
  | n + 1, s, t, r, h => by
    rw [show n + 1 + k = n + k + 1 by omega]
    unfold seg segRun at h ⊢
    cases he : endAt 1 t with
    | some f => rw [he] at h; exact h
    | none =>
      rw [he] at h
      cases hk : stepOk 11 (some (.ref 6)) t with
      | false => rw [hk] at h; cases h
      | true =>
        rw [hk] at h
        cases hs : step (denote treeTable) p w s t with
        | halt o s' => rw [hs] at h; cases h
        | go s' t' => rw [hs] at h; exact seg_mono k n s' t' r h
/-- the tree's run above the one frame, within b steps -/
def Goes (p : Program) (w : World) (b : Nat) {α : Type} (t : Sem α) (s : Shared) (q : Pos) (a : α) (s' : Shared) (q' : Pos) : Prop :=
  ∀ (K : α → Sem Fin) (H : Value → Sem Fin) (gd : Bool → Bool) (lv : List Value → List Value) (c : Code) (r : Flow × Shared × Code × Pos) (N : Nat),
    seg p w N s' ⟨K a, c, q', B0⟩ = some r → seg p w (b + N) s ⟨t.wrap K H gd lv, c, q, B0⟩ = some r
section
variable {p : Program} {w : World} {α β : Type} {s s' s₁ s₂ : Shared} {q q' q₁ q₂ : Pos} {b b₁ b₂ : Nat}
theorem Goes.pure {a : α} : Goes p w 0 (pure a : Sem α) s q a s q := fun K H gd lv c r N h => by
  rw [Nat.zero_add]; exact h
theorem Goes.le {t : Sem α} {a : α} (h : Goes p w b₁ t s q a s' q') (hb : b₁ ≤ b₂) : Goes p w b₂ t s q a s' q' := fun K H gd lv c r N e => by
  have := seg_mono (b₂ - b₁) _ _ _ _ (h K H gd lv c r N e)
  rwa [show b₁ + N + (b₂ - b₁) = b₂ + N by omega] at this
theorem Goes.bind {m : Sem α} {f : α → Sem β} {a : α} {d : β} (h : Goes p w b₁ m s q a s₁ q₁) (k : Goes p w b₂ (f a) s₁ q₁ d s₂ q₂) : Goes p w (b₁ + b₂) (m >>= f) s q d s₂ q₂ := fun K H gd lv c r N e => by
  rw [Sem.bind_eq_wrap', Sem.wrap_wrap, Nat.add_assoc]
  exact h _ _ _ _ c r _ (k K H gd lv c r N e)
theorem Goes.keep {m : Sem α} {a : α} {vs : List Value} (h : Goes p w b m s q a s' q') : Goes p w b (m.keep vs) s q a s' q' := fun K H gd lv c r N e => by
  rw [Sem.keep_eq_wrap, Sem.wrap_wrap]
  exact h _ _ _ _ c r N e
theorem Goes.holding {m : Sem α} {a : α} {vs : List Value} (h : Goes p w b m s q a s' q') : Goes p w b (holding vs m) s q a s' q' := by
  unfold PySem.holding
  split
  · exact h
  · exact h.keep
theorem Goes.rule {tag : String} : Goes p w 1 (rule tag) s q () s q := fun K H gd lv c r N e => by
  rw [Nat.add_comm]; exact e
theorem Goes.standAt {pos : Pos} : Goes p w 1 (standAt pos) s q () s pos := fun K H gd lv c r N e => by
  rw [Nat.add_comm]; exact e
theorem Goes.point : Goes p w 1 point s q () s q := fun K H gd lv c r N e => by
  rw [Nat.add_comm]; exact e
theorem Goes.fresh : Goes p w 1 fresh s q s.toks { s with toks := s.toks + 1 } q := fun K H gd lv c r N e => by
  obtain ⟨heap, gens, drawn, toks, os⟩ := s
  rw [Nat.add_comm]; exact e
theorem Goes.ask : Goes p w 1 ask s q ⟨p, w.params⟩ s q := fun K H gd lv c r N e => by
  rw [Nat.add_comm]; exact e
theorem Goes.alloc {o : Obj} : Goes p w 1 (alloc o) s q s.heap.objs.size { s with heap := s.heap.push o } q := fun K H gd lv c r N e => by
  rw [Nat.add_comm]; exact e
theorem Goes.loadPart {a : Addr} {part : Option Value} {o : Obj} (ho : s.heap.get? a = some o) : Goes p w 1 (loadPart a part) s q o s q := fun K H gd lv c r N e => by
  obtain ⟨heap, gens, drawn, toks, os⟩ := s
  rw [Nat.add_comm]
  show (match step (denote treeTable) p w ⟨heap, gens, drawn, toks, os⟩ ⟨.load a part fun x => (Sem.pure x).wrap K H gd lv, c, q, B0⟩ with | .go s' t' => seg p w N s' t' | .halt _ _ => none) = some r
  have ho' : heap.get? a = some o := ho
  simp only [step, ho']
  exact e
theorem Goes.updatePart3 {part : Option Value} {f : Obj → Obj} {o : Obj} (ho : s.heap.get? 3 = some o) : Goes p w 1 (updatePart 3 part f) s q () { s with heap := s.heap.update 3 f } q := fun K H gd lv c r N e => by
  obtain ⟨heap, gens, drawn, toks, os⟩ := s
  rw [Nat.add_comm]
  show (match step (denote treeTable) p w ⟨heap, gens, drawn, toks, os⟩ ⟨.update 3 part f fun x => (Sem.pure x).wrap K H gd lv, c, q, B0⟩ with | .go s' t' => seg p w N s' t' | .halt _ _ => none) = some r
  have ho' : heap.get? 3 = some o := ho
  simp only [step, ho', Option.isSome_some, if_true]
  exact e
theorem Goes.mkInt {i : Int} : Goes p w 1 (mkInt i) s q (.int i s.toks) { s with toks := s.toks + 1 } q := Goes.bind (b₂ := 0) Goes.fresh Goes.pure
theorem Goes.mkText {x : Str} : Goes p w 1 (mkText x) s q (.str x s.toks) { s with toks := s.toks + 1 } q := Goes.bind (b₂ := 0) Goes.fresh Goes.pure
theorem Goes.of_eq {t t' : Sem α} {a : α} (e : t = t') (h : Goes p w b t' s q a s' q') : Goes p w b t s q a s' q' := e ▸ h
end
end Mine
end

section
open PySem PySem.W PySem.Calls PyProof.Rows
namespace Mine
def sC : Str := Str.ofString "HUFFMAN_COMPLETE"
def sE : Str := Str.ofString "HUFFMAN_EMIT_SYMBOL"
def sF : Str := Str.ofString "HUFFMAN_FAIL"
/-- the module's namespace as an object -/
abbrev nsObj (es : List DictEntry) (n : Nat) : Obj := ⟨.type "dict", none, .dict es.toArray n, #[]⟩
/-- the state between two statements of the tables -/
structure St where
  es : List DictEntry
  n : Nat
  mid : List Obj
  tok : Nat
def St.sh (pre : List Obj) (st : St) (os : OsState) : Shared := ⟨⟨(pre.set 3 (nsObj st.es st.n) ++ st.mid).toArray, {}⟩, #[], {}, st.tok, os⟩
def St.addr (st : St) : Nat := 47 + st.mid.length
theorem get3 {pre : List Obj} {st : St} {os : OsState} (hp : pre.length = 47) : (st.sh pre os).heap.get? 3 = some (nsObj st.es st.n) := by
  show (match ((pre.set 3 (nsObj st.es st.n) ++ st.mid).toArray)[3]? with | some ⟨_, _, .freed, _⟩ => none | o => o) = _
  have : ((pre.set 3 (nsObj st.es st.n) ++ st.mid).toArray)[3]? = some (nsObj st.es st.n) := by
    rw [List.getElem?_toArray, List.getElem?_append_left (by rw [List.length_set]; omega), List.getElem?_set_self (by omega)]
  rw [this]
theorem size_sh {pre : List Obj} {st : St} {os : OsState} (hp : pre.length = 47) : (st.sh pre os).heap.objs.size = st.addr := by
  show ((pre.set 3 (nsObj st.es st.n) ++ st.mid).toArray).size = _
  simp [St.addr, hp]
theorem push_sh {pre : List Obj} {st : St} {os : OsState} {o : Obj} : { st.sh pre os with heap := (st.sh pre os).heap.push o } = ({ st with mid := st.mid ++ [o] } : St).sh pre os := by
  simp [St.sh, Heap.push, List.append_assoc]
theorem tok_sh {pre : List Obj} {st : St} {os : OsState} : { st.sh pre os with toks := (st.sh pre os).toks + 1 } = ({ st with tok := st.tok + 1 } : St).sh pre os := rfl
theorem upd_sh {pre : List Obj} {st : St} {os : OsState} {f : Obj → Obj} {es' : List DictEntry} {n' : Nat} (hp : pre.length = 47) (hf : f (nsObj st.es st.n) = nsObj es' n') :
    { st.sh pre os with heap := (st.sh pre os).heap.update 3 f } = ({ st with es := es', n := n' } : St).sh pre os := by
  have e : ((pre.set 3 (nsObj st.es st.n) ++ st.mid).toArray.modify 3 f) = (pre.set 3 (nsObj es' n') ++ st.mid).toArray := by
    apply Array.ext'
    rw [Array.toList_modify]
    simp only
    apply List.ext_getElem?
    intro i
    rw [List.getElem?_modify]
    by_cases hi : i = 3
    · subst hi
      rw [List.getElem?_append_left (by rw [List.length_set]; omega), List.getElem?_set_self (by omega), List.getElem?_append_left (by rw [List.length_set]; omega), List.getElem?_set_self (by omega)]
      simp [hf]
    · have hi' : ¬ 3 = i := fun h => hi h.symm
      simp only [hi', if_false]
      by_cases h : i < 47
      · rw [List.getElem?_append_left (by rw [List.length_set]; omega), List.getElem?_set_ne (by omega), List.getElem?_append_left (by rw [List.length_set]; omega), List.getElem?_set_ne (by omega)]
        simp
      · rw [List.getElem?_append_right (by rw [List.length_set]; omega), List.getElem?_append_right (by rw [List.length_set]; omega)]
        simp
  simp only [St.sh, Heap.update, e]
/-- what the names of the flags hold, and that no key is an object -/
structure NsOk (es : List DictEntry) : Prop where
  c : ∃ x, es.find? (·.key.isStr sC) = some x ∧ x.val = .int 1 241
  e : ∃ x, es.find? (·.key.isStr sE) = some x ∧ x.val = .int 2 245
  f : ∃ x, es.find? (·.key.isStr sF) = some x ∧ x.val = .int 4 249
  noRef : es.any (·.refKey) = false
section
variable {p : Program} {w : World} {pre : List Obj} {st : St} {os : OsState} {q : Pos} {env : Env}
set_option maxRecDepth 100000 in
theorem binor {s : Shared} : Goes p w 4 (binaryOp .BitOr (.int 1 241) (.int 2 245)) s q (.int 3 s.toks) { s with toks := s.toks + 1 } q := fun K H gd lv c r N e => by
  obtain ⟨heap, gens, drawn, toks, os⟩ := s
  have h : seg p w (N + 4) ⟨heap, gens, drawn, toks, os⟩ ⟨(binaryOp .BitOr (.int 1 241) (.int 2 245)).wrap K H gd lv, c, q, B0⟩ = seg p w N ⟨heap, gens, drawn, toks + 1, os⟩ ⟨K (.int 3 toks), c, q, B0⟩ := by kernel_rfl
  rw [Nat.add_comm, h]
  exact e
theorem nsGet_goes {name : Str} {x : DictEntry} (hp : pre.length = 47) (hx : st.es.find? (·.key.isStr name) = some x) : Goes p w 1 (nsGet 3 name) (st.sh pre os) q (some x.val) (st.sh pre os) q := by
  refine Goes.bind (b₂ := 0) (Goes.loadPart (get3 hp)) ?_
  rw [nsLook_eq]
  unfold nsLookByArray
  simp only [List.find?_toArray, hx]
  exact Goes.pure
/-- the module's own block: names are looked up in its namespace -/
structure EnvOk (env : Env) : Prop where
  g : env.globals = 3
  l : env.locals = 3
  c : loadName env sC = loadGlobal env sC
  e : loadName env sE = loadGlobal env sE
  f : loadName env sF = loadGlobal env sF
theorem global_goes {name : Str} {x : DictEntry} (ok : EnvOk env) (hp : pre.length = 47) (hx : st.es.find? (·.key.isStr name) = some x) : Goes p w 1 (loadGlobal env name) (st.sh pre os) q x.val (st.sh pre os) q := by
  unfold loadGlobal
  rw [ok.g]
  exact Goes.bind (b₁ := 1) (b₂ := 0) (nsGet_goes hp hx) Goes.pure
theorem name_goes {name : Str} {x : DictEntry} {pos : Pos} (hd : (name == ("__debug__" : Str)) = false) (hl : loadName env name = loadGlobal env name) (ok : EnvOk env) (hp : pre.length = 47) (hx : st.es.find? (·.key.isStr name) = some x) :
    Goes p w 2 (eval (.Name name pos) env) (st.sh pre os) q x.val (st.sh pre os) pos := by
  rw [eval_Name _ _ _ hd, hl]
  exact Goes.bind (b₁ := 1) (b₂ := 1) Goes.standAt (global_goes ok hp hx)
theorem const_goes {i : Int} {k : Nat} {pos : Pos} : Goes p w 1 (eval (.Constant (.int i) k pos) env) (st.sh pre os) q (.int i st.tok) (({ st with tok := st.tok + 1 } : St).sh pre os) q := Goes.mkInt
/-- a flag's expression: its value, and the token that its name holds -/
def flagOf : Expr → Option (Int × Option Tok)
  | .Constant (.int i) _ _ => some (i, none)
  | .Name x _ => if x = sE then some (2, some 245) else if x = sF then some (4, some 249) else if x = sC then some (1, some 241) else none
  | .BinOp (.Name x _) .BitOr (.Name y _) _ => if x = sC ∧ y = sE then some (3, none) else none
  | _ => none
def tokOf (t : Option Tok) (n : Nat) : Tok := t.getD n
def nextOf (t : Option Tok) (n : Nat) : Nat := match t with | some _ => n | none => n + 1
theorem sC_debug : (sC == ("__debug__" : Str)) = false := by decide +kernel
theorem sE_debug : (sE == ("__debug__" : Str)) = false := by decide +kernel
theorem sF_debug : (sF == ("__debug__" : Str)) = false := by decide +kernel
theorem operate_ints {i j : Int} {t u : Tok} {m : Sem Value} {b : Nat} {s s' : Shared} {q' : Pos} {v : Value} (h : Goes p w b m s q v s' q') : Goes p w b (operate [.int i t, .int j u] m) s q v s' q' := by
  unfold operate
  exact Goes.bind (b₂ := 0) h.holding (Goes.bind (b₁ := 0) (b₂ := 0) Goes.pure Goes.pure)
theorem flag_goes {e : Expr} {i : Int} {t : Option Tok} (ok : EnvOk env) (no : NsOk st.es) (hp : pre.length = 47) (h : flagOf e = some (i, t)) :
    ∃ q', Goes p w 9 (eval e env) (st.sh pre os) q (.int i (tokOf t st.tok)) (({ st with tok := nextOf t st.tok } : St).sh pre os) q' := by
  obtain ⟨xc, hc, vc⟩ := no.c
  obtain ⟨xe, he, ve⟩ := no.e
  obtain ⟨xf, hf, vf⟩ := no.f
  unfold flagOf at h
  split at h
  · cases h
    exact ⟨_, const_goes.le (by omega)⟩
  · split at h
    · rename_i hx; cases h; subst hx
      exact ⟨_, (ve ▸ name_goes sE_debug ok.e ok hp he).le (by omega)⟩
    · split at h
      · rename_i hx; cases h; subst hx
        exact ⟨_, (vf ▸ name_goes sF_debug ok.f ok hp hf).le (by omega)⟩
      · split at h
        · rename_i hx; cases h; subst hx
          exact ⟨_, (vc ▸ name_goes sC_debug ok.c ok hp hc).le (by omega)⟩
        · cases h
  · rename_i pos
    split at h
    · rename_i hx; cases h
      obtain ⟨h1, h2⟩ := hx
      subst h1 h2
      refine ⟨pos, ?_⟩
      rw [eval_BinOp]
      refine Goes.bind (b₁ := 2) (b₂ := 7) (vc ▸ name_goes sC_debug ok.c ok hp hc) (Goes.bind (b₁ := 2) (b₂ := 5) (Goes.holding (ve ▸ name_goes sE_debug ok.e ok hp he)) (Goes.bind (b₁ := 1) (b₂ := 4) Goes.standAt ?_))
      exact operate_ints binor
    · cases h
  · cases h
end
section
variable {p : Program} {w : World} {pre : List Obj} {st : St} {os : OsState} {q : Pos} {env : Env}
/-- one tuple of a table: three ints, the middle one a flag -/
structure Tup where
  a : Int
  i : Int
  t : Option Tok
  c : Int
def tupOf : Expr → Option Tup
  | .Tuple [.Constant (.int a) _ _, e, .Constant (.int c) _ _] _ _ => (flagOf e).map fun x => ⟨a, x.1, x.2, c⟩
  | _ => none
def Tup.obj (x : Tup) (n : Nat) : Obj := ⟨.type "tuple", none, .seq #[.int x.a n, .int x.i (tokOf x.t (n + 1)), .int x.c (nextOf x.t (n + 1))] 0, #[]⟩
def Tup.next (x : Tup) (n : Nat) : Nat := nextOf x.t (n + 1) + 1
theorem notStar_flag {e : Expr} {r : List Expr} {x : Int × Option Tok} (h : flagOf e = some x) : starEach (e :: r) env = (false, eval e env) :: starEach r env := by
  unfold flagOf at h
  split at h <;> first | rfl | cases h
theorem spliced_one {t : Sem Value} {rest : List (Bool × Sem Value)} {v : Value} {vs : List Value} {b₁ b₂ : Nat} {s s₁ s₂ : Shared} {q₁ q₂ : Pos}
    (h : Goes p w b₁ t s q v s₁ q₁) (k : Goes p w b₂ (spliced rest) s₁ q₁ vs s₂ q₂) : Goes p w (b₁ + b₂) (spliced ((false, t) :: rest)) s q (v :: vs) s₂ q₂ := by
  show Goes p w (b₁ + b₂) (do
    let v ← t
    let here ← (pure [v] : Sem (List Value))
    return here ++ (← holding here (spliced rest))) s q (v :: vs) s₂ q₂
  refine Goes.bind h ?_
  have := Goes.bind (p := p) (w := w) (b₁ := 0) (b₂ := b₂ + 0) (m := (pure [v] : Sem (List Value))) (f := fun here => do return here ++ (← holding here (spliced rest))) Goes.pure (Goes.bind (b₁ := b₂) (b₂ := 0) k.holding Goes.pure)
  exact this.le (by omega)
theorem spliced_nil {s : Shared} : Goes p w 0 (spliced []) s q [] s q := Goes.pure
theorem newSeq_goes {T : String} {vs : List Value} (hv : vs.length ≤ sizeLine) (hp : pre.length = 47) :
    Goes p w 1 (newObj (.type T) (.seq vs.toArray)) (st.sh pre os) q (.ref st.addr) (({ st with mid := st.mid ++ [⟨.type T, none, .seq vs.toArray 0, #[]⟩] } : St).sh pre os) q := by
  have e : newObj (.type T) (.seq vs.toArray) = (do let a ← alloc { cls := .type T, dict := none, data := .seq vs.toArray }; pure (.ref a) : Sem Value) := by
    unfold newObj
    simp only [List.size_toArray]
    rw [if_neg (by omega)]
    rfl
  rw [e, ← push_sh, ← size_sh (st := st) (os := os) hp]
  exact Goes.bind (b₁ := 1) (b₂ := 0) Goes.alloc Goes.pure
theorem tup_goes {e : Expr} {x : Tup} (ok : EnvOk env) (no : NsOk st.es) (hp : pre.length = 47) (h : tupOf e = some x) :
    ∃ q', Goes p w 13 (eval e env) (st.sh pre os) q (.ref st.addr) (({ st with mid := st.mid ++ [x.obj st.tok], tok := x.next st.tok } : St).sh pre os) q' := by
  unfold tupOf at h
  split at h
  · rename_i a k1 p1 e c k2 p2 k pos
    obtain ⟨⟨i, t⟩, hf, rfl⟩ := Option.map_eq_some_iff.mp h
    obtain ⟨q', g⟩ := flag_goes (p := p) (w := w) (q := pos) (st := { st with tok := st.tok + 1 }) (os := os) ok no hp hf
    refine ⟨q', ?_⟩
    rw [arm_eval_Tuple]
    refine Goes.bind (b₁ := 1) (b₂ := 12) Goes.standAt ?_
    have e1 : backTo pos (starEach [.Constant (.int a) k1 p1, e, .Constant (.int c) k2 p2] env) = [(false, eval (.Constant (.int a) k1 p1) env), (false, eval e env), (false, eval (.Constant (.int c) k2 p2) env)] := by
      show backTo pos ((false, _) :: starEach [e, .Constant (.int c) k2 p2] env) = _
      rw [notStar_flag hf]
      rfl
    rw [e1]
    refine Goes.bind (b₁ := 11) (b₂ := 1) (spliced_one (b₁ := 1) (b₂ := 10) const_goes (spliced_one (b₁ := 9) (b₂ := 1) g (spliced_one (b₁ := 1) (b₂ := 0) const_goes spliced_nil))) ?_
    exact newSeq_goes (st := { st with tok := nextOf t (st.tok + 1) + 1 }) (by rw [sizeLine_eq]; simp) hp
  · cases h
/-- what the displays of a row of tuples lay down -/
def layObjsT : List Tup → Nat → List Obj
  | [], _ => []
  | x :: r, n => x.obj n :: layObjsT r (x.next n)
def layTok : List Tup → Nat → Nat
  | [], n => n
  | x :: r, n => layTok r (x.next n)
theorem layObjsT_length : ∀ (l : List Tup) (n : Nat), (layObjsT l n).length = l.length
  | [], _ => rfl
  | x :: r, n => by simp [layObjsT, layObjsT_length r]
def refsFrom (a n : Nat) : List Value := (List.range' a n).map Value.ref
theorem refsFrom_cons (a n : Nat) : refsFrom a (n + 1) = .ref a :: refsFrom (a + 1) n := rfl
theorem notStar_tup {e : Expr} {r : List Expr} {x : Tup} (h : tupOf e = some x) : starEach (e :: r) env = (false, eval e env) :: starEach r env := by
  unfold tupOf at h
  split at h <;> first | rfl | cases h
theorem spliced_tups {pos : Pos} (ok : EnvOk env) (hp : pre.length = 47) : ∀ (es : List Expr) (l : List Tup) (st : St) (q : Pos), NsOk st.es → es.map tupOf = l.map some →
    ∃ q', Goes p w (13 * es.length) (spliced (backTo pos (starEach es env))) (st.sh pre os) q (refsFrom st.addr l.length) (({ st with mid := st.mid ++ layObjsT l st.tok, tok := layTok l st.tok } : St).sh pre os) q'
  | [], [], st, q, _, _ => by
    refine ⟨q, ?_⟩
    simp only [layObjsT, layTok, List.append_nil]
    exact Goes.pure
  | [], _ :: _, _, _, _, h => by cases h
  | _ :: _, [], _, _, _, h => by cases h
  | e :: es, x :: l, st, q, no, h => by
    simp only [List.map_cons, List.cons.injEq] at h
    obtain ⟨q₁, g⟩ := tup_goes (p := p) (w := w) (q := q) (os := os) ok no hp h.1
    obtain ⟨q₂, g₂⟩ := spliced_tups ok hp es l ({ st with mid := st.mid ++ [x.obj st.tok], tok := x.next st.tok } : St) q₁ no h.2
    refine ⟨q₂, ?_⟩
    rw [notStar_tup h.1, show 13 * (e :: es).length = 13 + 13 * es.length by simp [Nat.mul_add, Nat.add_comm]]
    have := spliced_one g g₂
    simp only [St.addr, List.append_assoc, List.singleton_append, List.length_append, List.length_singleton] at this
    simp only [St.addr, List.length_cons, refsFrom_cons, layObjsT, layTok]
    exact this
theorem mkEntry {x : Str} {v : Value} (no : NsOk st.es) (hx : st.es.any (·.key.isStr x) = false) (hl : ∀ v, storeName env x v = nsSet 3 x v) (hp : pre.length = 47) :
    Goes p w 6 (bindName env x v) (st.sh pre os) q () (({ st with es := st.es ++ [⟨PyData.keyHash w.params x, .str x st.tok, v⟩], n := st.n + 1, tok := st.tok + 1 } : St).sh pre os) q := by
  unfold bindName
  refine Goes.bind (b₁ := 1) (b₂ := 5) Goes.point.holding (Goes.bind (b₁ := 4) (b₂ := 1) (a := ()) ?_ Goes.point)
  rw [hl]
  unfold nsSet
  refine Goes.bind (b₁ := 1) (b₂ := 3) (show Goes p w 1 (strHash x) _ q (PyData.keyHash w.params x) _ q from Goes.bind (b₁ := 1) (b₂ := 0) Goes.ask Goes.pure) ?_
  refine Goes.bind (b₁ := 1) (b₂ := 2) Goes.mkText ?_
  refine Goes.bind (b₁ := 1) (b₂ := 1) (Goes.loadPart (get3 (st := { st with tok := st.tok + 1 }) hp)) ?_
  have ha : aRefKeyMayBeTheName x st.es.toArray = false := by
    rw [aRefKeyMayBeTheName_at]
    simp only [List.any_toArray, no.noRef, Bool.and_false]
  show Goes p w 1 (if aRefKeyMayBeTheName x st.es.toArray = true then _ else _) _ q _ _ q
  rw [ha]
  have hu := upd_sh (pre := pre) (st := { st with tok := st.tok + 1 }) (os := os) (f := Obj.putName x (PyData.keyHash w.params x) (.str x st.tok) v) (es' := st.es ++ [⟨PyData.keyHash w.params x, .str x st.tok, v⟩]) (n' := st.n + 1) hp (by
    rw [Obj.putName_eq]
    unfold Obj.putNameByArray
    have hf : st.es.toArray.findIdx? (·.key.isStr x) = none := by
      rw [List.findIdx?_toArray, List.findIdx?_eq_none_iff]
      intro y hy
      have := List.any_eq_false.mp hx y hy
      simpa using this
    simp only [hf, List.push_toArray])
  rw [← hu]
  exact Goes.updatePart3 (get3 (st := { st with tok := st.tok + 1 }) hp)
end
section
variable {p : Program} {w : World} {pre : List Obj} {st : St} {os : OsState} {q : Pos} {env : Env}
theorem store_local {x : Str} (hk : env.kindOf x = some .local) (hm : env.scope.kind = .module) (hl : env.locals = 3) (hg : env.globals = 3) (v : Value) : storeName env x v = nsSet 3 x v := by
  unfold storeName
  have hb : env.blockKind = .module := by unfold Env.blockKind; rw [hm]; rfl
  simp only [hk, hm, hl, hg, hb]
  rfl
def listObj (a n : Nat) : Obj := ⟨.type "list", none, .seq (refsFrom a n).toArray 0, #[]⟩
/-- the tuples of a table's statement -/
def tupsOf : Stmt → List Tup
  | .Assign [.Name _ _] (.List es _) _ => es.filterMap tupOf
  | _ => []
def nameOfT : Stmt → Str
  | .Assign [.Name x _] _ _ => x
  | _ => Str.empty
def posOfT : Stmt → Pos
  | .Assign [.Name _ pos] _ _ => pos
  | _ => default
def okStmt (env : Env) (es : List DictEntry) : Stmt → Bool
  | .Assign [.Name x _] (.List l _) _ => env.kindOf x == some .local && !es.any (·.key.isStr x) && l.all (fun e => (tupOf e).isSome) && Nat.ble l.length 128
  | _ => false
def layStmt (P : Params) (s : Stmt) (st : St) : St :=
  { es := st.es ++ [⟨PyData.keyHash P (nameOfT s), .str (nameOfT s) (layTok (tupsOf s) st.tok), .ref (st.addr + (tupsOf s).length)⟩], n := st.n + 1,
    mid := st.mid ++ (layObjsT (tupsOf s) st.tok ++ [listObj st.addr (tupsOf s).length]), tok := layTok (tupsOf s) st.tok + 1 }
theorem map_of_all {es : List Expr} (h : es.all (fun e => (tupOf e).isSome) = true) : es.map tupOf = (es.filterMap tupOf).map some := by
  induction es with
  | nil => rfl
  | cons e r ih =>
    simp only [List.all_cons, Bool.and_eq_true] at h
    obtain ⟨x, hx⟩ := Option.isSome_iff_exists.mp h.1
    simp only [List.map_cons, List.filterMap_cons, hx, ih h.2]
theorem stmt_goes {s : Stmt} (ok : EnvOk env) (hm : env.scope.kind = .module) (no : NsOk st.es) (hp : pre.length = 47) (h : okStmt env st.es s = true) :
    Goes p w 1700 (exec s env) (st.sh pre os) q .next ((layStmt w.params s st).sh pre os) (posOfT s) := by
  unfold okStmt at h
  split at h
  · rename_i x pos' l lp pos
    simp only [Bool.and_eq_true, beq_iff_eq, Bool.not_eq_true'] at h
    obtain ⟨⟨⟨hk, hx⟩, ha⟩, hlen⟩ := h
    have hlen := Nat.le_of_ble_eq_true hlen
    have hmap := map_of_all ha
    have hll : (l.filterMap tupOf).length = l.length := by
      have := congrArg List.length hmap
      simpa using this.symm
    rw [exec_Assign_Name env x pos' (.List l lp) pos rfl]
    obtain ⟨q₁, g⟩ := spliced_tups (p := p) (w := w) (os := os) (pos := lp) ok hp l (l.filterMap tupOf) st lp no hmap
    have big := Goes.bind (p := p) (w := w) (b₁ := 1) (b₂ := (1 + (13 * l.length + 1)) + 8) (m := standAt pos) (f := fun _ => do
      let v ← eval (.List l lp) env
      standAt pos'
      bindName env x v
      pure Flow.next) (s := st.sh pre os) (q := q) (a := ()) (s₁ := st.sh pre os) (q₁ := pos) (d := Flow.next) (s₂ := (layStmt w.params (.Assign [.Name x pos'] (.List l lp) pos) st).sh pre os) (q₂ := pos') Goes.standAt ?_
    · exact big.le (by omega)
    · refine Goes.bind (b₁ := 1 + (13 * l.length + 1)) (b₂ := 8) (a := .ref (st.addr + l.length)) (s₁ := ({ st with mid := st.mid ++ (layObjsT (l.filterMap tupOf) st.tok ++ [listObj st.addr l.length]), tok := layTok (l.filterMap tupOf) st.tok } : St).sh pre os) (q₁ := q₁) ?_ ?_
      · rw [arm_eval_List]
        refine Goes.bind (b₁ := 1) (b₂ := 13 * l.length + 1) Goes.standAt (Goes.bind (b₁ := 13 * l.length) (b₂ := 1) g ?_)
        have n := newSeq_goes (p := p) (w := w) (q := q₁) (os := os) (T := "list") (vs := refsFrom st.addr (l.filterMap tupOf).length) (st := { st with mid := st.mid ++ layObjsT (l.filterMap tupOf) st.tok, tok := layTok (l.filterMap tupOf) st.tok }) (by rw [sizeLine_eq]; simp [refsFrom]; omega) hp
        simp only [St.addr, List.length_append, layObjsT_length, hll, List.append_assoc] at n
        simp only [St.addr, hll, listObj]
        rw [Nat.add_assoc]
        exact n
      · refine Goes.bind (b₁ := 1) (b₂ := 7) Goes.standAt (Goes.bind (b₁ := 6) (b₂ := 1) (a := ()) (mkEntry (st := { st with mid := st.mid ++ (layObjsT (l.filterMap tupOf) st.tok ++ [listObj st.addr l.length]), tok := layTok (l.filterMap tupOf) st.tok }) no hx (store_local hk hm ok.l ok.g) hp) ?_)
        have : (layStmt w.params (.Assign [.Name x pos'] (.List l lp) pos) st) = { es := st.es ++ [⟨PyData.keyHash w.params x, .str x (layTok (l.filterMap tupOf) st.tok), .ref (st.addr + l.length)⟩], n := st.n + 1, mid := st.mid ++ (layObjsT (l.filterMap tupOf) st.tok ++ [listObj st.addr l.length]), tok := layTok (l.filterMap tupOf) st.tok + 1 } := by
          simp only [layStmt, nameOfT, tupsOf, hll]
        rw [this]
        exact Goes.pure.le (by omega)
  · cases h
theorem NsOk.more {es : List DictEntry} (no : NsOk es) {e : DictEntry} (he : e.refKey = false) : NsOk (es ++ [e]) := by
  obtain ⟨⟨x1, a1, b1⟩, ⟨x2, a2, b2⟩, ⟨x3, a3, b3⟩, n⟩ := no
  refine ⟨⟨x1, by simp [List.find?_append, a1], b1⟩, ⟨x2, by simp [List.find?_append, a2], b2⟩, ⟨x3, by simp [List.find?_append, a3], b3⟩, by simp [n, he]⟩
def layAll (P : Params) : List Stmt → St → St
  | [], st => st
  | s :: r, st => layAll P r (layStmt P s st)
def posAll : Pos → List Stmt → Pos
  | q, [] => q
  | _, s :: r => posAll (posOfT s) r
/-- the names alone: what the checks ask -/
def namesOk (env : Env) (ks : List DictEntry) : List Stmt → Bool
  | [] => true
  | s :: r => okStmt env ks s && namesOk env (ks ++ [⟨0, .str (nameOfT s) 0, .none⟩]) r
theorem okStmt_keys {s : Stmt} {es ks : List DictEntry} (h : ∀ x, es.any (·.key.isStr x) = ks.any (·.key.isStr x)) : okStmt env es s = okStmt env ks s := by
  unfold okStmt
  split
  · rw [h]
  · rfl
theorem tables_top {c : Code} {P : Params} (hP : P = w.params) (ok : EnvOk env) (hm : env.scope.kind = .module) (hp : pre.length = 47) : ∀ (l : List Stmt) (st : St) (ks : List DictEntry) (q : Pos), NsOk st.es → (∀ x, st.es.any (·.key.isStr x) = ks.any (·.key.isStr x)) → namesOk env ks l = true →
    ∀ (rest : List Stmt) (N : Nat) (r : Shared), topRun treeTable p w 11 (some (.ref 6)) N ((layAll P l st).sh pre os) (restOf rest env c (posAll q l) B0) = some r →
      topRun treeTable p w 11 (some (.ref 6)) (1701 * l.length + N) (st.sh pre os) (restOf (l ++ rest) env c q B0) = some r
  | [], st, ks, q, _, _, _, rest, N, r, h => by simpa [layAll, posAll] using h
  | s :: l, st, ks, q, no, hk, hn, rest, N, r, h => by
    simp only [namesOk, Bool.and_eq_true] at hn
    have g := stmt_goes (p := p) (w := w) (q := q) (os := os) ok hm no hp (by rw [okStmt_keys hk]; exact hn.1)
    rw [← hP] at g
    have ih := tables_top hP ok hm hp l (layStmt P s st) (ks ++ [⟨0, .str (nameOfT s) 0, .none⟩]) (posOfT s) (no.more rfl) (fun x => by
      simp only [layStmt, List.any_append, hk, List.any_cons, List.any_nil]
      rfl) hn.2 rest N r h
    have e : seg p w (1700 + 1) (st.sh pre os) (pieceOf s env c q B0) = some (.next, (layStmt P s st).sh pre os, c, posOfT s) := g doneF deadEnd id id c _ 1 rfl
    have := piece_cons (q := ⟨0, 0, 0, 0⟩) e ih
    rw [show 1701 * (s :: l).length + N = 1700 + 1 + (1701 * l.length + N) by simp [Nat.mul_add]; omega]
    exact this
end
end Mine
end

section
open PySem PySem.W PySem.Calls PyProof.Rows
namespace Mine
abbrev pw : Program := PySem.Challenge.pw_ln0015_01
abbrev body0 : List Stmt := behindTheImports pw
set_option maxRecDepth 100000
theorem pre_run (w : World) (os : OsState) : topGo treeTable pw w 11 (some (.ref 6)) 12 ⟨boot_heap w.params, #[], boot_drawn, boot_toks, os⟩ (topStub pw) =
    some (⟨absHeap (sh.tree_4 w.params) 15 {}, #[], {}, 187, os⟩, ⟨denote treeTable (.body body0 sh.env_1), .body body0 sh.env_1, ⟨0, 0, 0, 0⟩, B0⟩) := by kernel_rfl
theorem block_run (w : World) (os : OsState) : segRun treeTable pw w 11 (some (.ref 6)) 1 1 ⟨absHeap (sh.tree_4 w.params) 15 {}, #[], {}, 187, os⟩ (blockOf body0 sh.env_1 (.body body0 sh.env_1) ⟨0, 0, 0, 0⟩ B0) =
    some (.next, ⟨absHeap (sh.tree_4 w.params) 15 {}, #[], {}, 187, os⟩, .body body0 sh.env_1, ⟨0, 0, 0, 0⟩) := by kernel_rfl
noncomputable section
def tabStmts : List Stmt := (body0.drop 8).take 32
def lastStmts : List Stmt := body0.drop 40
theorem body_split : body0 = sh.sts_4 ++ (sh.sts_22 ++ (tabStmts ++ lastStmts)) := by kernel_rfl
def preObjs (P : Params) : List Obj := (sh.tree_43 P).list 47
theorem pre_len (P : Params) : (preObjs P).length = 47 := by simp [preObjs, BT.list]
def entriesOf : Obj → List DictEntry
  | ⟨_, _, .dict es _, _⟩ => es.toList
  | _ => []
def es0 (P : Params) : List DictEntry := entriesOf ((preObjs P)[3]?.getD default)
def st0 (P : Params) : St := ⟨es0 P, 15, [], 251⟩
theorem pre_ns (P : Params) : (preObjs P)[3]? = some (nsObj (es0 P) 15) := by kernel_rfl
theorem start_sh (P : Params) (os : OsState) : (⟨absHeap (sh.tree_43 P) 47 {}, #[], {}, 251, os⟩ : Shared) = (st0 P).sh (preObjs P) os := by
  have e : (preObjs P).set 3 (nsObj (es0 P) 15) = preObjs P := by
    have h := pre_ns P
    obtain ⟨h1, h2⟩ := List.getElem?_eq_some_iff.mp h
    rw [← h2, List.set_getElem_self]
  simp only [St.sh, st0, e, List.append_nil]
  rfl
theorem env_ok : EnvOk sh.env_1 := ⟨by kernel_rfl, by kernel_rfl, by kernel_rfl, by kernel_rfl, by kernel_rfl⟩
theorem env_mod : sh.env_1.scope.kind = .module := by kernel_rfl
theorem tab_names (P : Params) : namesOk sh.env_1 (es0 P) tabStmts = true := by kernel_rfl
end
end Mine
end

section
open PySem PySem.W PyProof.Rows
namespace Mine
set_option maxRecDepth 100000
set_option linter.unusedVariables false
theorem and2 {a b : Bool} (h : a = true) (k : b = true) : (a && b) = true := by rw [h, k]; rfl
abbrev Lw : OpenLaw := PySem.Challenge.rw_ln0015_01
abbrev Pw : Program := Lw.row.prog
/-- the walk's answers can be put together in any grouping -/
structure Joins {α : Type} (A : TablesWhole.Alg α) : Prop where
  left : ∀ a, A.both A.unit a = a
  assoc : ∀ a b c, A.both (A.both a b) c = A.both a (A.both b c)
/-- the walk finds nothing amiss at the three flags' names -/
structure FlagsOk {α : Type} (A : TablesWhole.Alg α) (sc : Scope) : Prop where
  c : ∀ p, A.ask sc sC p = A.unit
  e : ∀ p, A.ask sc sE p = A.unit
  f : ∀ p, A.ask sc sF p = A.unit
section
variable {α : Type} {A : TablesWhole.Alg α} {top sc : Scope} {cx : TablesWhole.Ctx} {hold : Option Scope} {env : Env}
theorem name_walk {x : Str} {p : Pos} (hs : (x == ("super" : Str)) = false) (h : A.ask sc x (some p) = A.unit) : TablesWhole.wE A cx sc hold (.Name x p) = A.unit := by
  show (if (x == ("super" : Str) && sc.functionLike) = true then A.both (A.ask sc x (some p)) (A.ask sc ("__class__" : Str) none) else A.ask sc x (some p)) = A.unit
  rw [hs, Bool.false_and, if_neg Bool.false_ne_true, h]
theorem flag_walk (J : Joins A) (ok : FlagsOk A sc) {e : Expr} {r : Int × Option Tok} (h : flagOf e = some r) : TablesWhole.wE A cx sc hold e = A.unit := by
  have wc : ∀ p, TablesWhole.wE A cx sc hold (.Name sC p) = A.unit := fun p => name_walk (by decide +kernel) (ok.c _)
  have we : ∀ p, TablesWhole.wE A cx sc hold (.Name sE p) = A.unit := fun p => name_walk (by decide +kernel) (ok.e _)
  have wf : ∀ p, TablesWhole.wE A cx sc hold (.Name sF p) = A.unit := fun p => name_walk (by decide +kernel) (ok.f _)
  unfold flagOf at h
  split at h
  · rfl
  · split at h
    · rename_i q; subst q; exact we _
    · split at h
      · rename_i q; subst q; exact wf _
      · split at h
        · rename_i q; subst q; exact wc _
        · cases h
  · split at h
    · rename_i q
      obtain ⟨rfl, rfl⟩ := q
      show A.both (TablesWhole.wE A cx sc hold (.Name sC _)) (TablesWhole.wE A cx sc hold (.Name sE _)) = A.unit
      rw [wc, we, J.left]
    · cases h
  · cases h
theorem tup_walk (J : Joins A) (ok : FlagsOk A sc) {e : Expr} {x : Tup} (h : tupOf e = some x) : TablesWhole.wE A cx sc hold e = A.unit := by
  unfold tupOf at h
  split at h
  · obtain ⟨r, hr, _⟩ := Option.map_eq_some_iff.mp h
    have q := flag_walk (cx := cx) (hold := hold) J ok hr
    show A.both A.unit (A.both (TablesWhole.wE A cx sc hold _) (A.both A.unit A.unit)) = A.unit
    rw [q, J.left, J.left, J.left]
  · cases h
theorem tups_walk (J : Joins A) (ok : FlagsOk A sc) : ∀ l : List Expr, (l.all fun e => (tupOf e).isSome) = true → TablesWhole.wEs A cx sc hold l = A.unit
  | [], _ => rfl
  | e :: r, h => by
    obtain ⟨h1, h2⟩ := Bool.and_eq_true_iff.mp h
    obtain ⟨x, hx⟩ := Option.isSome_iff_exists.mp h1
    show A.both (TablesWhole.wE A cx sc hold e) (TablesWhole.wEs A cx sc hold r) = A.unit
    rw [tup_walk J ok hx, tups_walk J ok r h2, J.left]
theorem stmt_walk (J : Joins A) (ok : FlagsOk A sc) {s : Stmt} {ks : List DictEntry} (h : okStmt env ks s = true) (hn : ∀ p, A.bind cx sc (nameOfT s) p = A.unit) : TablesWhole.wS A top cx sc s = A.unit := by
  unfold okStmt at h
  split at h
  · obtain ⟨h, _⟩ := Bool.and_eq_true_iff.mp h
    obtain ⟨_, h⟩ := Bool.and_eq_true_iff.mp h
    have q := tups_walk (cx := cx) (hold := none) J ok _ h
    show A.both (TablesWhole.wEs A cx sc none _) (A.both (A.bind cx sc _ (some _)) A.unit) = A.unit
    rw [q, J.left]
    exact (congrArg (A.both · A.unit) (hn _)).trans (J.left _)
  · cases h
theorem tabs_walk (J : Joins A) (ok : FlagsOk A sc) : ∀ (l : List Stmt) (ks : List DictEntry), namesOk env ks l = true → (∀ s ∈ l, ∀ p, A.bind cx sc (nameOfT s) p = A.unit) → TablesWhole.wSs A top cx sc l = A.unit
  | [], _, _, _ => rfl
  | s :: r, ks, h, hn => by
    obtain ⟨h1, h2⟩ := Bool.and_eq_true_iff.mp h
    show A.both (TablesWhole.wS A top cx sc s) (TablesWhole.wSs A top cx sc r) = A.unit
    rw [stmt_walk J ok h1 (hn s (.head _)), tabs_walk J ok r _ h2 (fun s' q => hn s' (.tail _ q)), J.left]
theorem walk_split (J : Joins A) : ∀ (l r : List Stmt), TablesWhole.wSs A top cx sc (l ++ r) = A.both (TablesWhole.wSs A top cx sc l) (TablesWhole.wSs A top cx sc r)
  | [], r => (J.left _).symm
  | s :: l, r => by
    show A.both _ (TablesWhole.wSs A top cx sc (l ++ r)) = A.both (A.both _ _) _
    rw [walk_split J l r, J.assoc]
end
noncomputable section
def anyParams : Params := { strHash := fun _ => 0, shareClass := fun _ => 0, mergeTok := id, idOf := fun _ => 0, idOfShared := fun _ _ => 0, followText := fun _ => false, idOfImm := fun _ => 0 }
/-- the text above the tables -/
def headStmts : List Stmt := body0.take 8
theorem main_split : Pw.main.body = headStmts ++ (tabStmts ++ lastStmts) := by
  have e : Pw.main.body = body0 := by kernel_rfl
  have e1 := List.take_append_drop 8 body0
  have e2 := List.take_append_drop 32 (body0.drop 8)
  rw [List.drop_drop] at e2
  rw [e, headStmts, tabStmts, lastStmts, e2, e1]
end
abbrev mainSc : Scope := Pw.main.scope
abbrev mainCx (told : List Str) : TablesWhole.Ctx := ⟨mainSc, [], told, [], none⟩
/-- a walk over the whole text: over what stands above the tables, and what stands below -/
theorem walk_all {α : Type} {A : TablesWhole.Alg α} {told : List Str} (J : Joins A) (flags : FlagsOk A mainSc) (names : ∀ s ∈ tabStmts, ∀ p, A.bind (mainCx told) mainSc (nameOfT s) p = A.unit) {rest body : List Stmt} (e : body = headStmts ++ (tabStmts ++ rest)) :
    TablesWhole.wSs A mainSc (mainCx told) mainSc body = A.both (TablesWhole.wSs A mainSc (mainCx told) mainSc headStmts) (TablesWhole.wSs A mainSc (mainCx told) mainSc rest) := by
  rw [e, walk_split J, walk_split J, tabs_walk J flags tabStmts _ (tab_names anyParams) names, J.left]
/-- the walk that asks each name -/
abbrev asks (ask : Scope → Str → Bool) : TablesWhole.Alg Bool := ⟨fun sc n _ => ask sc n, fun _ _ _ _ => true, fun _ => true, true, false, fun a b => a && b⟩
theorem asks_joins (ask : Scope → Str → Bool) : Joins (asks ask) := ⟨fun _ => rfl, fun a b c => Bool.and_assoc a b c⟩
theorem look_all {ask : Scope → Str → Bool} (c : ask mainSc sC = true) (e : ask mainSc sE = true) (f : ask mainSc sF = true) (names : (tabStmts.all fun s => ask mainSc (nameOfT s)) = true)
    (a : ∀ told, TablesWhole.wSs (asks ask) mainSc (mainCx told) mainSc headStmts = true) {rest : List Stmt} (b : ∀ told, TablesWhole.wSs (asks ask) mainSc (mainCx told) mainSc rest = true) {body : List Stmt} (q : body = headStmts ++ (tabStmts ++ rest)) :
    TablesWhole.wModule (asks ask) { Pw.main with body := body } = true := by
  have h : ∀ told, TablesWhole.wSs (asks ask) mainSc (mainCx told) mainSc body = true := fun told => by
    rw [walk_all (asks_joins ask) ⟨fun _ => c, fun _ => e, fun _ => f⟩ (fun s hs p => and2 (List.all_eq_true.mp names s hs) rfl) q]
    exact and2 (a told) (b told)
  unfold TablesWhole.wModule
  simp [TablesWhole.Alg.all, h]
/-- nothing is told of the text -/
theorem told_none : TablesWhole.wSs TablesWhole.gather mainSc (mainCx []) mainSc Pw.main.body = [] := by
  rw [walk_all ⟨fun _ => rfl, fun a b c => List.append_assoc a b c⟩ ⟨fun _ => rfl, fun _ => rfl, fun _ => rfl⟩ (fun s hs p => by kernel_rfl) main_split]
  kernel_rfl
theorem holds_names : (tabStmts.all fun s => TablesWhole.holds.bind (mainCx []) mainSc (nameOfT s) none) = true := by kernel_rfl
theorem holds_head : TablesWhole.wSs TablesWhole.holds mainSc (mainCx []) mainSc headStmts = true := by kernel_rfl
theorem holds_last : TablesWhole.wSs TablesWhole.holds mainSc (mainCx []) mainSc lastStmts = true := by kernel_rfl
theorem holds_flags : FlagsOk TablesWhole.holds mainSc := ⟨fun _ => by kernel_rfl, fun _ => by kernel_rfl, fun _ => by kernel_rfl⟩
theorem bind_any {cx : TablesWhole.Ctx} {sc : Scope} (n : Str) (p : Option Pos) : TablesWhole.holds.bind cx sc n p = TablesWhole.holds.bind cx sc n none := rfl
theorem holds_joins : Joins TablesWhole.holds := ⟨fun _ => rfl, fun a b c => Bool.and_assoc a b c⟩
theorem holds_named : ∀ s ∈ tabStmts, ∀ p, TablesWhole.holds.bind (mainCx []) mainSc (nameOfT s) p = TablesWhole.holds.unit := by
  intro s hs p
  rw [bind_any]
  exact List.all_eq_true.mp holds_names s hs
theorem holds_body : TablesWhole.wSs TablesWhole.holds mainSc (mainCx []) mainSc Pw.main.body = true := by
  rw [walk_all holds_joins holds_flags holds_named main_split, holds_head, holds_last]
  rfl
theorem holds_twice : TablesWhole.noTwice mainSc = true := by kernel_rfl
theorem module_whole {m : Module} (t : TablesWhole.wSs TablesWhole.gather m.scope ⟨m.scope, [], [], [], none⟩ m.scope m.body = []) (h : TablesWhole.wSs TablesWhole.holds m.scope ⟨m.scope, [], [], [], none⟩ m.scope m.body = true)
    (n : TablesWhole.noTwice m.scope = true) : TablesWhole.wModule TablesWhole.holds m = true := by
  unfold TablesWhole.wModule
  rw [t]
  simp only [TablesWhole.Alg.all, List.foldr]
  rw [h]
  show (true && (TablesWhole.noTwice m.scope && (true && true))) = true
  rw [n]
  rfl
theorem program_whole {p : Program} (h : TablesWhole.wModule TablesWhole.holds p.main = true) (a : p.modules = []) (b : p.parses = []) (c : p.harvested = []) : p.tablesWhole = true := by
  unfold Program.tablesWhole TablesWhole.wProgram
  rw [a, b, c]
  exact and2 h rfl
/-- the symbol tables of the program are whole -/
theorem tables_whole : Pw.tablesWhole = true := program_whole (module_whole told_none holds_body holds_twice) rfl rfl rfl
/-- a look passes the three flags' names -/
structure RoadOk (lk : Look) : Prop where
  c : lk.name sC = true
  e : lk.name sE = true
  f : lk.name sF = true
section
variable {lk : Look} {env : Env}
theorem RoadOk.out (ok : RoadOk lk) : RoadOk lk.out := ⟨ok.c, ok.e, ok.f⟩
theorem flag_road (ok : RoadOk lk) {e : Expr} {r : Int × Option Tok} (h : flagOf e = some r) : noRoadL lk e = true := by
  have n : ∀ {k : Look} {x : Str} {p : Pos}, k.name x = true → noRoadL k (.Name x p) = true := fun q => q
  unfold flagOf at h
  split at h
  · rfl
  · split at h
    · rename_i q; subst q; exact n ok.e
    · split at h
      · rename_i q; subst q; exact n ok.f
      · split at h
        · rename_i q; subst q; exact n ok.c
        · cases h
  · split at h
    · rename_i q
      obtain ⟨rfl, rfl⟩ := q
      exact and2 (and2 rfl (n ok.out.c)) (n ok.out.e)
    · cases h
  · cases h
theorem tup_road (ok : RoadOk lk) {e : Expr} {x : Tup} (h : tupOf e = some x) : noRoadL lk e = true := by
  unfold tupOf at h
  split at h
  · obtain ⟨r, hr, _⟩ := Option.map_eq_some_iff.mp h
    have q := flag_road ok hr
    show (true && (noRoadL lk _ && (true && true))) = true
    rw [q]
    rfl
  · cases h
theorem tups_road (ok : RoadOk lk) : ∀ l : List Expr, (l.all fun e => (tupOf e).isSome) = true → noRoadLs lk l = true
  | [], _ => rfl
  | e :: r, h => by
    obtain ⟨h1, h2⟩ := Bool.and_eq_true_iff.mp h
    obtain ⟨x, hx⟩ := Option.isSome_iff_exists.mp h1
    show (noRoadL lk e && noRoadLs lk r) = true
    exact and2 (tup_road ok hx) (tups_road ok r h2)
theorem stmt_road (ok : RoadOk lk) {s : Stmt} {ks : List DictEntry} (h : okStmt env ks s = true) (hn : lk.name (nameOfT s) = true) : noRoadLS lk s = true := by
  unfold okStmt at h
  split at h
  · obtain ⟨h, _⟩ := Bool.and_eq_true_iff.mp h
    obtain ⟨_, h⟩ := Bool.and_eq_true_iff.mp h
    have st : ∀ (x : Str) (p : Pos) (o : Option (List Str)), (o.all fun above => [Expr.Name x p].all (storeOk lk.writes above 64)) = true := fun x p o => by cases o <;> rfl
    have q := tups_road ok _ h
    show (lk.stores [.Name _ _] && (lk.name _ && true) && noRoadLs lk _) = true
    exact and2 (and2 (st _ _ lk.foot) (and2 hn rfl)) q
  · cases h
theorem tabs_road (ok : RoadOk lk) : ∀ (l : List Stmt) (ks : List DictEntry), namesOk env ks l = true → (l.all fun s => lk.name (nameOfT s)) = true → noRoadLSs lk l = true
  | [], _, _, _ => rfl
  | s :: r, ks, h, hn => by
    obtain ⟨h1, h2⟩ := Bool.and_eq_true_iff.mp h
    obtain ⟨n1, n2⟩ := Bool.and_eq_true_iff.mp hn
    show (noRoadLS lk s && noRoadLSs lk r) = true
    exact and2 (stmt_road ok h1 n1) (tabs_road ok r _ h2 n2)
theorem road_split : ∀ (l r : List Stmt), noRoadLSs lk (l ++ r) = (noRoadLSs lk l && noRoadLSs lk r)
  | [], r => rfl
  | s :: l, r => by
    show (noRoadLS lk s && noRoadLSs lk (l ++ r)) = ((noRoadLS lk s && noRoadLSs lk l) && noRoadLSs lk r)
    rw [road_split l r, Bool.and_assoc]
end
theorem road_all {lk : Look} (flags : RoadOk lk) (names : (tabStmts.all fun s => lk.name (nameOfT s)) = true) (a : noRoadLSs lk headStmts = true) (b : noRoadLSs lk lastStmts = true) : noRoadLSs lk Pw.main.body = true := by
  rw [main_split, road_split, road_split]
  exact and2 a (and2 (tabs_road flags tabStmts _ (tab_names anyParams) names) b)
end Mine
end

section
open PySem PySem.W PyProof.Rows
namespace Mine
set_option maxRecDepth 100000
set_option maxHeartbeats 8000000
/-- the question of readsOut -/
abbrev askOut (n : Str) (sc : Scope) (x : Str) : Bool := x != n || !(sc.names.lookup x == some .globalImplicit || sc.names.lookup x == some .globalExplicit)
theorem reads_none {n : Str} (c : askOut n mainSc sC = true) (e : askOut n mainSc sE = true) (f : askOut n mainSc sF = true) (names : (tabStmts.all fun s => askOut n mainSc (nameOfT s)) = true)
    (a : ∀ told, TablesWhole.wSs (asks (askOut n)) mainSc (mainCx told) mainSc headStmts = true) (b : ∀ told, TablesWhole.wSs (asks (askOut n)) mainSc (mainCx told) mainSc lastStmts = true) : readsOut Pw Pw.main.body n = false := by
  have h : namesMeet Pw Pw.main.body (askOut n) = true := look_all c e f names a b main_split
  unfold readsOut
  rw [h]
  rfl
theorem ro1 : readsOut Pw Pw.main.body "vars" = false := reads_none (by kernel_rfl) (by kernel_rfl) (by kernel_rfl) (by kernel_rfl) (fun _ => by kernel_rfl) fun _ => by kernel_rfl
theorem ro2 : readsOut Pw Pw.main.body "dir" = false := reads_none (by kernel_rfl) (by kernel_rfl) (by kernel_rfl) (by kernel_rfl) (fun _ => by kernel_rfl) fun _ => by kernel_rfl
theorem ro3 : readsOut Pw Pw.main.body "locals" = false := reads_none (by kernel_rfl) (by kernel_rfl) (by kernel_rfl) (by kernel_rfl) (fun _ => by kernel_rfl) fun _ => by kernel_rfl
theorem ro4 : (["vars", "dir", "locals"] : List Str).filter (readsOut Pw Pw.main.body) = [] := by
  rw [List.filter_cons_of_neg (by rw [ro1]; exact Bool.false_ne_true), List.filter_cons_of_neg (by rw [ro2]; exact Bool.false_ne_true), List.filter_cons_of_neg (by rw [ro3]; exact Bool.false_ne_true)]
  rfl
theorem lo1 : sreFenced Pw.main = true := by kernel_rfl
theorem lo2 : ((moduleNames Pw.main.body).isEmpty || lookedIntoSs (moduleNames Pw.main.body) Pw.main.body) = true := by kernel_rfl
theorem lo3 : namesResolve Pw = true := by
  unfold namesResolve
  refine look_all (body := Pw.main.body) ?_ ?_ ?_ ?_ (fun _ => ?_) (fun _ => ?_) main_split <;> kernel_rfl
theorem lo4 : Pw.boundNames.all (fun n => !worldNames.contains n) = true := by kernel_rfl
theorem lo6 : (namesMeet Pw Pw.main.body fun _ n => attrL n) = true := by
  unfold namesMeet
  refine look_all ?_ ?_ ?_ ?_ (fun _ => ?_) (fun _ => ?_) main_split <;> kernel_rfl
theorem looks : looksOpen Pw = true := by
  unfold looksOpen
  refine and2 (and2 (and2 (and2 (and2 lo1 lo2) lo3) lo4) ?_) lo6
  rw [ro4]
  refine road_all ⟨?_, ?_, ?_⟩ ?_ ?_ ?_ <;> kernel_rfl
theorem rowSaid : Lw.row.wellSaid = true := by
  unfold OpenRow.wellSaid OpenRow.partSaid
  refine and2 (and2 (and2 (and2 (and2 (and2 (and2 (and2 (and2 (and2 (and2 (and2 (and2 (and2 (and2 looks ?_) ?_) ?_) ?_) ?_) ?_) ?_) ?_) ?_) ?_) ?_) ?_) ?_) ?_) ?_
  all_goals kernel_rfl
theorem last_len : (Lw.prog.main.body.length - Lw.foot) = 40 + (lastStmts.length - 2) := by kernel_rfl
theorem above_split : Lw.above = headStmts ++ (tabStmts ++ lastStmts.take (lastStmts.length - 2)) := by
  have e : Lw.prog.main.body = (headStmts ++ tabStmts) ++ lastStmts := by rw [List.append_assoc]; exact main_split
  have l : (headStmts ++ tabStmts).length = 40 := by kernel_rfl
  unfold OpenLaw.above
  rw [last_len, e, ← l, List.take_length_add_append, List.append_assoc]
theorem la9 : (namesMeet Lw.prog Lw.above fun _ n => !Lw.own.contains n) = true := by
  unfold namesMeet
  refine look_all ?_ ?_ ?_ ?_ (fun _ => ?_) (fun _ => ?_) above_split <;> kernel_rfl
theorem h_said : PySem.Challenge.rw_ln0015_01.wellSaid = true := by
  unfold OpenLaw.wellSaid
  refine and2 (and2 (and2 (and2 (and2 (and2 (and2 (and2 (and2 (and2 (and2 (and2 (and2 (and2 (and2 (and2 (and2 (and2 rowSaid ?_) ?_) ?_) ?_) ?_) ?_) ?_) ?_) ?_) ?_) ?_) ?_) ?_) ?_) ?_) ?_) la9) ?_
  all_goals kernel_rfl
end Mine
end

section
open PySem PySem.W PySem.Calls PyProof.Rows
namespace Mine
set_option maxRecDepth 100000
noncomputable section
/-- what the tables' statements lay down, as one flat row -/
def mids : List Stmt → Nat → Nat → List Obj
  | [], _, _ => []
  | s :: r, a, n => layObjsT (tupsOf s) n ++ (listObj a (tupsOf s).length :: mids r (a + (tupsOf s).length + 1) (layTok (tupsOf s) n + 1))
def nsMore (P : Params) : List Stmt → Nat → Nat → List DictEntry
  | [], _, _ => []
  | s :: r, a, n => ⟨PyData.keyHash P (nameOfT s), .str (nameOfT s) (layTok (tupsOf s) n), .ref (a + (tupsOf s).length)⟩ :: nsMore P r (a + (tupsOf s).length + 1) (layTok (tupsOf s) n + 1)
def tokMore : List Stmt → Nat → Nat
  | [], n => n
  | s :: r, n => tokMore r (layTok (tupsOf s) n + 1)
theorem layAll_flat (P : Params) : ∀ (l : List Stmt) (st : St), layAll P l st = ⟨st.es ++ nsMore P l st.addr st.tok, st.n + l.length, st.mid ++ mids l st.addr st.tok, tokMore l st.tok⟩
  | [], st => by simp [layAll, nsMore, mids, tokMore]
  | s :: l, st => by
    have ha : (layStmt P s st).addr = st.addr + (tupsOf s).length + 1 := by
      simp [St.addr, layStmt, layObjsT_length]; omega
    rw [layAll, layAll_flat P l, ha]
    simp [layStmt, nsMore, mids, tokMore, St.addr, Nat.add_comm, Nat.add_left_comm]
/-- a tree of the objects, laid out only where it is looked at -/
def btOf (f : Nat → Obj) (n : Nat) : Nat → Nat → Nat → BT
  | 0, _, _ => .nil
  | k + 1, a, b => match Nat.blt b n with
    | true => .node (f b) (btOf f n k (2 * a) (a + b)) (btOf f n k (2 * a) (2 * a + b))
    | false => .nil
theorem btOf_get (f : Nat → Obj) (n : Nat) : ∀ (k a b i : Nat), 0 < a → i + 2 ≤ 2 ^ k → (btOf f n k a b).get i = if b + a * i < n then some (f (b + a * i)) else none
  | 0, a, b, i, _, h => by simp at h
  | k + 1, a, b, i, ha, h => by
    unfold btOf
    cases hb : Nat.blt b n with
    | false =>
      have : ¬ b < n := fun q => by
        have : Nat.blt b n = true := Nat.ble_eq_true_of_le q
        rw [this] at hb; cases hb
      rw [if_neg (by have := Nat.zero_le (a * i); omega)]
      rfl
    | true =>
      have hb' : b < n := Nat.le_of_ble_eq_true hb
      simp only
      rw [BT.get_node]
      by_cases h0 : i = 0
      · subst h0; simp [hb']
      · rw [if_neg h0]
        rw [Nat.pow_succ] at h
        by_cases p : i % 2 = 1
        · rw [if_pos p, btOf_get f n k (2 * a) (a + b) (i / 2) (by omega) (by omega)]
          have hj : i = 2 * (i / 2) + 1 := by omega
          have : a + b + 2 * a * (i / 2) = b + a * i := by
            generalize i / 2 = q at hj
            subst hj
            rw [Nat.mul_add, Nat.mul_one, ← Nat.mul_assoc, Nat.mul_comm a 2]; omega
          rw [this]
        · rw [if_neg p, btOf_get f n k (2 * a) (2 * a + b) (i / 2 - 1) (by omega) (by omega)]
          have hj : i = 2 * (i / 2 - 1) + 2 := by omega
          have : 2 * a + b + 2 * a * (i / 2 - 1) = b + a * i := by
            generalize i / 2 - 1 = q at hj
            subst hj
            rw [Nat.mul_add, ← Nat.mul_assoc, Nat.mul_comm a 2]; omega
          rw [this]
theorem btOf_list (l : List Obj) (h : l.length ≤ 8000) : (btOf (fun i => l.getD i default) l.length 13 1 0).list l.length = l := by
  apply List.ext_getElem?
  intro i
  unfold BT.list
  rw [List.getElem?_map]
  by_cases hi : i < l.length
  · rw [List.getElem?_range hi]
    simp only [Option.map_some]
    rw [btOf_get _ _ 13 1 0 i (by omega) (by omega)]
    simp [hi, List.getD_eq_getElem?_getD]
  · rw [List.getElem?_eq_none (by simpa using hi), List.getElem?_eq_none (by omega)]
    rfl
theorem es_ok (P : Params) : NsOk (es0 P) := by
  refine ⟨⟨(es0 P)[12]?.getD default, by kernel_rfl, by kernel_rfl⟩, ⟨(es0 P)[13]?.getD default, by kernel_rfl, by kernel_rfl⟩, ⟨(es0 P)[14]?.getD default, by kernel_rfl, by kernel_rfl⟩, by kernel_rfl⟩
def esT (P : Params) : List DictEntry := es0 P ++ nsMore P tabStmts 47 251
def midT : List Obj := mids tabStmts 47 251
def objsT (P : Params) : List Obj := (preObjs P).set 3 (nsObj (esT P) 47) ++ midT
theorem tok_T : tokMore tabStmts 251 = 9736 := by kernel_rfl
theorem midT_len : midT.length = 4128 := by kernel_rfl
theorem objsT_len (P : Params) : (objsT P).length = 4175 := by simp [objsT, pre_len, midT_len]
def treeT (P : Params) : BT := btOf (fun i => (objsT P).getD i default) 4175 13 1 0
theorem tables_end (P : Params) (os : OsState) : (layAll P tabStmts (st0 P)).sh (preObjs P) os = SharedT.abs ⟨treeT P, 4175, {}, #[], {}, 9736, os⟩ := by
  rw [layAll_flat]
  have hl : tabStmts.length = 32 := by kernel_rfl
  have h := btOf_list (objsT P) (by rw [objsT_len]; omega)
  rw [objsT_len] at h
  simp only [St.sh, SharedT.abs, absHeap, treeT, h, st0, St.addr, List.length_nil, Nat.add_zero, List.nil_append, hl, tok_T]
  rfl
end
end Mine
end

section
open PySem PySem.W PySem.Calls PyProof.Rows
namespace Mine
set_option maxRecDepth 100000
/-- the same one frame higher -/
def GoesD (p : Program) (w : World) (F : Frame) (b : Nat) {α : Type} (t : Sem α) (s : Shared) (q : Pos) (a : α) (s' : Shared) (q' : Pos) : Prop :=
  ∀ (K : α → Sem Fin) (H : Value → Sem Fin) (gd : Bool → Bool) (lv : List Value → List Value) (c : Code) (r : Flow × Shared × Code × Pos) (N : Nat),
    seg p w N s' ⟨K a, c, q', F :: B0⟩ = some r → seg p w (b + N) s ⟨t.wrap K H gd lv, c, q, F :: B0⟩ = some r
section
variable {p : Program} {w : World} {F : Frame} {α β : Type} {s s' s₁ s₂ : Shared} {q q' q₁ q₂ : Pos} {b b₁ b₂ : Nat}
theorem GoesD.pure {a : α} : GoesD p w F 0 (pure a : Sem α) s q a s q := fun K H gd lv c r N h => by
  rw [Nat.zero_add]; exact h
theorem GoesD.bind {m : Sem α} {f : α → Sem β} {a : α} {d : β} (h : GoesD p w F b₁ m s q a s₁ q₁) (k : GoesD p w F b₂ (f a) s₁ q₁ d s₂ q₂) : GoesD p w F (b₁ + b₂) (m >>= f) s q d s₂ q₂ := fun K H gd lv c r N e => by
  rw [Sem.bind_eq_wrap', Sem.wrap_wrap, Nat.add_assoc]
  exact h _ _ _ _ c r _ (k K H gd lv c r N e)
theorem GoesD.alloc {o : Obj} : GoesD p w F 1 (alloc o) s q s.heap.objs.size { s with heap := s.heap.push o } q := fun K H gd lv c r N e => by
  rw [Nat.add_comm]; exact e
theorem GoesD.loadPart {a : Addr} {part : Option Value} {o : Obj} (ho : s.heap.get? a = some o) : GoesD p w F 1 (loadPart a part) s q o s q := fun K H gd lv c r N e => by
  obtain ⟨heap, gens, drawn, toks, os⟩ := s
  rw [Nat.add_comm]
  show (match step (denote treeTable) p w ⟨heap, gens, drawn, toks, os⟩ ⟨.load a part fun x => (Sem.pure x).wrap K H gd lv, c, q, F :: B0⟩ with | .go s' t' => seg p w N s' t' | .halt _ _ => none) = some r
  have ho' : heap.get? a = some o := ho
  simp only [step, ho']
  exact e
theorem GoesD.of_eq {t t' : Sem α} {a : α} (e : t = t') (h : GoesD p w F b t' s q a s' q') : GoesD p w F b t s q a s' q' := e ▸ h
theorem seg_again {id : String} {args : Args} {c₀ : Code} {k : Result → Sem Fin} {hd : Option Value} {g : Bool} {l : List Value} {cd : Code} {p₀ : Pos} {kept : List Value} {M : Nat} (hid : id.startsWith "lifetime." = false) :
    seg p w (M + 1) s ⟨.pure (.again (.builtin id args)), c₀, q, .ret k hd g l cd p₀ kept :: B0⟩ = seg p w M s ⟨denote treeTable (.builtin id args), .builtin id args, q, .ret k hd g l cd p₀ (keptBy c₀ (.builtin id args) l kept) :: B0⟩ := by
  obtain ⟨heap, gens, drawn, toks, os⟩ := s
  have hk : stepOk 11 (some (.ref 6)) ⟨.pure (.again (.builtin id args)), c₀, q, .ret k hd g l cd p₀ kept :: B0⟩ = true := by
    simp only [stepOk, Thread.calm, Thread.atCollectorCode, Thread.yieldsInsideHandler, hid]
    rfl
  show (match stepOk 11 (some (.ref 6)) ⟨.pure (.again (.builtin id args)), c₀, q, .ret k hd g l cd p₀ kept :: B0⟩ with
      | false => none
      | true => match step (denote treeTable) p w ⟨heap, gens, drawn, toks, os⟩ ⟨.pure (.again (.builtin id args)), c₀, q, .ret k hd g l cd p₀ kept :: B0⟩ with
        | .go s' t' => seg p w M s' t'
        | .halt _ _ => none) = _
  rw [hk, PySem.W.step_again]
/-- what stands behind a tree's first look -/
def loadK {α : Type} : Sem α → Obj → Sem α
  | .load _ _ k, o => k o
  | t, _ => t
theorem GoesD.first {t : Sem α} {a : Addr} {part : Option Value} {o : Obj} {v : α} (e : t = .load a part (loadK t)) (ho : s.heap.get? a = some o) (h : GoesD p w F b (loadK t o) s q v s' q') : GoesD p w F (1 + b) t s q v s' q' := by
  rw [e]
  exact GoesD.bind (b₁ := 1) (m := PySem.loadPart a part) (f := loadK t) (GoesD.loadPart ho) h
/-- a built-in that is called -/
theorem Goes.callB {id : String} {args : Args} {B : Builtin} {v : Value} (hid : id.startsWith "lifetime." = false) (h1 : ∀ F, GoesD p w F b₁ (denote treeTable (.call (.builtin id) args)) s q (.again (.builtin id args)) s q) (h2 : denote treeTable (.builtin id args) = B args)
    (h : ∀ F, GoesD p w F b (B args) s q (.done (.ret v)) s' q') : Goes p w (b₁ + b + 3) (runValue (.call (.builtin id) args)) s q v s' q := fun K H gd lv c r N e => by
  have hw (t : Sem Fin) : t.wrap Sem.pure Sem.raise (fun x => x) (fun x => x) = t := by
    have := Sem.bind_eq_wrap t Sem.pure
    exact this.symm.trans (show t >>= Pure.pure = t from bind_pure _)
  rw [show b₁ + b + 3 + N = (b₁ + ((b + (N + 1)) + 1)) + 1 by omega]
  obtain ⟨heap, gens, drawn, toks, os⟩ := s
  show seg p w (b₁ + ((b + (N + 1)) + 1)) ⟨heap, gens, drawn, toks, os⟩ ⟨denote treeTable (.call (.builtin id) args), .call (.builtin id) args, q, _ :: B0⟩ = some r
  rw [← hw (denote treeTable (.call (.builtin id) args))]
  refine h1 _ Sem.pure Sem.raise _ _ _ r _ ?_
  rw [seg_again hid, h2, ← hw (B args)]
  exact h _ Sem.pure Sem.raise _ _ _ r (N + 1) e
theorem typeOf_goes {a : Addr} {o : Obj} (ho : s.heap.get? a = some o) : Goes p w 1 (typeOf (.ref a)) s q o.cls s q := Goes.bind (b₁ := 1) (b₂ := 0) (Goes.loadPart ho) Goes.pure
abbrev lst (xs : Array Value) : Obj := ⟨.type "list", none, .seq xs 0, #[]⟩
theorem add_builtin {a c : Addr} {xs ys : Array Value} (ha : s.heap.get? a = some (lst xs)) (hc : s.heap.get? c = some (lst ys)) (hz : (xs ++ ys).size ≤ sizeLine) (F : Frame) :
    GoesD p w F 4 (Builtin.«list.__add__» ⟨[.ref a, .ref c], []⟩) s q (.done (.ret (.ref s.heap.objs.size))) { s with heap := s.heap.push (lst (xs ++ ys)) } q := by
  unfold Builtin.«list.__add__»
  refine GoesD.bind (b₁ := 0) (b₂ := 4) (m := slotArgs "__add__" 1 ⟨[.ref a, .ref c], []⟩) (a := (.ref a, [.ref c])) (GoesD.of_eq (by kernel_rfl) GoesD.pure) ?_
  refine GoesD.bind (b₁ := 1) (b₂ := 3) (m := isInstance (.ref c) (.type "list")) (a := true) (s₁ := s) (q₁ := q) ?_ ?_
  · exact GoesD.bind (b₁ := 1) (b₂ := 0) (m := typeOf (.ref c)) (a := .type "list") (GoesD.bind (b₁ := 1) (b₂ := 0) (GoesD.loadPart hc) GoesD.pure) (GoesD.of_eq (by kernel_rfl) GoesD.pure)
  · show GoesD p w F 3 (do
      let x ← Builtin.List.listItems (.ref a)
      let y ← Builtin.List.listItems (.ref c)
      let v ← newObj (.type "list") (.seq (x ++ y))
      ret v) s q _ _ q
    have it {d : Addr} {zs : Array Value} (hd : s.heap.get? d = some (lst zs)) : GoesD p w F 1 (Builtin.List.listItems (.ref d)) s q zs s q := by
      unfold Builtin.List.listItems
      exact GoesD.bind (b₁ := 1) (b₂ := 0) (GoesD.bind (b₁ := 1) (b₂ := 0) (GoesD.loadPart hd) GoesD.pure) GoesD.pure
    refine GoesD.bind (b₁ := 1) (b₂ := 2) (it ha) (GoesD.bind (b₁ := 1) (b₂ := 1) (it hc) (GoesD.bind (b₁ := 1) (b₂ := 0) (a := .ref s.heap.objs.size) ?_ GoesD.pure))
    have e : newObj (.type "list") (.seq (xs ++ ys)) = (do let a ← alloc (lst (xs ++ ys)); pure (.ref a) : Sem Value) := by
      unfold newObj
      simp only
      rw [if_neg (by omega)]
      rfl
    rw [e]
    exact GoesD.bind (b₁ := 1) (b₂ := 0) GoesD.alloc GoesD.pure
theorem add_goes {a c : Addr} {xs ys : Array Value} (ha : s.heap.get? a = some (lst xs)) (hc : s.heap.get? c = some (lst ys)) (hz : (xs ++ ys).size ≤ sizeLine) :
    Goes p w 12 (binaryOp .Add (.ref a) (.ref c)) s q (.ref s.heap.objs.size) { s with heap := s.heap.push (lst (xs ++ ys)) } q := by
  unfold binaryOp
  refine Goes.holding ?_
  refine Goes.bind (b₁ := 2) (b₂ := 10) (m := binaryOp1 Operator.Add.info.2 (.ref a) (.ref c)) (a := none) (s₁ := s) (q₁ := q) ?_ ?_
  · unfold binaryOp1
    exact Goes.bind (b₁ := 1) (b₂ := 1) (typeOf_goes ha) (Goes.bind (b₁ := 1) (b₂ := 0) (typeOf_goes hc) (Goes.of_eq (by kernel_rfl) Goes.pure))
  · refine Goes.bind (b₁ := 1) (b₂ := 9) (m := typeOf (.ref a)) (a := .type "list") (s₁ := s) (q₁ := q) (typeOf_goes ha) ?_
    refine Goes.bind (b₁ := 0) (b₂ := 9) (m := seqSlot? (.type "list") "__add__") (a := some (.builtin "list.__add__")) (s₁ := s) (q₁ := q) (Goes.of_eq (by kernel_rfl) Goes.pure) ?_
    refine Goes.bind (b₁ := 1) (b₂ := 8) (m := rule "binop.sequence-concat") (a := ()) (s₁ := s) (q₁ := q) Goes.rule ?_
    exact Goes.callB (b₁ := 1) (b := 4) (id := "list.__add__") (args := ⟨[.ref a, .ref c], []⟩) (B := Builtin.«list.__add__») (by kernel_rfl) (fun F => GoesD.first (b := 0) (a := a) (part := some headPart) (by kernel_rfl) ha (GoesD.of_eq (by kernel_rfl) GoesD.pure)) (by kernel_rfl) (add_builtin ha hc hz)
theorem operate_refs {a c d : Addr} {m : Sem Value} (h : Goes p w b m s q (.ref d) s' q') : Goes p w (b + 1) (operate [.ref a, .ref c] m) s q (.ref d) s' q' := by
  unfold operate
  refine Goes.bind (b₁ := b) (b₂ := 1) h.holding (Goes.bind (b₁ := 1) (b₂ := 0) (a := ()) ?_ Goes.pure)
  exact Goes.bind (b₁ := 1) (b₂ := 0) Goes.point.holding Goes.pure
end
section
variable {p : Program} {w : World} {pre : List Obj} {st : St} {os : OsState} {q : Pos} {env : Env}
theorem load_module {x : Str} (hm : env.scope.kind = .module) (ok : EnvOk env) : loadName env x = loadGlobal env x := by
  have hb : env.blockKind = .module := by unfold Env.blockKind; rw [hm]; rfl
  unfold loadName
  simp only [hm, hb, ok.l, ok.g]
  rfl
theorem get_more {a : Addr} {o : Obj} {more : List Obj} (h : (st.sh pre os).heap.get? a = some o) : (({ st with mid := st.mid ++ more } : St).sh pre os).heap.get? a = some o := by
  have hlt : a < (st.sh pre os).heap.objs.size := Heap.lt_size h
  have e : (({ st with mid := st.mid ++ more } : St).sh pre os).heap.objs[a]? = (st.sh pre os).heap.objs[a]? := by
    show ((pre.set 3 (nsObj st.es st.n) ++ (st.mid ++ more)).toArray)[a]? = ((pre.set 3 (nsObj st.es st.n) ++ st.mid).toArray)[a]?
    have hlt' : a < (pre.set 3 (nsObj st.es st.n) ++ st.mid).length := by simpa [St.sh] using hlt
    rw [List.getElem?_toArray, List.getElem?_toArray, ← List.append_assoc, List.getElem?_append_left hlt']
  unfold Heap.get? at h ⊢
  rw [e]; exact h
theorem get_last {o : Obj} (hp : pre.length = 47) (hf : o.isFreed = false) : (({ st with mid := st.mid ++ [o] } : St).sh pre os).heap.get? st.addr = some o := by
  have e : (({ st with mid := st.mid ++ [o] } : St).sh pre os).heap.objs[st.addr]? = some o := by
    show ((pre.set 3 (nsObj st.es st.n) ++ (st.mid ++ [o])).toArray)[st.addr]? = some o
    rw [List.getElem?_toArray, ← List.append_assoc, List.getElem?_append_right (by simp [St.addr, hp])]
    simp [St.addr, hp]
  unfold Heap.get?
  rw [e]
  revert hf
  obtain ⟨c, d, dt, sl⟩ := o
  cases dt <;> intro hf <;> first | rfl | cases hf
/-- a sum of names, the last one first -/
def sumR : Expr → Option (List Str)
  | .Name x _ => some [x]
  | .BinOp l .Add (.Name x _) _ => (sumR l).map (x :: ·)
  | _ => none
abbrev Tb := Str × Addr × Array Value
def accR : List Tb → Array Value
  | [] => #[]
  | [x] => x.2.2
  | x :: r => accR r ++ x.2.2
def objsR : List Tb → List Obj
  | [] => []
  | [_] => []
  | x :: r => objsR r ++ [lst (accR r ++ x.2.2)]
def valR (a : Addr) : List Tb → Addr
  | [] => 0
  | [x] => x.2.1
  | _ :: r => a + (objsR r).length
theorem sum_goes (ok : EnvOk env) (hm : env.scope.kind = .module) (hp : pre.length = 47) : ∀ (e : Expr) (L : List Tb) (q : Pos), sumR e = some (L.map (·.1)) → (L.all fun x => !(x.1 == ("__debug__" : Str))) = true →
    (∀ x ∈ L, (∃ y, st.es.find? (·.key.isStr x.1) = some y ∧ y.val = .ref x.2.1) ∧ (st.sh pre os).heap.get? x.2.1 = some (lst x.2.2)) → (accR L).size ≤ sizeLine →
    ∃ q', Goes p w (20 * L.length) (eval e env) (st.sh pre os) q (.ref (valR st.addr L)) (({ st with mid := st.mid ++ objsR L } : St).sh pre os) q' ∧ (({ st with mid := st.mid ++ objsR L } : St).sh pre os).heap.get? (valR st.addr L) = some (lst (accR L))
  | e, [], q, h, _, _, _ => by
    exfalso
    unfold sumR at h
    split at h
    · cases h
    · obtain ⟨y, _, h⟩ := Option.map_eq_some_iff.mp h; cases h
    · cases h
  | e, [x], q, h, hd, hx, _ => by
    obtain ⟨⟨y, hy, hv⟩, hg⟩ := hx x (by simp)
    have hd' : (x.1 == ("__debug__" : Str)) = false := by simpa using hd
    unfold sumR at h
    split at h
    · rename_i n pos
      obtain rfl : n = x.1 := by simpa using h
      refine ⟨pos, ?_, ?_⟩
      · simp only [objsR, List.append_nil, valR]
        exact (hv ▸ name_goes hd' (load_module hm ok) ok hp hy).le (by simp)
      · simp only [objsR, List.append_nil, valR, accR]; exact hg
    · rename_i l n _ _
      obtain ⟨ys, hy, h⟩ := Option.map_eq_some_iff.mp h
      simp at h
      obtain ⟨_, h⟩ := h
      subst h
      exfalso
      revert hy
      unfold sumR
      split
      · simp
      · intro hy
        obtain ⟨_, _, h⟩ := Option.map_eq_some_iff.mp hy; cases h
      · simp
    · cases h
  | e, x :: x' :: r, q, h, hd, hx, hz => by
    obtain ⟨⟨y, hy, hv⟩, hg⟩ := hx x (by simp)
    have hd0 : (x.1 == ("__debug__" : Str)) = false := by
      simp only [List.all_cons, Bool.and_eq_true, Bool.not_eq_true'] at hd; exact hd.1
    have hd1 : ((x' :: r).all fun x => !(x.1 == ("__debug__" : Str))) = true := by
      simp only [List.all_cons, Bool.and_eq_true] at hd ⊢; exact hd.2
    unfold sumR at h
    split at h
    · simp at h
    · rename_i l n npos pos
      obtain ⟨ys, hys, h⟩ := Option.map_eq_some_iff.mp h
      simp only [List.map_cons, List.cons.injEq] at h
      obtain ⟨rfl, h'⟩ := h
      obtain ⟨q₁, g, gv⟩ := sum_goes ok hm hp l (x' :: r) q (by rw [hys]; exact congrArg some h') hd1 (fun z hz => hx z (by simp at hz ⊢; right; exact hz)) (by
        have : accR (x :: x' :: r) = accR (x' :: r) ++ x.2.2 := rfl
        rw [this, Array.size_append] at hz; omega)
      refine ⟨pos, ?_, ?_⟩
      · rw [eval_BinOp]
        refine (Goes.bind (b₁ := 20 * (x' :: r).length) (b₂ := 2 + (1 + (12 + 1))) g (Goes.bind (b₁ := 2) (b₂ := 1 + (12 + 1)) (a := Value.ref x.2.1) (Goes.holding (hv ▸ name_goes (st := { st with mid := st.mid ++ objsR (x' :: r) }) hd0 (load_module hm ok) ok hp hy)) (Goes.bind (b₁ := 1) (b₂ := 12 + 1) Goes.standAt ?_))).le (by simp; omega)
        have ad := add_goes (p := p) (w := w) (q := pos) gv (get_more (more := objsR (x' :: r)) hg) hz
        have hs := size_sh (pre := pre) (st := { st with mid := st.mid ++ objsR (x' :: r) }) (os := os) hp
        rw [hs, push_sh] at ad
        have ev : valR st.addr (x :: x' :: r) = St.addr { st with mid := st.mid ++ objsR (x' :: r) } := by
          simp [valR, St.addr, Nat.add_assoc]
        have eo : st.mid ++ objsR (x :: x' :: r) = st.mid ++ objsR (x' :: r) ++ [lst (accR (x' :: r) ++ x.2.2)] := by
          simp [objsR]
        rw [ev, eo]
        exact operate_refs ad
      · have ev : valR st.addr (x :: x' :: r) = St.addr { st with mid := st.mid ++ objsR (x' :: r) } := by
          simp [valR, St.addr, Nat.add_assoc]
        have eo : st.mid ++ objsR (x :: x' :: r) = st.mid ++ objsR (x' :: r) ++ [lst (accR (x' :: r) ++ x.2.2)] := by
          simp [objsR]
        rw [ev, eo]
        exact get_last (st := { st with mid := st.mid ++ objsR (x' :: r) }) hp rfl
    · cases h
/-- a display of ints alone -/
def intE : Expr → Option Int
  | .Constant (.int i) _ _ => some i
  | _ => none
def intsFrom : List Int → Nat → List Value
  | [], _ => []
  | i :: r, n => .int i n :: intsFrom r (n + 1)
theorem intsFrom_length : ∀ (l : List Int) (n : Nat), (intsFrom l n).length = l.length
  | [], _ => rfl
  | i :: r, n => by simp [intsFrom, intsFrom_length r]
theorem spliced_ints {pos : Pos} : ∀ (es : List Expr) (l : List Int) (st : St), es.map intE = l.map some →
    Goes p w es.length (spliced (backTo pos (starEach es env))) (st.sh pre os) q (intsFrom l st.tok) (({ st with tok := st.tok + l.length } : St).sh pre os) q
  | [], [], st, _ => Goes.pure
  | [], _ :: _, _, h => by cases h
  | _ :: _, [], _, h => by cases h
  | e :: es, i :: l, st, h => by
    simp only [List.map_cons, List.cons.injEq] at h
    obtain ⟨k, pos', rfl⟩ : ∃ k pos', e = .Constant (.int i) k pos' := by
      have := h.1
      unfold intE at this
      split at this
      · cases this; exact ⟨_, _, rfl⟩
      · cases this
    have ih := spliced_ints (pos := pos) es l ({ st with tok := st.tok + 1 } : St) h.2
    have := spliced_one (b₁ := 1) (const_goes (k := k) (pos := pos') (st := st) (i := i) (q := q) (env := env) (p := p) (w := w) (pre := pre) (os := os)) ih
    simp only [List.length_cons]
    rw [Nat.add_comm es.length 1, show st.tok + (l.length + 1) = st.tok + 1 + l.length by omega]
    exact this
end
end Mine
end

section
open PySem PySem.W PySem.Calls PyProof.Rows
namespace Mine
set_option maxRecDepth 100000
section
variable {p : Program} {w : World} {pre : List Obj} {st : St} {os : OsState} {q : Pos} {env : Env}
theorem assign_goes {x : Str} {pos' pos q₁ : Pos} {e : Expr} {st₁ : St} {v : Value} {b : Nat} (hsw : swapsWith e (some (.Name x pos')) pos.line env = pure false) (g : Goes p w b (eval e env) (st.sh pre os) pos v (st₁.sh pre os) q₁)
    (ok : EnvOk env) (hm : env.scope.kind = .module) (hk : env.kindOf x = some .local) (no : NsOk st₁.es) (hx : st₁.es.any (·.key.isStr x) = false) (hp : pre.length = 47) :
    Goes p w (b + 9) (exec (.Assign [.Name x pos'] e pos) env) (st.sh pre os) q .next (({ st₁ with es := st₁.es ++ [⟨PyData.keyHash w.params x, .str x st₁.tok, v⟩], n := st₁.n + 1, tok := st₁.tok + 1 } : St).sh pre os) pos' := by
  rw [exec_Assign_Name env x pos' e pos hsw]
  refine (Goes.bind (b₁ := 1) (b₂ := b + 7) Goes.standAt (Goes.bind (b₁ := b) (b₂ := 7) g (Goes.bind (b₁ := 1) (b₂ := 6) Goes.standAt (Goes.bind (b₁ := 6) (b₂ := 0) (a := ()) (d := Flow.next) (f := fun _ => pure Flow.next) (mkEntry no hx (store_local hk hm ok.l ok.g) hp) Goes.pure)))).le (by omega)
theorem ints_goes {es : List Expr} {pos : Pos} {l : List Int} (h : es.map intE = l.map some) (hl : l.length ≤ 1000) (hp : pre.length = 47) :
    Goes p w (es.length + 2) (eval (.List es pos) env) (st.sh pre os) q (.ref st.addr) (({ st with mid := st.mid ++ [lst (intsFrom l st.tok).toArray], tok := st.tok + l.length } : St).sh pre os) pos := by
  rw [arm_eval_List]
  refine (Goes.bind (b₁ := 1) (b₂ := es.length + 1) Goes.standAt (Goes.bind (b₁ := es.length) (b₂ := 1) (spliced_ints es l st h) ?_)).le (by omega)
  exact newSeq_goes (st := { st with tok := st.tok + l.length }) (by rw [intsFrom_length, sizeLine_eq]; omega) hp
theorem goes_top {c : Code} {s : Stmt} {s₁ s₂ : Shared} {q' : Pos} {b N : Nat} {rest : List Stmt} {r : Shared} (g : Goes p w b (exec s env) s₁ q .next s₂ q')
    (k : topRun treeTable p w 11 (some (.ref 6)) N s₂ (restOf rest env c q' B0) = some r) : topRun treeTable p w 11 (some (.ref 6)) (b + 1 + N) s₁ (restOf (s :: rest) env c q B0) = some r := by
  have e : seg p w (b + 1) s₁ (pieceOf s env c q B0) = some (.next, s₂, c, q') := g doneF deadEnd id id c _ 1 rfl
  exact piece_cons (q := ⟨0, 0, 0, 0⟩) e k
end
noncomputable section
theorem tups_128 : (tabStmts.all fun s => Nat.beq (tupsOf s).length 128) = true := by kernel_rfl
theorem mids_list : ∀ (l : List Stmt) (a n t : Nat), (l.all fun s => Nat.beq (tupsOf s).length 128) = true → t < l.length → (mids l a n)[129 * t + 128]? = some (listObj (a + 129 * t) 128)
  | [], _, _, _, _, h => by simp at h
  | s :: l, a, n, t, hs, ht => by
    simp only [List.all_cons, Bool.and_eq_true] at hs
    have h8 : (tupsOf s).length = 128 := Nat.eq_of_beq_eq_true hs.1
    have hl : (layObjsT (tupsOf s) n).length = 128 := by rw [layObjsT_length, h8]
    unfold mids
    rw [List.getElem?_append_right (by omega), hl, h8]
    cases t with
    | zero => simp
    | succ t =>
      rw [show 129 * (t + 1) + 128 - 128 = (129 * t + 128) + 1 by omega, List.getElem?_cons_succ]
      rw [mids_list l (a + 128 + 1) _ t hs.2 (by simpa using ht)]
      congr 2; omega
def refsA (t : Nat) : Array Value := (refsFrom (47 + 129 * t) 128).toArray
def stmtAt (i : Nat) : Stmt := (body0[i]?).getD (.Pass default)
def tbAt (t : Nat) : Tb := (nameOfT (stmtAt (8 + t)), 175 + 129 * t, refsA t)
def tbs : List Tb := (List.range 32).reverse.map tbAt
def stT (P : Params) : St := ⟨esT P, 47, midT, 9736⟩
theorem tables_st (P : Params) : layAll P tabStmts (st0 P) = stT P := by
  rw [layAll_flat]
  have hl : tabStmts.length = 32 := by kernel_rfl
  simp only [st0, St.addr, List.length_nil, Nat.add_zero, List.nil_append, hl, tok_T]
  rfl
def assignVal : Stmt → Expr
  | .Assign _ e _ => e
  | _ => .Constant .none 0 default
def assignPos : Stmt → Pos
  | .Assign _ _ p => p
  | _ => default
theorem get_tab (P : Params) (os : OsState) {t : Nat} (ht : t < 32) : ((stT P).sh (preObjs P) os).heap.get? (175 + 129 * t) = some (lst (refsA t)) := by
  have e : ((stT P).sh (preObjs P) os).heap.objs[175 + 129 * t]? = some (lst (refsA t)) := by
    show (((preObjs P).set 3 (nsObj (esT P) 47) ++ midT).toArray)[175 + 129 * t]? = _
    rw [List.getElem?_toArray, List.getElem?_append_right (by simp [pre_len]; omega), List.length_set, pre_len, show 175 + 129 * t - 47 = 129 * t + 128 by omega]
    have hl : tabStmts.length = 32 := by kernel_rfl
    exact mids_list tabStmts 47 251 t tups_128 (by omega)
  unfold Heap.get?
  rw [e]
theorem tbs_ns (P : Params) : (tbs.all fun x => match (esT P).find? (·.key.isStr x.1) with | some y => (match y.val with | .ref a => Nat.beq a x.2.1 | _ => false) | none => false) = true := by kernel_rfl
theorem tbs_debug : (tbs.all fun x => !(x.1 == ("__debug__" : Str))) = true := by kernel_rfl
theorem tbs_sum : sumR (assignVal (stmtAt 40)) = some (tbs.map (·.1)) := by kernel_rfl
theorem accR_size : ∀ (L : List Tb), (∀ x ∈ L, x.2.2.size = 128) → (accR L).size = 128 * L.length
  | [], _ => rfl
  | [x], h => by simp [accR, h]
  | x :: x' :: r, h => by
    have := accR_size (x' :: r) (fun z hz => h z (by simp at hz ⊢; right; exact hz))
    show (accR (x' :: r) ++ x.2.2).size = _
    rw [Array.size_append, this, h x (by simp)]
    simp; omega
theorem esT_ok (P : Params) : NsOk (esT P) := by
  refine ⟨⟨(es0 P)[12]?.getD default, by kernel_rfl, by kernel_rfl⟩, ⟨(es0 P)[13]?.getD default, by kernel_rfl, by kernel_rfl⟩, ⟨(es0 P)[14]?.getD default, by kernel_rfl, by kernel_rfl⟩, by kernel_rfl⟩
abbrev sTab : Str := Str.ofString "HUFFMAN_TABLE"
abbrev sCod : Str := Str.ofString "REQUEST_CODES"
abbrev sLen : Str := Str.ofString "REQUEST_CODES_LENGTH"
def codes : List Int := match assignVal (stmtAt 41) with | .List es _ => es.filterMap intE | _ => []
def lens : List Int := match assignVal (stmtAt 42) with | .List es _ => es.filterMap intE | _ => []
def listElts : Expr → List Expr
  | .List es _ => es
  | _ => []
def esA (P : Params) : List DictEntry := esT P ++ [⟨PyData.keyHash P sTab, .str sTab 9736, .ref 4205⟩]
def esB (P : Params) : List DictEntry := esA P ++ [⟨PyData.keyHash P sCod, .str sCod 9994, .ref 4206⟩]
def esC (P : Params) : List DictEntry := esB P ++ [⟨PyData.keyHash P sLen, .str sLen 10252, .ref 4207⟩]
def stA (P : Params) : St := ⟨esA P, 48, midT ++ objsR tbs, 9737⟩
def stB (P : Params) : St := ⟨esB P, 49, midT ++ objsR tbs ++ [lst (intsFrom codes 9737).toArray], 9995⟩
def stC (P : Params) : St := ⟨esC P, 50, midT ++ objsR tbs ++ [lst (intsFrom codes 9737).toArray] ++ [lst (intsFrom lens 9995).toArray], 10253⟩
theorem cats_len : (objsR tbs).length = 31 := by kernel_rfl
theorem val_4205 : valR 4175 tbs = 4205 := by kernel_rfl
theorem codes_len : codes.length = 257 := by kernel_rfl
theorem lens_len : lens.length = 257 := by kernel_rfl
theorem goes_A (w : World) (os : OsState) (q : Pos) : Goes pw w 700 (exec (stmtAt 40) sh.env_1) ((stT w.params).sh (preObjs w.params) os) q .next ((stA w.params).sh (preObjs w.params) os) ⟨68, 0, 68, 13⟩ := by
  obtain ⟨q', g, _⟩ := sum_goes (p := pw) (w := w) (pre := preObjs w.params) (st := stT w.params) (os := os) env_ok env_mod (pre_len _) (assignVal (stmtAt 40)) tbs (assignPos (stmtAt 40)) tbs_sum tbs_debug (fun x hx => by
    have h1 := List.all_eq_true.mp (tbs_ns w.params) x hx
    refine ⟨?_, ?_⟩
    · show ∃ y, (esT w.params).find? (·.key.isStr x.1) = some y ∧ y.val = .ref x.2.1
      revert h1
      cases (esT w.params).find? (·.key.isStr x.1) with
      | none => intro h1; cases h1
      | some y =>
        intro h1
        refine ⟨y, rfl, ?_⟩
        revert h1
        show (match y.val with | .ref a => Nat.beq a x.2.1 | _ => false) = true → _
        cases y.val <;> intro h1 <;> first | cases h1 | (rw [Nat.eq_of_beq_eq_true h1])
    · obtain ⟨t, ht, rfl⟩ := List.mem_map.mp hx
      exact get_tab _ _ (by simpa using ht)) (by
    rw [accR_size tbs (fun x hx => by
      obtain ⟨t, ht, rfl⟩ := List.mem_map.mp hx
      simp [tbAt, refsA, refsFrom]), sizeLine_eq]
    simp [tbs])
  have ha : St.addr (stT w.params) = 4175 := by simp [St.addr, stT, midT_len]
  rw [ha, val_4205] at g
  have := assign_goes (q := q) (x := sTab) (pos' := ⟨68, 0, 68, 13⟩) (pos := assignPos (stmtAt 40)) (e := assignVal (stmtAt 40)) (by kernel_rfl) g env_ok env_mod (by kernel_rfl) (esT_ok _) (by kernel_rfl) (pre_len _)
  have hs : stmtAt 40 = .Assign [.Name sTab ⟨68, 0, 68, 13⟩] (assignVal (stmtAt 40)) (assignPos (stmtAt 40)) := by kernel_rfl
  rw [hs]
  exact this.le (by simp [tbs])
theorem goes_B (w : World) (os : OsState) (q : Pos) : Goes pw w 300 (exec (stmtAt 41) sh.env_1) ((stA w.params).sh (preObjs w.params) os) q .next ((stB w.params).sh (preObjs w.params) os) ⟨69, 0, 69, 13⟩ := by
  have hs : stmtAt 41 = .Assign [.Name sCod ⟨69, 0, 69, 13⟩] (.List (listElts (assignVal (stmtAt 41))) ⟨69, 16, 69, 2057⟩) (assignPos (stmtAt 41)) := by kernel_rfl
  have hl : (listElts (assignVal (stmtAt 41))).length = 257 := by kernel_rfl
  have g := ints_goes (p := pw) (w := w) (pre := preObjs w.params) (st := stA w.params) (os := os) (q := assignPos (stmtAt 41)) (env := sh.env_1) (es := listElts (assignVal (stmtAt 41))) (pos := ⟨69, 16, 69, 2057⟩) (l := codes) (by kernel_rfl) (by rw [codes_len]; omega) (pre_len _)
  have ha : St.addr (stA w.params) = 4206 := by simp [St.addr, stA, midT_len, cats_len]
  rw [ha] at g
  have := assign_goes (q := q) (x := sCod) (pos' := ⟨69, 0, 69, 13⟩) (pos := assignPos (stmtAt 41)) (by rfl) g env_ok env_mod (by kernel_rfl) ((esT_ok _).more rfl) (by kernel_rfl) (pre_len _)
  rw [codes_len] at this
  rw [hs]
  exact this.le (by omega)
theorem goes_C (w : World) (os : OsState) (q : Pos) : Goes pw w 300 (exec (stmtAt 42) sh.env_1) ((stB w.params).sh (preObjs w.params) os) q .next ((stC w.params).sh (preObjs w.params) os) ⟨70, 0, 70, 20⟩ := by
  have hs : stmtAt 42 = .Assign [.Name sLen ⟨70, 0, 70, 20⟩] (.List (listElts (assignVal (stmtAt 42))) ⟨70, 23, 70, 977⟩) (assignPos (stmtAt 42)) := by kernel_rfl
  have hl : (listElts (assignVal (stmtAt 42))).length = 257 := by kernel_rfl
  have g := ints_goes (p := pw) (w := w) (pre := preObjs w.params) (st := stB w.params) (os := os) (q := assignPos (stmtAt 42)) (env := sh.env_1) (es := listElts (assignVal (stmtAt 42))) (pos := ⟨70, 23, 70, 977⟩) (l := lens) (by kernel_rfl) (by rw [lens_len]; omega) (pre_len _)
  have ha : St.addr (stB w.params) = 4207 := by simp [St.addr, stB, midT_len, cats_len]
  rw [ha] at g
  have := assign_goes (q := q) (x := sLen) (pos' := ⟨70, 0, 70, 20⟩) (pos := assignPos (stmtAt 42)) (by rfl) g env_ok env_mod (by kernel_rfl) (((esT_ok _).more rfl).more rfl) (by kernel_rfl) (pre_len _)
  rw [lens_len] at this
  rw [hs]
  exact this.le (by omega)
end
end Mine
end

section
open PySem PySem.W PySem.Calls PyProof.Rows
namespace Mine
set_option maxRecDepth 100000
noncomputable section
def nsF (P : Params) : List DictEntry := [
  ⟨PyData.keyHash P (Str.ofString "__name__"), .str (Str.ofString "__name__") 165, .str (Str.ofString "law_ln0015_01") 10253⟩,
  ⟨PyData.keyHash P (Str.ofString "__doc__"), .str (Str.ofString "__doc__") 166, .none⟩,
  ⟨PyData.keyHash P (Str.ofString "__package__"), .str (Str.ofString "__package__") 167, .none⟩,
  ⟨PyData.keyHash P (Str.ofString "__loader__"), .str (Str.ofString "__loader__") 168, .builtin "__main__.__loader__#opaque"⟩,
  ⟨PyData.keyHash P (Str.ofString "__spec__"), .str (Str.ofString "__spec__") 169, .none⟩,
  ⟨PyData.keyHash P (Str.ofString "__annotations__"), .str (Str.ofString "__annotations__") 170, .ref 6⟩,
  ⟨PyData.keyHash P (Str.ofString "__builtins__"), .str (Str.ofString "__builtins__") 171, .ref 4⟩,
  ⟨PyData.keyHash P (Str.ofString "__file__"), .str (Str.ofString "__file__") 173, .str (Str.ofString "/claim/cut.py") 172⟩,
  ⟨PyData.keyHash P (Str.ofString "__cached__"), .str (Str.ofString "__cached__") 174, .none⟩,
  ⟨PyData.keyHash P (Str.ofString "HPACKError"), .str (Str.ofString "HPACKError") 208, .ref 24⟩,
  ⟨PyData.keyHash P (Str.ofString "HPACKDecodingError"), .str (Str.ofString "HPACKDecodingError") 224, .ref 37⟩,
  ⟨PyData.keyHash P (Str.ofString "decode_huffman"), .str (Str.ofString "decode_huffman") 240, .ref 46⟩,
  ⟨PyData.keyHash P (Str.ofString "HUFFMAN_COMPLETE"), .str (Str.ofString "HUFFMAN_COMPLETE") 242, .int 1 241⟩,
  ⟨PyData.keyHash P (Str.ofString "HUFFMAN_EMIT_SYMBOL"), .str (Str.ofString "HUFFMAN_EMIT_SYMBOL") 246, .int 2 245⟩,
  ⟨PyData.keyHash P (Str.ofString "HUFFMAN_FAIL"), .str (Str.ofString "HUFFMAN_FAIL") 250, .int 4 249⟩,
  ⟨PyData.keyHash P (Str.ofString "_HUFFMAN_TABLE_00"), .str (Str.ofString "_HUFFMAN_TABLE_00") 560, .ref 175⟩,
  ⟨PyData.keyHash P (Str.ofString "_HUFFMAN_TABLE_01"), .str (Str.ofString "_HUFFMAN_TABLE_01") 857, .ref 304⟩,
  ⟨PyData.keyHash P (Str.ofString "_HUFFMAN_TABLE_02"), .str (Str.ofString "_HUFFMAN_TABLE_02") 1161, .ref 433⟩,
  ⟨PyData.keyHash P (Str.ofString "_HUFFMAN_TABLE_03"), .str (Str.ofString "_HUFFMAN_TABLE_03") 1452, .ref 562⟩,
  ⟨PyData.keyHash P (Str.ofString "_HUFFMAN_TABLE_04"), .str (Str.ofString "_HUFFMAN_TABLE_04") 1733, .ref 691⟩,
  ⟨PyData.keyHash P (Str.ofString "_HUFFMAN_TABLE_05"), .str (Str.ofString "_HUFFMAN_TABLE_05") 2043, .ref 820⟩,
  ⟨PyData.keyHash P (Str.ofString "_HUFFMAN_TABLE_06"), .str (Str.ofString "_HUFFMAN_TABLE_06") 2326, .ref 949⟩,
  ⟨PyData.keyHash P (Str.ofString "_HUFFMAN_TABLE_07"), .str (Str.ofString "_HUFFMAN_TABLE_07") 2622, .ref 1078⟩,
  ⟨PyData.keyHash P (Str.ofString "_HUFFMAN_TABLE_08"), .str (Str.ofString "_HUFFMAN_TABLE_08") 2917, .ref 1207⟩,
  ⟨PyData.keyHash P (Str.ofString "_HUFFMAN_TABLE_09"), .str (Str.ofString "_HUFFMAN_TABLE_09") 3218, .ref 1336⟩,
  ⟨PyData.keyHash P (Str.ofString "_HUFFMAN_TABLE_10"), .str (Str.ofString "_HUFFMAN_TABLE_10") 3511, .ref 1465⟩,
  ⟨PyData.keyHash P (Str.ofString "_HUFFMAN_TABLE_11"), .str (Str.ofString "_HUFFMAN_TABLE_11") 3821, .ref 1594⟩,
  ⟨PyData.keyHash P (Str.ofString "_HUFFMAN_TABLE_12"), .str (Str.ofString "_HUFFMAN_TABLE_12") 4119, .ref 1723⟩,
  ⟨PyData.keyHash P (Str.ofString "_HUFFMAN_TABLE_13"), .str (Str.ofString "_HUFFMAN_TABLE_13") 4426, .ref 1852⟩,
  ⟨PyData.keyHash P (Str.ofString "_HUFFMAN_TABLE_14"), .str (Str.ofString "_HUFFMAN_TABLE_14") 4722, .ref 1981⟩,
  ⟨PyData.keyHash P (Str.ofString "_HUFFMAN_TABLE_15"), .str (Str.ofString "_HUFFMAN_TABLE_15") 5011, .ref 2110⟩,
  ⟨PyData.keyHash P (Str.ofString "_HUFFMAN_TABLE_16"), .str (Str.ofString "_HUFFMAN_TABLE_16") 5320, .ref 2239⟩,
  ⟨PyData.keyHash P (Str.ofString "_HUFFMAN_TABLE_17"), .str (Str.ofString "_HUFFMAN_TABLE_17") 5609, .ref 2368⟩,
  ⟨PyData.keyHash P (Str.ofString "_HUFFMAN_TABLE_18"), .str (Str.ofString "_HUFFMAN_TABLE_18") 5892, .ref 2497⟩,
  ⟨PyData.keyHash P (Str.ofString "_HUFFMAN_TABLE_19"), .str (Str.ofString "_HUFFMAN_TABLE_19") 6203, .ref 2626⟩,
  ⟨PyData.keyHash P (Str.ofString "_HUFFMAN_TABLE_20"), .str (Str.ofString "_HUFFMAN_TABLE_20") 6486, .ref 2755⟩,
  ⟨PyData.keyHash P (Str.ofString "_HUFFMAN_TABLE_21"), .str (Str.ofString "_HUFFMAN_TABLE_21") 6790, .ref 2884⟩,
  ⟨PyData.keyHash P (Str.ofString "_HUFFMAN_TABLE_22"), .str (Str.ofString "_HUFFMAN_TABLE_22") 7089, .ref 3013⟩,
  ⟨PyData.keyHash P (Str.ofString "_HUFFMAN_TABLE_23"), .str (Str.ofString "_HUFFMAN_TABLE_23") 7396, .ref 3142⟩,
  ⟨PyData.keyHash P (Str.ofString "_HUFFMAN_TABLE_24"), .str (Str.ofString "_HUFFMAN_TABLE_24") 7686, .ref 3271⟩,
  ⟨PyData.keyHash P (Str.ofString "_HUFFMAN_TABLE_25"), .str (Str.ofString "_HUFFMAN_TABLE_25") 7979, .ref 3400⟩,
  ⟨PyData.keyHash P (Str.ofString "_HUFFMAN_TABLE_26"), .str (Str.ofString "_HUFFMAN_TABLE_26") 8276, .ref 3529⟩,
  ⟨PyData.keyHash P (Str.ofString "_HUFFMAN_TABLE_27"), .str (Str.ofString "_HUFFMAN_TABLE_27") 8573, .ref 3658⟩,
  ⟨PyData.keyHash P (Str.ofString "_HUFFMAN_TABLE_28"), .str (Str.ofString "_HUFFMAN_TABLE_28") 8873, .ref 3787⟩,
  ⟨PyData.keyHash P (Str.ofString "_HUFFMAN_TABLE_29"), .str (Str.ofString "_HUFFMAN_TABLE_29") 9170, .ref 3916⟩,
  ⟨PyData.keyHash P (Str.ofString "_HUFFMAN_TABLE_30"), .str (Str.ofString "_HUFFMAN_TABLE_30") 9456, .ref 4045⟩,
  ⟨PyData.keyHash P (Str.ofString "_HUFFMAN_TABLE_31"), .str (Str.ofString "_HUFFMAN_TABLE_31") 9735, .ref 4174⟩,
  ⟨PyData.keyHash P (Str.ofString "HUFFMAN_TABLE"), .str (Str.ofString "HUFFMAN_TABLE") 9736, .ref 4205⟩,
  ⟨PyData.keyHash P (Str.ofString "REQUEST_CODES"), .str (Str.ofString "REQUEST_CODES") 9994, .ref 4206⟩,
  ⟨PyData.keyHash P (Str.ofString "REQUEST_CODES_LENGTH"), .str (Str.ofString "REQUEST_CODES_LENGTH") 10252, .ref 4207⟩,
  ⟨PyData.keyHash P (Str.ofString "_law_read"), .str (Str.ofString "_law_read") 10268, .ref 4214⟩,
  ⟨PyData.keyHash P (Str.ofString "law"), .str (Str.ofString "law") 10274, .ref 4219⟩]
def o12F : Obj := ⟨.none, none, .fields #[.int 2 0, .int 0 0, .ref 20, .int 4 0, .int 0 0, .ref 33, .int 7 0, .int 0 0, .ref 45, .int 72 0, .int 0 0, .ref 4213, .int 90 0, .int 0 0, .ref 4218], #[]⟩
def defArgs : Stmt → Arguments
  | .FunctionDef _ a _ _ _ _ _ _ _ _ => a
  | _ => default
def defBody : Stmt → List Stmt
  | .FunctionDef _ _ b _ _ _ _ _ _ _ => b
  | _ => []
def defScope : Stmt → Scope
  | .FunctionDef _ _ _ _ _ _ sc _ _ _ => sc
  | _ => default
abbrev tup0 : Obj := ⟨.type "tuple", none, .seq #[] 0, #[]⟩
abbrev fld0 : Obj := ⟨.none, none, .fields #[], #[]⟩
def tmplObj (name : Str) (s : Stmt) : Obj := ⟨.none, none, .func { name := name, qualname := name, params := defArgs s, body := .stmts (defBody s), scope := defScope s, globals := 0, closure := [], defaults := .none, kwdefaults := .none }, #[]⟩
def fnObj (name : Str) (s : Stmt) (cd : Addr) : Obj := ⟨.type "function", none, .func { name := name, qualname := name, params := defArgs s, body := .stmts (defBody s), scope := defScope s, globals := 3, closure := [], defaults := .none, kwdefaults := .none, pyModule := .str (Str.ofString "law_ln0015_01") 10253, code := .ref cd }, #[]⟩
def codeRead : Obj := ⟨.type "code", none, .fields #[.str (Str.ofString "_law_read") 10255, .str (Str.ofString "_law_read") 10256, .str (Str.ofString "/claim/cut.py") 10257, .int 72 0, .int 1 0, .int 0 0, .int 0 0, .int 3 0, .ref 4208, .bool true, .int 181 0, .ref 4209, .none, .ref 4210, .ref 4211, .ref 4212, .int 10266 0, .int 72 0, .str (Str.ofString "/claim/cut.py") 10267], #[]⟩
def codeLaw : Obj := ⟨.type "code", none, .fields #[.str (Str.ofString "law") 10269, .str (Str.ofString "law") 10270, .str (Str.ofString "/claim/cut.py") 10271, .int 90 0, .int 1 0, .int 0 0, .int 0 0, .int 3 0, .ref 4215, .bool true, .int 181 0, .ref 4216, .none, .none, .none, .ref 4217, .int 10272 0, .int 90 0, .str (Str.ofString "/claim/cut.py") 10273], #[]⟩
def lastObjs : List Obj := [tup0, fld0,
  ⟨.type "tuple", none, .seq #[.str (Str.ofString "octets") 10258, .str (Str.ofString "places") 10259, .str (Str.ofString "sign") 10260, .str (Str.ofString "read") 10261, .str (Str.ofString "size") 10262, .str (Str.ofString "value") 10263, .str (Str.ofString "octet") 10264, .str (Str.ofString "place") 10265] 0, #[]⟩,
  tup0, tmplObj (Str.ofString "_law_read") (stmtAt 44), codeRead,
  fnObj (Str.ofString "_law_read") (stmtAt 44) 4213, tup0, fld0, tmplObj (Str.ofString "law") (stmtAt 45), codeLaw,
  fnObj (Str.ofString "law") (stmtAt 45) 4218]
def insAll : BT → Nat → List Obj → BT
  | t, _, [] => t
  | t, n, o :: r => insAll (t.ins n o) (n + 1) r
def objsC (P : Params) : List Obj := (preObjs P).set 3 (nsObj (esC P) 50) ++ (stC P).mid
theorem objsC_len (P : Params) : (objsC P).length = 4208 := by simp [objsC, pre_len, stC, midT_len, cats_len]
def treeC (P : Params) : BT := btOf (fun i => (objsC P).getD i default) 4208 13 1 0
theorem stC_tree (P : Params) (os : OsState) : (stC P).sh (preObjs P) os = SharedT.abs ⟨treeC P, 4208, {}, #[], {}, 10253, os⟩ := by
  have h := btOf_list (objsC P) (by rw [objsC_len]; omega)
  rw [objsC_len] at h
  simp only [SharedT.abs, absHeap, treeC, h]
  rfl
def treeF (P : Params) : BT := insAll (((treeC P).set 3 fun _ => nsObj (nsF P) 52).set 12 fun _ => o12F) 4208 lastObjs
theorem last3 (w : World) (os : OsState) : segRunT treeTable pw w 11 (some (.ref 6)) 1 72 ⟨treeC w.params, 4208, {}, #[], {}, 10253, os⟩ (piecesOf (body0.drop 43) sh.env_1 (.body body0 sh.env_1) ⟨70, 0, 70, 20⟩ B0) =
    some (.next, ⟨treeF w.params, 4220, {}, #[], {}, 10275, os⟩, .body body0 sh.env_1, ⟨90, 0, 96, 36⟩) := by kernel_rfl
def heapF (P : Params) : Heap := absHeap (treeF P) 4220 {}
theorem last_split : lastStmts = stmtAt 40 :: stmtAt 41 :: stmtAt 42 :: (body0.drop 43 ++ []) := by kernel_rfl
theorem run_all (w : World) (os : OsState) : topRun treeTable pw w 11 (some (.ref 6)) (12 + (1 + Nat.add 206 (Nat.add 298 (1701 * 32 + (700 + 1 + (300 + 1 + (300 + 1 + (72 + 2))))))))
    ⟨boot_heap w.params, #[], boot_drawn, boot_toks, os⟩ (topStub pw) = some ⟨heapF w.params, #[], {}, 10275, os⟩ := by
  refine go_top (pre_run w os) (piece_block (q := ⟨0, 0, 0, 0⟩) (block_run w os) ?_)
  have hl : tabStmts.length = 32 := by kernel_rfl
  have fin : topRun treeTable pw w 11 (some (.ref 6)) 2 (SharedT.abs ⟨treeF w.params, 4220, {}, #[], {}, 10275, os⟩) (restOf [] sh.env_1 (.body body0 sh.env_1) ⟨90, 0, 96, 36⟩ B0) = some ⟨heapF w.params, #[], {}, 10275, os⟩ := rfl
  have k3 := piece_app (q := ⟨0, 0, 0, 0⟩) (segRun_of (last3 w os)) fin
  rw [← stC_tree] at k3
  have k2 := goes_top (goes_C w os ⟨69, 0, 69, 13⟩) k3
  have k1 := goes_top (goes_B w os ⟨68, 0, 68, 13⟩) k2
  have k0 := goes_top (goes_A w os (posAll ⟨35, 0, 35, 12⟩ tabStmts)) k1
  rw [← last_split, ← tables_st] at k0
  have kt := tables_top (c := .body body0 sh.env_1) (os := os) (p := pw) (w := w) rfl env_ok env_mod (pre_len w.params) tabStmts (st0 w.params) (es0 w.params) ⟨35, 0, 35, 12⟩ (es_ok _) (fun _ => rfl) (tab_names _) lastStmts _ _ k0
  rw [hl, ← start_sh] at kt
  have kc := sh.chain pw body0 w os (tabStmts ++ lastStmts) _ _ kt
  rw [← body_split] at kc
  exact kc
end
end Mine
end

section
open PySem PySem.W PySem.Calls PyProof.Rows
namespace Mine
set_option maxRecDepth 100000
noncomputable section
def qv : Program := view pw [1, 2, 4, 44, 45]
def looseN : List Str := [Str.ofString "HUFFMAN_COMPLETE", Str.ofString "HUFFMAN_EMIT_SYMBOL", Str.ofString "HUFFMAN_FAIL"] ++ (tabStmts.map nameOfT) ++ [sTab, sCod, sLen]
def hk : Hook where
  α := Heap
  obs := fun s => s.heap
  val := fun w => heapF w.params
  says := fun w h => ∀ b o, (heapF w.params).get? b = some o → h.get? b = some o
  of := fun w s e b o h => by rw [e]; exact h
  keeps := fun w h h' x k b o e => k b o (x b o e)
abbrev rwR : OpenRow := PySem.Challenge.rw_ln0015_01.row
abbrev Xt0 : Shared → Bool := fun s => xlAt qv [] s && recOk (RowW.records rwR.toRowW) s
set_option maxHeartbeats 8000000
theorem q_open : ∀ w : World, (fencedOpening treeTable pw w 120000).map (fun s => (s.heap, s.gens, s.drawn, s.toks)) = some (boot_heap w.params, Array.mk [], boot_drawn, boot_toks) :=
  boot_open (by kernel_rfl) (by kernel_rfl) (fun _ => by kernel_rfl)
theorem q_size : ∀ w : World, ((boot_heap w.params).isNs mainGlobals && (Array.mk [] : Array GenState).size == 0, (boot_heap w.params).objs.size, (boot_heap w.params).nsMap mainGlobals "__annotations__") = (true, 11, some (.ref 6)) := fun w => by kernel_rfl
end
end Mine
end

section
open PySem PySem.W PySem.Calls PyProof.Rows
namespace Mine
set_option maxRecDepth 100000
noncomputable section
set_option maxHeartbeats 8000000
abbrev modsN : List Str := importedModules pw.main.body
abbrev shF (w : World) (os : OsState) : Shared := ⟨heapF w.params, #[], {}, 10275, os⟩
theorem l1 (w : World) : staticsOk modsN (boot_heap w.params) (heapF w.params) = true := by kernel_rfl
theorem l2 (w : World) : namesBound pw (heapF w.params) = true := by kernel_rfl
theorem l3 (w : World) (os : OsState) : gensDone (shF w os) = true := by kernel_rfl
theorem l4 (w : World) : laidKept (boot_heap w.params) (heapF w.params) = true := by kernel_rfl
theorem s1 (w : World) (os : OsState) : seen ((recsOf qv).map (·.name)) (ownsOf qv) [] (shF w os) = expectedOf qv := by kernel_rfl
theorem s2 (w : World) : (heapF w.params).bltView = bltViewBooted := by kernel_rfl
theorem s3 (w : World) : (heapF w.params).keysOk (looseW qv looseN) ((recsOf qv).map (·.name)) ((litsOf qv).map (·.1)) ((clssOf qv (looseW qv looseN)).map (·.name)) = true := by kernel_rfl
theorem s4 (w : World) : (heapF w.params).accountedOkI modsN = true := by kernel_rfl
theorem s5 (w : World) : (heapF w.params).isNs mainGlobals = true := by kernel_rfl
theorem s6 (w : World) : (heapF w.params).isNs builtinsNs = true := by kernel_rfl
theorem s7 (w : World) : tablesOk qv (heapF w.params) = true := by kernel_rfl
theorem s8 (w : World) (os : OsState) : Xt0 (shF w os) = true := by kernel_rfl
theorem t1 (w : World) (os : OsState) : tabsOk qv (shF w os) = true := by kernel_rfl
theorem t2 (w : World) (os : OsState) : pinSeenD qv (drecsOf qv) (shF w os) = pinGoodD (drecsOf qv) := by kernel_rfl
theorem t3 (w : World) (os : OsState) : plainSeenE qv (looseW qv looseN) (shF w os) = plainGoodE qv (looseW qv looseN) := by kernel_rfl
theorem t4 (w : World) (os : OsState) : plainSeenD qv looseN (shF w os) = plainGoodD qv looseN := by kernel_rfl
theorem t5 (w : World) (os : OsState) : wideSeen qv (shF w os) = wideGood qv := by kernel_rfl
theorem t6 (w : World) (os : OsState) : clsSeenW qv looseN (shF w os) = clsGoodW qv looseN := by kernel_rfl
end
end Mine
end

section
open PySem PySem.W PySem.Calls PyProof.Rows
namespace Mine
set_option maxRecDepth 100000
noncomputable section
set_option maxHeartbeats 8000000
theorem left : LeftO pw qv looseN Xt0 hk.obs hk.val 120000 := by
  refine LeftO.of_pieces (H₀ := boot_heap) (H₁ := heapF) (gs₁ := #[]) (d₁ := {}) (k₁ := 10275) q_open q_size run_all (by kernel_rfl) fun w => funext fun os => ?_
  refine looks_pair ?_ (looks_pair ?_ rfl)
  · rw [l1, l2, l4]; exact l3 w os
  · unfold openSeen openGood
    refine looks_pair (s1 w os) (looks_pair (s2 w) (looks_pair ?_ (looks_pair (t1 w os) (looks_pair (t2 w os) (looks_pair (t3 w os) (looks_pair (t4 w os) (looks_pair (t5 w os) (t6 w os))))))))
    have h8 := s8 w os
    rw [s3, s4, s5, s6, s7, h8]
    rfl
def gK (P : Params) (a : Nat) : Obj := ((treeF P).get a).getD default
def bD : {b : List Stmt // defBody (stmtAt 4) = b} := ⟨_, by (conv => lhs; whnf)⟩
def bR : {b : List Stmt // defBody (stmtAt 44) = b} := ⟨_, by (conv => lhs; whnf)⟩
def bL : {b : List Stmt // defBody (stmtAt 45) = b} := ⟨_, by (conv => lhs; whnf)⟩
def aR : {b : Arguments // defArgs (stmtAt 44) = b} := ⟨_, by (conv => lhs; whnf)⟩
def aL : {b : Arguments // defArgs (stmtAt 45) = b} := ⟨_, by (conv => lhs; whnf)⟩
def cR : {b : Scope // defScope (stmtAt 44) = b} := ⟨_, by (conv => lhs; whnf)⟩
def cL : {b : Scope // defScope (stmtAt 45) = b} := ⟨_, by (conv => lhs; whnf)⟩
def ob15 (P : Params) : {o : Obj // gK P 15 = o} := ⟨_, by (conv => lhs; whnf)⟩
def ob22 (P : Params) : {o : Obj // gK P 22 = o} := ⟨_, by (conv => lhs; whnf)⟩
def ob23 (P : Params) : {o : Obj // gK P 23 = o} := ⟨_, by (conv => lhs; whnf)⟩
def ob24 (P : Params) : {o : Obj // gK P 24 = o} := ⟨_, by (conv => lhs; whnf)⟩
def ob28 (P : Params) : {o : Obj // gK P 28 = o} := ⟨_, by (conv => lhs; whnf)⟩
def ob35 (P : Params) : {o : Obj // gK P 35 = o} := ⟨_, by (conv => lhs; whnf)⟩
def ob36 (P : Params) : {o : Obj // gK P 36 = o} := ⟨_, by (conv => lhs; whnf)⟩
def ob37 (P : Params) : {o : Obj // gK P 37 = o} := ⟨_, by (conv => lhs; whnf)⟩
def ob45 (P : Params) : {o : Obj // gK P 45 = o} := ⟨_, by (conv => lhs; whnf)⟩
def ob46 (P : Params) : {o : Obj // gK P 46 = o} := ⟨_, by (conv => lhs; whnf)⟩
def ob4213 (P : Params) : {o : Obj // gK P 4213 = o} := ⟨_, by (conv => lhs; whnf)⟩
def ob4214 (P : Params) : {o : Obj // gK P 4214 = o} := ⟨_, by
  have e : gK P 4214 = ⟨.type "function", none, .func { name := Str.ofString "_law_read", qualname := Str.ofString "_law_read", params := aR.1, body := .stmts bR.1, scope := cR.1, globals := 3, closure := [], defaults := .none, kwdefaults := .none, pyModule := .str (Str.ofString "law_ln0015_01") 10253, code := .ref 4213 }, #[]⟩ := by kernel_rfl
  dsimp only [aR, bR, cR] at e
  exact e⟩
def ob4218 (P : Params) : {o : Obj // gK P 4218 = o} := ⟨_, by (conv => lhs; whnf)⟩
def ob4219 (P : Params) : {o : Obj // gK P 4219 = o} := ⟨_, by
  have e : gK P 4219 = ⟨.type "function", none, .func { name := Str.ofString "law", qualname := Str.ofString "law", params := aL.1, body := .stmts bL.1, scope := cL.1, globals := 3, closure := [], defaults := .none, kwdefaults := .none, pyModule := .str (Str.ofString "law_ln0015_01") 10253, code := .ref 4218 }, #[]⟩ := by kernel_rfl
  dsimp only [aL, bL, cL] at e
  exact e⟩
def KL (P : Params) : Frag := (nat_lit 2, gK P 2) :: (nat_lit 3, nsObj (nsF P) 52) :: (nat_lit 15, (ob15 P).1) :: (nat_lit 16, gK P 16) :: (nat_lit 17, gK P 17) :: (nat_lit 18, gK P 18) :: (nat_lit 20, gK P 20) :: (nat_lit 21, gK P 21) :: (nat_lit 22, (ob22 P).1) :: (nat_lit 23, (ob23 P).1) :: (nat_lit 24, (ob24 P).1) :: (nat_lit 25, gK P 25) :: (nat_lit 26, gK P 26) :: (nat_lit 27, gK P 27) :: (nat_lit 28, (ob28 P).1) :: (nat_lit 29, gK P 29) :: (nat_lit 30, gK P 30) :: (nat_lit 31, gK P 31) :: (nat_lit 33, gK P 33) :: (nat_lit 34, gK P 34) :: (nat_lit 35, (ob35 P).1) :: (nat_lit 36, (ob36 P).1) :: (nat_lit 37, (ob37 P).1) :: (nat_lit 38, gK P 38) :: (nat_lit 39, gK P 39) :: (nat_lit 40, gK P 40) :: (nat_lit 42, gK P 42) :: (nat_lit 43, gK P 43) :: (nat_lit 45, (ob45 P).1) :: (nat_lit 46, (ob46 P).1) :: (nat_lit 4208, gK P 4208) :: (nat_lit 4210, gK P 4210) :: (nat_lit 4211, gK P 4211) :: (nat_lit 4213, (ob4213 P).1) :: (nat_lit 4214, (ob4214 P).1) :: (nat_lit 4215, gK P 4215) :: (nat_lit 4218, (ob4218 P).1) :: (nat_lit 4219, (ob4219 P).1) :: []
def asK : List Addr := [nat_lit 2, nat_lit 3, nat_lit 15, nat_lit 16, nat_lit 17, nat_lit 18, nat_lit 20, nat_lit 21, nat_lit 22, nat_lit 23, nat_lit 24, nat_lit 25, nat_lit 26, nat_lit 27, nat_lit 28, nat_lit 29, nat_lit 30, nat_lit 31, nat_lit 33, nat_lit 34, nat_lit 35, nat_lit 36, nat_lit 37, nat_lit 38, nat_lit 39, nat_lit 40, nat_lit 42, nat_lit 43, nat_lit 45, nat_lit 46, nat_lit 4208, nat_lit 4210, nat_lit 4211, nat_lit 4213, nat_lit 4214, nat_lit 4215, nat_lit 4218, nat_lit 4219]
theorem KL_as (P : Params) : asK = (KL P).map (·.1) := by kernel_rfl
theorem KL_get (P : Params) : asK.map (heapF P).get? = (KL P).map fun p => some p.2 := by kernel_rfl
theorem KL_in (w : World) (h : Heap) (Y : hk.says w h) : (KL w.params).In h := (Frag.in_of (KL_as w.params) (KL_get w.params)).keeps Y
end
end Mine
end

section
open PySem PySem.W PySem.Calls PyProof.Rows
open PySem.Sem (wp)
namespace Mine
set_option maxRecDepth 100000
/-- a code that holds no bytearray's memory -/
def cleanId (i : String) : Bool := !(Builtin.Bytes.decodersThatHold.contains i) && !(guardIds.contains i)
def cleanC : Code → Bool
  | .builtin i _ => cleanId i
  | _ => true
def Clean (Γ : Ctx) : Prop := cleanC Γ.code = true ∧ ∀ x ∈ Γ.below, cleanC x.1 = true
theorem Clean.enter {Γ : Ctx} (h : Clean Γ) {c : Code} {hd : Option Value} {p : Pos} (hc : cleanC c = true) : Clean (Γ.enter c hd p) :=
  ⟨hc, fun x hx => by
    rcases List.mem_cons.mp (show x ∈ (Γ.code, p) :: Γ.below from hx) with rfl | hx
    · exact h.1
    · exact h.2 x hx⟩
theorem Clean.goto {Γ : Ctx} (h : Clean Γ) {c : Code} (hc : cleanC c = true) : Clean (Γ.goto c) := ⟨hc, h.2⟩
set_option linter.unusedVariables false
def wpS {α : Type} (M : Model) (A : Around) (t : Sem α) (Q : α → Shared → Prop) (E : Value → Shared → Prop) (s : Shared) : Prop :=
  ∀ Γ p, Γ.In A → Clean Γ → wp M Γ t (fun a _ s' => Q a s') (fun e _ s' => E e s') p s
def codeS (M : Model) (A : Around) (c : Code) (R : Result → Shared → Prop) (s : Shared) : Prop :=
  ∀ Γ p, Γ.code = c → Γ.Below A → Clean Γ → wpCode M Γ R p s
section
variable {α β : Type} {M : Model} {A : Around} {E : Value → Shared → Prop} {s : Shared} {env : Env}
theorem wpS_any {t : Sem α} {Q : α → Shared → Prop} (h : wpAny M A t Q E s) : wpS M A t Q E s := fun Γ p hΓ _ => h Γ p hΓ
theorem codeS_any {c : Code} {R : Result → Shared → Prop} (h : codeAny M A c R s) : codeS M A c R s := fun Γ p hc hΓ _ => h Γ p hc hΓ
theorem wpS_pure {a : α} {Q : α → Shared → Prop} (h : Q a s) : wpS M A (pure a) Q E s := fun _ _ _ _ => h
theorem wpS_mono {t : Sem α} {Q Q' : α → Shared → Prop} {E' : Value → Shared → Prop} (h : wpS M A t Q E s) (hQ : ∀ a s, Q a s → Q' a s) (hE : ∀ e s, E e s → E' e s) : wpS M A t Q' E' s :=
  fun Γ p hΓ hc => Sem.wp_mono M Γ t (fun a _ s => hQ a s) (fun e _ s => hE e s) p s (h Γ p hΓ hc)
theorem wpS_bind {m : Sem α} {f : α → Sem β} {Q : β → Shared → Prop} (h : wpS M A m (fun a s' => wpS M A (f a) Q E s') E s) : wpS M A (m >>= f) Q E s := fun Γ p hΓ hc => by
  rw [Sem.wp_bind']
  exact Sem.wp_mono M Γ m (fun a p' s' h' => h' Γ p' hΓ hc) (fun _ _ _ h' => h') p s (h Γ p hΓ hc)
theorem wpS_step {m : Sem α} {f : α → Sem β} {Q : β → Shared → Prop} (h : wpAny M A m (fun a s' => wpS M A (f a) Q E s') E s) : wpS M A (m >>= f) Q E s := wpS_bind (wpS_any h)
theorem wpS_onRaise {m : Sem α} {k : Value → Sem Unit} {Q : α → Shared → Prop} (h : wpS M A m Q (fun e s' => wpAny M A (k e) (fun _ s'' => E e s'') E s') s) : wpS M A (m.onRaise k) Q E s := fun Γ p hΓ hc => by
  rw [Sem.wp_onRaise]
  exact Sem.wp_mono M Γ m (fun _ _ _ h' => h') (fun e p' s' h' => h' Γ p' hΓ) p s (h Γ p hΓ hc)
theorem wpS_tryCatch {m : Sem α} {k : Value → Sem α} {Q : α → Shared → Prop} (h : wpS M A m Q (fun e s' => wpAny M A (k e) Q E s') s) : wpS M A (tryCatch m k) Q E s := fun Γ p hΓ hc => by
  rw [Sem.wp_tryCatch']
  exact Sem.wp_mono M Γ m (fun _ _ _ h' => h') (fun e p' s' h' => h' Γ p' hΓ) p s (h Γ p hΓ hc)
theorem wpS_attempt {m : Sem α} {Q : Except Value α → Shared → Prop} (h : wpS M A m (fun a => Q (.ok a)) (fun e => Q (.error e)) s) : wpS M A m.attempt Q E s := fun Γ p hΓ hc => by
  rw [Sem.wp_attempt]; exact h Γ p hΓ hc
theorem wpS_holding {vs : List Value} {m : Sem α} {Q : α → Shared → Prop} (h : wpS M A m Q E s) : wpS M A (holding vs m) Q E s := fun Γ p hΓ hc => by
  rw [Sem.wp_holding]; exact h Γ p hΓ hc
theorem wpS_standAt {pos : Pos} {Q : Unit → Shared → Prop} (h : Q () s) : wpS M A (standAt pos) Q E s := fun _ _ _ _ => h
theorem codeS_mono {c : Code} {R R' : Result → Shared → Prop} (h : codeS M A c R s) (hR : ∀ r s, R r s → R' r s) : codeS M A c R' s := fun Γ p hc hΓ hk => wpCode_mono hR (h Γ p hc hΓ hk)
theorem wpS_run {c : Code} {h : Option Value} {Q : Flow → Shared → Prop} (hcl : cleanC c = true)
    (hc : codeS M (A.mark h) c (fun r s' => match r with | .ok f => Q f s' | .error e => E e s') s) (hnb : h ≠ some byPass := by intro x; cases x) :
    wpS M A (run c h) Q E s := fun Γ p hΓ hk => by rw [Sem.wp_run]; exact hc _ p rfl (hΓ.enter c h p hnb) (hk.enter hcl)
theorem wpS_runValue {c : Code} {Q : Value → Shared → Prop} (hcl : cleanC c = true)
    (hc : codeS M A c (fun r s' => match r with | .ok (.ret v) => Q v s' | .ok _ => False | .error e => E e s') s) :
    wpS M A (runValue c) Q E s := fun Γ p hΓ hk => by rw [Sem.wp_runValue]; exact hc _ p rfl (hΓ.enter c none p (by intro x; cases x)) (hk.enter hcl)
theorem wpS_call {f : Value} {pos : List Value} {kw : List (Str × Value)} {Q : Value → Shared → Prop}
    (hc : codeS M A (.call f ⟨pos, kw⟩) (fun r s' => match r with | .ok (.ret v) => Q v s' | .ok _ => False | .error e => E e s') s) :
    wpS M A (call f pos kw) Q E s := wpS_runValue rfl hc
theorem wpS_runOwn {c : Code} {h : Option Value} {Q : Flow → Shared → Prop} (hcl : cleanC c = true)
    (hc : codeS M (A.mark h) c (fun r s' => match r with | .ok f => Q f s' | .error e => cameBackBy M A env E e s') s) (hnb : h ≠ some byPass := by intro x; cases x) :
    wpS M A (runOwn c env h) Q E s := by
  unfold runOwn
  exact wpS_onRaise (wpS_run hcl hc hnb)
theorem codeS_of_tree {c : Code} {R : Result → Shared → Prop}
    (h : wpS M (A.under c) (M.den c) (fun fin s' => match fin with | .done f => R (.ok f) s' | .again c' => c'.quiet = true ∧ cleanC c' = true ∧ codeS M A c' R s')
      (fun e s' => R (.error e) s') s) : codeS M A c R s := fun Γ p hc hΓ hk => by
  rw [wpCode_iff_wp, hc]
  refine Sem.wp_mono M Γ _ (fun fin p' s' h' => ?_) (fun _ _ _ h' => h') p s (h Γ p (hc ▸ hΓ.in) hk)
  cases fin with
  | done f => exact h'
  | again c' => exact ⟨h'.1, h'.2.2 (Γ.goto c') p' rfl (hΓ.goto c') (hk.goto h'.2.1)⟩
theorem codeS_loop {c : Code} {R : Result → Shared → Prop} (hq : c.quiet = true) (hcl : cleanC c = true) (I : Nat → Shared → Prop)
    (turn : ∀ n s, I n s → wpS M (A.under c) (M.den c)
      (fun fin s' => match fin with
        | .done f => R (.ok f) s'
        | .again c' => (c' = c ∧ ∃ m, m < n ∧ I m s') ∨ (c'.quiet = true ∧ cleanC c' = true ∧ codeS M A c' R s')) (fun e s' => R (.error e) s') s)
    (n : Nat) (h : I n s) : codeS M A c R s := by
  have all : ∀ k, (∀ m, m < k → ∀ s', I m s' → codeS M A c R s') → ∀ s', I k s' → codeS M A c R s' := fun k ih s' hk =>
    codeS_of_tree (wpS_mono (turn k s' hk) (fun fin s₁ q => match fin, q with
      | .done _, q => q
      | .again _, .inr q => q
      | .again _, .inl ⟨e, m, lt, hm⟩ => e ▸ ⟨hq, hcl, ih m lt s₁ hm⟩) fun _ _ q => q)
  exact Nat.strongRecOn (motive := fun k => ∀ s', I k s' → codeS M A c R s') n all s h
theorem wpS_execs_cons {st rest} {Q : Flow → Shared → Prop}
    (h : wpS M A (exec st env) (fun f s' => match f with | .next => wpS M A (execs rest env) Q E s' | f => Q f s') E s) :
    wpS M A (execs (st :: rest) env) Q E s := fun Γ p hΓ hc => by
  rw [execs_cons, Sem.wp_bind']
  refine Sem.wp_mono M Γ _ (fun f p' s' h' => ?_) (fun _ _ _ h' => h') _ _ (h Γ p hΓ hc)
  cases f <;> first | exact h' Γ p' hΓ hc | exact h'
theorem wpS_If {test body orelse pos} {Q : Flow → Shared → Prop}
    (h : wpAny M A (isTrue test env (eval test env)) (fun b s₂ => if b then wpS M A (execs body env) Q E s₂ else wpS M A (execs orelse env) Q E s₂) E s) :
    wpS M A (exec (.If test body orelse pos) env) Q E s := fun Γ p hΓ hc => by
  simp only [exec_If, Sem.wp_bind', Sem.wp_cmd_standAt]
  refine Sem.wp_mono M Γ _ (fun b p₂ s₂ h₂ => ?_) (fun _ _ _ h' => h') _ _ (h Γ _ hΓ)
  cases b <;> exact h₂ Γ p₂ hΓ hc
theorem wpS_Expr {e pos} {Q : Flow → Shared → Prop} (h : wpS M A (eval e env) (fun v s' => v = .none ∧ Q .next s') E s)
    (hi : interactive env = false := by rfl) (hs : swapsWith e none pos.line env = pure false := by rfl) :
    wpS M A (exec (.Expr e pos) env) Q E s := by
  rw [exec_Expr env e pos hi hs]
  refine wpS_bind (wpS_standAt (wpS_bind (wpS_mono h (fun v s' h' => ?_) fun _ _ x => x)))
  obtain ⟨rfl, h'⟩ := h'
  rw [dropValue_plain (fun _ h => by cases h)]
  exact wpS_pure h'
theorem wpS_Assign_Name {x pos' value pos} {Q : Flow → Shared → Prop}
    (h : wpS M A (eval value env) (fun v s₁ => wpAny M A (storeName env x v) (fun _ => Q .next) E s₁) E s)
    (hs : swapsWith value (some (.Name x pos')) pos.line env = pure false := by rfl) :
    wpS M A (exec (.Assign [.Name x pos'] value pos) env) Q E s := fun Γ p hΓ hc => by
  simp only [exec_Assign_Name env x pos' value pos hs, Sem.wp_bind', Sem.wp_cmd_standAt, Sem.wp_bindName, Sem.wp_pure']
  exact Sem.wp_mono M Γ _ (fun v _ s₁ h₁ => h₁ Γ _ hΓ) (fun _ _ _ h' => h') _ _ (h Γ _ hΓ hc)
theorem wpS_noted {m : Sem α} {Q : α → Shared → Prop} (h : wpS M A m Q (notedBy M A env E) s) : wpS M A (m.onRaise fun x => do noteFrame x env; theTreesLotGoes x) Q E s :=
  wpS_onRaise (wpS_mono h (fun _ _ q => q) fun _ _ hx => wpAny_bind (wpAny_mono hx (fun _ _ e => wpAny_theTreesLotGoes e) fun _ _ e => e))
theorem wpS_For {target iter body orelse pos} {Q : Flow → Shared → Prop}
    (h : wpAny M A (eval iter env) (fun x s₁ => wpAny M A (pyIter x) (fun it s₂ =>
      codeS M A (.forLoop target it body orelse env) (fun r s' => match r with | .ok f => Q f s' | .error e => cameBackBy M A env E e s') s₂) E s₁) E s)
    (hs : ∀ x, foldedSetIterable iter env x = pure x := by intro _; rfl) :
    wpS M A (exec (.For target iter body orelse pos) env) Q E s := by
  rw [exec_For]
  refine wpS_bind (wpS_standAt (wpS_bind (wpS_any (wpAny_mono h (fun x s₁ h₁ => ?_) fun _ _ h' => h'))))
  refine wpS_bind (wpS_any (wpAny_of_eq (hs x) ?_))
  refine wpS_bind (wpS_standAt (wpS_bind (wpS_any (wpAny_holding (wpAny_mono h₁ (fun it s₂ h₂ => ?_) fun _ _ h' => h')))))
  exact wpS_runOwn rfl h₂
end
section
variable {prog : Program} {w : World} {A : Around} {E : Value → Shared → Prop} {s : Shared} {env : Env} {R : Result → Shared → Prop}
/-- what is raised in a turn, on its way out of the loop -/
abbrev outOf (prog : Program) (w : World) (A : Around) (env : Env) (R : Result → Shared → Prop) : Value → Shared → Prop := notedBy (model prog w) A env fun e s' => R (.error e) s'
/-- where a turn's body may end: in front of a turn with less to go, or behind the loop -/
abbrev endsTurn (I : Nat → Shared → Prop) (n : Nat) (R : Result → Shared → Prop) (f : Flow) (s : Shared) : Prop := match f with
  | .next => ∃ m, m < n ∧ I m s
  | .cont => ∃ m, m < n ∧ I m s
  | .brk => R (.ok .next) s
  | .ret v => R (.ok (.ret v)) s
abbrev lastTurn (prog : Program) (w : World) (A : Around) (env : Env) (orelse : List Stmt) (R : Result → Shared → Prop) (s : Shared) : Prop := wpAny (model prog w) A (execs orelse env) (fun f => R (.ok f)) (outOf prog w A env R) s
abbrev oneTurn (prog : Program) (w : World) (A : Around) (env : Env) (target : Expr) (body : List Stmt) (I : Nat → Shared → Prop) (n : Nat) (R : Result → Shared → Prop) (v : Value) (s : Shared) : Prop :=
  wpAny (model prog w) A (assign target env v) (fun _ => wpS (model prog w) A (execs body env) (endsTurn I n R) (outOf prog w A env R)) (outOf prog w A env R) s
theorem codeS_forLoop {target : Expr} {it : Value} {body orelse : List Stmt} (I : Nat → Shared → Prop)
    (turn : ∀ n s, I n s → wpAny (model prog w) A (pyNext it) (fun r s₁ => match r with
      | none => lastTurn prog w A env orelse R s₁
      | some v => oneTurn prog w A env target body I n R v s₁) (outOf prog w A env R) s)
    (n : Nat) (h : I n s) (ht : ∀ v, letOwnedTupleGo target it v = pure () := by intro _; rfl) : codeS (model prog w) A (.forLoop target it body orelse env) R s := by
  refine codeS_loop rfl rfl I (fun k s' hk => ?_) n h
  show wpS _ _ ((forTurn target it body orelse env).onRaise (fun x => do noteFrame x env; theTreesLotGoes x)) _ _ s'
  unfold forTurn
  refine wpS_noted (wpS_bind (wpS_standAt (wpS_step (wpAny_onRaise (wpAny_mono (turn k s' hk) (fun r s₁ q => ?_) fun _ _ q => wpAny_standAt q)))))
  match r, q with
  | none, q => exact wpS_pure (.inr ⟨rfl, rfl, codeS_any (codeAny_block q)⟩)
  | some v, q =>
    refine wpS_step (wpAny_of_eq (ht v) (wpS_step (wpAny_mono q (fun _ s₂ q₂ => wpS_bind (wpS_mono q₂ (fun f s₃ q₃ => ?_) fun _ _ z => z)) fun _ _ z => z)))
    match f, q₃ with
    | .ret _, q₃ | .brk, q₃ => exact wpS_pure q₃
    | .next, q₃ | .cont, q₃ => exact wpS_pure (.inl ⟨rfl, q₃⟩)
theorem codeS_func {body}
    (h : wpS (model prog w) (A.deeper env) (execs body env) (fun f s' => R (.ok (.ret (match f with | .ret v => v | _ => .none))) s')
      (fun e s' => wpAny (model prog w) (A.deeper env) («leaving» env e) (fun _ s'' => R (.error e) s'') (fun e' s'' => R (.error e') s'') s') s) :
    codeS (model prog w) A (.func body env) R s := by
  refine codeS_of_tree ?_
  show wpS _ (A.deeper env) (do point; match ← (execs body env).onRaise («leaving» env) with | .ret v => ret v | _ => ret .none) _ _ s
  refine wpS_bind (wpS_any (wpAny_point (wpS_bind (wpS_onRaise (wpS_mono h (fun f s' h' => ?_) fun _ _ h' => h')))))
  cases f <;> exact wpS_pure h'
/-- a call of a function of the program whose arguments are bound: its frame is made, its body runs -/
theorem codeS_calls {a : Addr} {args : Args} {o : Obj} {fd : FuncData} {body : List Stmt} {binds : List (Str × Value)} (room : A.depth < recursionLimit) (at_ : s.heap.get? a = some o) (is : o.data = .func fd)
    (kind : fd.scope.isCoroutine = false ∧ fd.scope.isGenerator = false ∧ fd.body = .stmts body) (rec_ : s.heap.CodeRec fd.code fd.qualname) (bound : bindArgs fd args = pure binds)
    (h : wpAny (model prog w) A.in1 (newFunctionEnv fd.scope fd.globals fd.closure binds (fd.qualname ++ ".<locals>.") (some a) fd.code none fd.builtins) (fun env s' => s'.heap.NoLimit ∧ codeS (model prog w) A (.func body env) R s') (fun e => R (.error e)) s) :
    codeS (model prog w) A (.call (.ref a) args) R s := by
  obtain ⟨cd, _, _, _, isCd, atCd, dataCd, nameCd⟩ := rec_
  obtain ⟨k1, k2, k3⟩ := kind
  refine codeS_of_tree (show wpS _ A.in1 (callAny (.ref a) args) _ _ s from ?_)
  unfold callAny
  refine wpS_step (wpAny_load at_ ?_)
  simp only [is, callFunction, k1, k2, k3, isCd, bound]
  rw [isCd] at h
  refine wpS_step (m := field (.ref cd) 1) (wpAny_field atCd dataCd nameCd (wpS_bind (wpS_pure (wpS_bind (wpS_pure ?_)))))
  exact wpS_step (wpAny_mono h (fun env s' q => wpS_step (wpAny_enterFrame q.1 room (wpS_pure ⟨rfl, rfl, q.2⟩))) fun _ _ q => q)
/-- an exception on its way to the handlers of a try statement -/
abbrev toHandlers (M : Model) (A : Around) (env : Env) (hs : List ExceptHandler) (Q : Flow → Shared → Prop) (E : Value → Shared → Prop) (e : Value) (s : Shared) : Prop :=
  wpAny M A (noteFrame e env) (fun _ s₂ => wpAny M A (setFlight e none) (fun _ s₃ => wpAny M A (handleBy e env hs) Q E s₃) E s₂) E s
theorem wpS_Try_except {body orelse : List Stmt} {h₀ : ExceptHandler} {hs : List ExceptHandler} {pos : Pos} {Q : Flow → Shared → Prop}
    (h : wpS (model prog w) A (execs body env) (fun f s₁ => match f with | .next => wpAny (model prog w) A (execs orelse env) Q E s₁ | f => Q f s₁)
      (toHandlers (model prog w) A env (h₀ :: hs) Q E) s) :
    wpS (model prog w) A (exec (.Try body (h₀ :: hs) orelse [] pos) env) Q E s := by
  rw [arm_exec_Try]
  refine wpS_bind (wpS_standAt ?_)
  unfold tryStmt
  simp only [List.isEmpty_nil, if_true, List.isEmpty_cons, Bool.false_and, Bool.false_eq_true, if_false]
  refine wpS_bind (wpS_attempt (wpS_mono h (fun f s₁ h₁ => ?_) fun e s₁ h₁ => ?_))
  · cases f <;> first | exact wpS_any h₁ | exact wpS_pure h₁
  · exact wpS_any (wpAny_bind (wpAny_mono h₁ (fun _ _ h₂ => wpAny_bind h₂) fun _ _ x => x))
end
end Mine
end

section
open PySem PySem.W PySem.Calls PyProof.Rows
open PySem.Sem (wp)
namespace Mine
set_option maxRecDepth 100000
/-- a tree that looks first whether the stack is clean -/
def guarded {α : Type} (t o : Sem α) : Sem α := do
  let st ← stack
  if (st.all fun x => cleanC x.1) = true then t else o
abbrev stub (t : Sem Fin) : Thread := ⟨t, .builtin "claim.caller" {}, default, []⟩
theorem sstep_guard {prog : Program} {w : World} {s : Shared} {t o : Sem Fin} (hz : s.asleep) : sstep (denote table) prog w (.single s (stub (guarded t o))) = .go (.single s (stub t)) := by
  have e : step (denote table) prog w s (stub (guarded t o)) = .go s (stub t) := by
    obtain ⟨heap, gens, drawn, toks, os⟩ := s
    show Step.go _ ⟨if ([((Code.builtin "claim.caller" {}), (default : Pos))].all fun x => cleanC x.1) = true then t else o, _, _, _⟩ = _
    rw [if_pos (by decide +kernel)]
  rcases sstep_single (denote table) prog w s (stub (guarded t o)) rfl hz with h | h
  · rw [h, e]; rfl
  · rw [e] at h; cases h
theorem guard_off {c : ClaimW} {tree other : List Value → Sem Fin} {defs kps : List Str} {writes : Bool} (H : c.HoldsOpenBy (fun vs => stub (guarded (tree vs) (other vs))) defs kps writes) :
    c.HoldsOpenBy (fun vs => stub (tree vs)) defs kps writes := by
  obtain ⟨h1, h2, h3⟩ := H
  refine ⟨h1, h2, fun w => ⟨(h3 w).1, fun s hs => ?_⟩⟩
  obtain ⟨s₀, a1, a2, s₁, a3, a4, a5, a6, a7⟩ := (h3 w).2 s hs
  refine ⟨s₀, a1, a2, s₁, a3, a4, a5, a6, ?_⟩
  have hs' : AfterImport (opening c.prog) w s := hs
  have hz₀ : s₀.asleep := Shared.asleep_of_life (fence_lifeW a1) hs'.life
  have hz₁ : s₁.asleep := Shared.asleep_of_life a3.2.1 hz₀
  intro args hpre hlay ord hord
  obtain ⟨vs, s₂, b1, n, o, s', b2, b3⟩ := a7 args hpre hlay ord hord
  have hz₂ : s₂.asleep := Shared.asleep_of_life (layAllW_rest _ _ _ b1).2.2.2 hz₁
  refine ⟨vs, s₂, b1, ?_⟩
  cases n with
  | zero => cases b2
  | succ n =>
    simp only [schedN, sstep_guard hz₂] at b2
    exact ⟨n, o, s', b2, b3⟩
theorem wp_guarded {α : Type} {M : Model} {Γ : PySem.Ctx} {t o : Sem α} {Q : α → Pos → Shared → Prop} {E : Value → Pos → Shared → Prop} {p : Pos} {s : Shared} :
    wp M Γ (guarded t o) Q E p s = wp M Γ (if (((Γ.code, p) :: Γ.below).all fun x => cleanC x.1) = true then t else o) Q E p s := by
  unfold guarded
  rw [Sem.wp_bind']
  show wp M Γ (Sem.stack .pure) _ _ p s = _
  rw [Sem.wp_stack]
  simp only [Sem.wp_pure]
theorem guarded_any {α : Type} {M : Model} {A : Around} {t o : Sem α} {Q : α → Shared → Prop} {E : Value → Shared → Prop} {s : Shared} (h : wpS M A t Q E s) (ho : wpAny M A o Q E s) : wpAny M A (guarded t o) Q E s := fun Γ p hΓ => by
  rw [wp_guarded]
  by_cases hc : (((Γ.code, p) :: Γ.below).all fun x => cleanC x.1) = true
  · rw [if_pos hc]
    rw [List.all_cons, Bool.and_eq_true, List.all_eq_true] at hc
    exact h Γ p hΓ hc
  · rw [if_neg hc]; exact ho Γ p hΓ
abbrev callTree (name : Str) (vs : List Value) : Sem Fin := do match ← nsGet mainNs name with
      | some f => do ret (← PySem.call f vs)
      | none => unsupported "claim.caller:no-such-global"
abbrev runG (f : Value) (vs : List Value) : Sem Value := guarded (PySem.call f vs) (pure (.bool true))
/-- the guarded tree of the claim's caller, from the guarded call of the function that the name holds -/
theorem guarded_call {prog : Program} {w : World} {A : Around} {s : Shared} {name : Str} {mg : Str → Option Value} {f : Value} {vs : List Value} {Q : Fin → Shared → Prop} {E : Value → Shared → Prop} (ns : s.heap.Ns mainGlobals mg) (hf : mg name = some f)
    (h : wpAny (model prog w) A (runG f vs) (fun v => Q (.done (.ret v))) E s) : wpAny (model prog w) A (guarded (callTree name vs) (ret (.bool true))) Q E s := fun Γ p hΓ => by
  have q := h Γ p hΓ
  rw [wp_guarded] at q ⊢
  split at q
  · rename_i clean
    rw [if_pos clean]
    unfold callTree
    rw [Sem.wp_bind', Sem.wp_nsGet (model prog w) Γ _ p s (show s.heap.Ns mainNs mg from ns), hf]
    exact (Sem.wp_bind' ..).symm ▸ q
  · rename_i other
    rw [if_neg other]
    exact q
end Mine
end

section
open PySem PySem.W PySem.Calls PyProof.Rows
open PySem.Sem (wp)
namespace Mine
set_option maxRecDepth 100000
set_option linter.unusedVariables false
open Builtin
abbrev baObj (b : Array UInt8) : Obj := { cls := .type "bytearray", data := .bytearray b }
theorem ba_mro : mroOf (.type "bytearray") = pure [.type "bytearray", .type "object"] := by rw [mroOf_type]; kernel_rfl
theorem ba_lookup_new : typeLookup (.type "bytearray") "__new__" = pure (some (.builtin "bytearray.__new__")) := by rw [typeLookup_type, builtinLookup_eq_fast]; kernel_rfl
theorem ba_slot_init : Slot "bytearray" "__init__" "bytearray.__init__" :=
  .of (owner := "bytearray") (n := "__init__") (by rw [typeLookup_type, builtinLookup_eq_fast]; kernel_rfl) (by decide +kernel) (by decide +kernel) (by decide +kernel)
    (by first | exact .inl (by decide +kernel) | exact .inr (by decide +kernel)) (by rw [isSubtype_type]; kernel_rfl)
theorem ba_slot_append : Slot "bytearray" "append" "bytearray.append" :=
  .of (owner := "bytearray") (n := "append") (by rw [typeLookup_type, builtinLookup_eq_fast]; kernel_rfl) (by decide +kernel) (by decide +kernel) (by decide +kernel)
    (by first | exact .inl (by decide +kernel) | exact .inr (by decide +kernel)) (by rw [isSubtype_type]; kernel_rfl)
theorem ba_slot_iter : Slot "bytearray" "__iter__" "bytearray.__iter__" :=
  .of (owner := "bytearray") (n := "__iter__") (by rw [typeLookup_type, builtinLookup_eq_fast]; kernel_rfl) (by decide +kernel) (by decide +kernel) (by decide +kernel)
    (by first | exact .inl (by decide +kernel) | exact .inr (by decide +kernel)) (by rw [isSubtype_type]; kernel_rfl)
theorem bi_slot_next : Slot "bytearray_iterator" "__next__" "bytearray_iterator.__next__" :=
  .of (owner := "bytearray_iterator") (n := "__next__") (by rw [typeLookup_type, builtinLookup_eq_fast]; kernel_rfl) (by decide +kernel) (by decide +kernel) (by decide +kernel)
    (by first | exact .inl (by decide +kernel) | exact .inr (by decide +kernel)) (by rw [isSubtype_type]; kernel_rfl)
theorem ba_called : TypeCalled "bytearray" "bytearray.__new__" "bytearray.__init__" :=
  ⟨by decide +kernel, by decide +kernel, ⟨_, _, ba_mro⟩, madeBy_type ba_mro ba_lookup_new (by decide +kernel), by decide +kernel, by rw [isSubtype_type]; kernel_rfl, ba_slot_init⟩
theorem ba_typeCall_0 : checkTypeCall "bytearray" ⟨[], []⟩ = pure () := by kernel_rfl
theorem ba_typeCall_1 (a : Value) : checkTypeCall "bytearray" ⟨[a], []⟩ = pure () := by kernel_rfl
theorem ba_newCall_0 : checkBuiltinCall "bytearray.__new__" ⟨[.type "bytearray"], []⟩ = pure () := by kernel_rfl
theorem ba_newCall_1 (a : Value) : checkBuiltinCall "bytearray.__new__" ⟨[.type "bytearray", a], []⟩ = pure () := by kernel_rfl
theorem ba_entry_new : entryFor table "bytearray.__new__" = some Builtin.«list.__new__» := entryFor_alias (id' := "list.__new__") (by kernel_rfl) rfl (by decide +kernel) (by kernel_rfl)
theorem ba_entry_init : entryFor table "bytearray.__init__" = some Builtin.«bytearray.__init__» := entryFor_of_tree (by kernel_rfl)
theorem ba_entry_append : entryFor table "bytearray.append" = some Builtin.«bytearray.append» := entryFor_of_tree (by kernel_rfl)
theorem ba_entry_iter : entryFor table "bytearray.__iter__" = some Builtin.«bytearray.__iter__» := entryFor_of_tree (by kernel_rfl)
theorem bi_entry_next : entryFor table "bytearray_iterator.__next__" = some Builtin.«bytearray_iterator.__next__» := entryFor_of_tree (by kernel_rfl)
theorem ba_args_init0 (a : Value) : argsOk "bytearray.__init__" ⟨[a], []⟩ := by unfold argsOk; kernel_rfl
theorem ba_args_init1 (a b : Value) : argsOk "bytearray.__init__" ⟨[a, b], []⟩ := by unfold argsOk; kernel_rfl
theorem ba_args_append (a b : Value) : argsOk "bytearray.append" ⟨[a, b], []⟩ := by unfold argsOk; kernel_rfl
theorem ba_args_iter (a : Value) : argsOk "bytearray.__iter__" ⟨[a], []⟩ := by unfold argsOk; kernel_rfl
theorem bi_args_next (a : Value) : argsOk "bytearray_iterator.__next__" ⟨[a], []⟩ := by unfold argsOk; kernel_rfl
theorem ba_plain_new : plainId "bytearray.__new__" = true := by decide +kernel
theorem ba_sub : isSubtype (.type "bytearray") (.type "bytearray") = pure true := by rw [isSubtype_type]; kernel_rfl
theorem ba_look_release : typeLookup (.type "bytearray") "__release_buffer__" = pure (some (.builtin "bytearray.__release_buffer__")) := by rw [typeLookup_type, builtinLookup_eq_fast]; kernel_rfl
theorem ba_look_buffer : typeLookup (.type "bytearray") "__buffer__" = pure (some (.builtin "bytearray.__buffer__")) := by rw [typeLookup_type, builtinLookup_eq_fast]; kernel_rfl
theorem by_no_index : typeLookup (.type "bytes") "__index__" = pure none := by rw [typeLookup_type, builtinLookup_eq_fast]; kernel_rfl
theorem ba_no_index : typeLookup (.type "bytearray") "__index__" = pure none := by rw [typeLookup_type, builtinLookup_eq_fast]; kernel_rfl
theorem ba_no_bytes : typeLookup (.type "bytearray") "__bytes__" = pure none := by rw [typeLookup_type, builtinLookup_eq_fast]; kernel_rfl
set_option maxRecDepth 1000000 in
set_option maxHeartbeats 4000000 in
theorem owner_ba_new : ("bytearray.__new__".splitOn ".__new__").headD "" = "bytearray" := by simp +decide [String.splitOn, String.splitOnAux]
theorem ba_bind0 : Bytes.bindOptional "bytearray.__init__" "bytearray" ["source", "encoding", "errors"] [] [] = pure [none, none, none] := by kernel_rfl
theorem ba_bind1 (v : Value) : Bytes.bindOptional "bytearray.__init__" "bytearray" ["source", "encoding", "errors"] [v] [] = pure [some v, none, none] := by kernel_rfl
section
variable {prog : Program} {w : World} {A : Around} {E : Value → Shared → Prop} {s : Shared} {R : Result → Shared → Prop}
theorem codeS_builtin {id : String} {args : Args} {b : Builtin} (hb : entryFor table id = some b)
    (h : wpS (model prog w) (A.under (.builtin id args)) (b args)
      (fun fin s' => match fin with | .done f => R (.ok f) s' | .again c' => c'.quiet = true ∧ cleanC c' = true ∧ codeS (model prog w) A c' R s') (fun e s' => R (.error e) s') s) :
    codeS (model prog w) A (.builtin id args) R s := by
  refine codeS_of_tree ?_
  show wpS _ _ (match entryFor table id with | some b => b args | none => unsupported ((withoutEnding? id "#data").getD id)) _ _ s
  rw [hb]; exact h
theorem codeS_call_builtin {id : String} {args : Args} {b : Builtin} (hq : plainId id = true) (hcl : cleanC (.builtin id args) = true) (hb : entryFor table id = some b)
    (h : wpAny (model prog w) A.in1 (checkBuiltinCall id args) (fun _ s₁ => wpS (model prog w) A.in1 (b args)
      (fun fin s' => match fin with | .done f => R (.ok f) s' | .again c' => c'.quiet = true ∧ cleanC c' = true ∧ codeS (model prog w) A c' R s') (fun e s' => R (.error e) s') s₁)
      (fun e s' => R (.error e) s') s) : codeS (model prog w) A (.call (.builtin id) args) R s := by
  refine codeS_of_tree ?_
  show wpS _ A.in1 (do checkBuiltinCall id args; again (.builtin id args)) _ _ s
  refine wpS_bind (wpS_any (wpAny_mono h (fun _ s₁ h₁ => wpS_pure ⟨plainId_quiet hq args, hcl, codeS_builtin hb ?_⟩) fun _ _ e => e))
  rw [Around.under_plainId hq args]
  exact h₁
theorem wpS_call_entry {T : String} {name : Str} {id : String} {b : Builtin} {self : Value} {rest : List Value} {Q : Value → Shared → Prop} (h : Slot T name id) (hT : s.TypeIs self T)
    (hcl : cleanC (.builtin id ⟨self :: rest, []⟩) = true) (hb : entryFor table id = some b)
    (hc : wpS (model prog w) A.in1 (b ⟨self :: rest, []⟩) (fun fin s' => ∃ v, fin = .done (.ret v) ∧ Q v s') E s)
    (ha : argsOk id ⟨self :: rest, []⟩) :
    wpS (model prog w) A (call (.builtin id) (self :: rest)) Q E s := by
  refine wpS_call (codeS_call_builtin h.plain hcl hb (h.check _ _ _ _ _ _ _ _ hT ha (wpS_mono hc (fun fin s' h' => ?_) fun _ _ h' => h')))
  obtain ⟨v, rfl, hv⟩ := h'; exact hv
end
section
variable {M : Model} {A : Around} {E : Value → Shared → Prop} {s : Shared}
theorem exportedS {self : Value} {Q : Bool → Shared → Prop} (h : Q false s) : wpS M A (Bytes.exported self) Q E s := fun Γ p hΓ hc => by
  unfold Bytes.exported
  rw [Sem.wp_bind']
  show wp M Γ (Sem.stack .pure) _ _ p s
  rw [Sem.wp_stack]
  simp only [Sem.wp_pure, Sem.wp_pure']
  have e : ∀ b : Bool, b = false → Q b s := fun b hb => hb ▸ h
  refine e _ ?_
  rw [List.any_eq_false]
  intro x hx
  have hcl : cleanC x.1 = true := by
    rcases List.mem_cons.mp hx with rfl | hx
    · exact hc.1
    · exact hc.2 x hx
  obtain ⟨c, q⟩ := x
  rw [Bool.not_eq_true]
  split
  · rename_i heq; cases heq; exact absurd (show cleanId "bytearray.__contains__" = true from hcl) (by decide +kernel)
  · rename_i heq; cases heq; exact absurd (show cleanId "bytearray.__mod__" = true from hcl) (by decide +kernel)
  · rename_i heq; cases heq; exact absurd (show cleanId "bytearray.__rmod__" = true from hcl) (by decide +kernel)
  · rename_i heq; cases heq; exact absurd (show cleanId "_struct.pack_into.held" = true from hcl) (by decide +kernel)
  · rename_i heq; cases heq; exact absurd (show cleanId "bytearray.find.held" = true from hcl) (by decide +kernel)
  · rename_i heq
    obtain ⟨e1, e2⟩ := Prod.mk.inj heq
    subst e1
    have h' := hcl
    simp only [cleanC, cleanId, Bool.and_eq_true, Bool.not_eq_true'] at h'
    rw [h'.1, Bool.and_false]
  · rfl
end
end Mine
end

section
open PySem PySem.W PySem.Calls PyProof.Rows
open PySem.Sem (wp)
namespace Mine
set_option maxRecDepth 100000
set_option linter.unusedVariables false
open Builtin
section
variable {M : Model} {A : Around} {E : Value → Shared → Prop} {s : Shared}
theorem wpS_if_false {α : Type} {c : Bool} {a b : Sem α} {Q : α → Shared → Prop} (hc : c = false) (h : wpS M A b Q E s) : wpS M A (if c = true then a else b) Q E s := by
  subst hc
  exact h
theorem wpS_if_true {α : Type} {c : Bool} {a b : Sem α} {Q : α → Shared → Prop} (hc : c = true) (h : wpS M A a Q E s) : wpS M A (if c = true then a else b) Q E s := by
  subst hc
  exact h
theorem ownRelease_ba {a : Addr} {b : Array UInt8} {Q : Bool → Shared → Prop} (ha : s.heap.get? a = some (baObj b)) (h : Q false s) : wpAny M A (Bytes.ownRelease (.ref a)) Q E s := by
  have hT : s.TypeIs (.ref a) "bytearray" := ⟨_, ha, rfl⟩
  unfold Bytes.ownRelease Bytes.slotIsOwn
  refine wpAny_bind (wpAny_bind (wpAny_specialOf hT ba_look_release ?_))
  have e1 : ("bytearray.__release_buffer__".endsWith ("." ++ "__release_buffer__")) = true := by decide +kernel
  have e2 : "bytearray.__release_buffer__".dropRight ("__release_buffer__".length + 1) = "bytearray" := by decide +kernel
  simp only [e1, e2, Bool.not_true, Bool.false_eq_true, if_false]
  exact wpAny_isInstance (T := "bytearray") (b := true) hT ba_sub (wpAny_pure h)
theorem slotOwn_ba {a : Addr} {b : Array UInt8} {Q : Bool → Shared → Prop} (ha : s.heap.get? a = some (baObj b)) (h : Q true s) : wpAny M A (Bytes.slotIsOwn (.ref a) "__buffer__") Q E s := by
  have hT : s.TypeIs (.ref a) "bytearray" := ⟨_, ha, rfl⟩
  unfold Bytes.slotIsOwn
  refine wpAny_bind (wpAny_specialOf hT ba_look_buffer ?_)
  have e1 : ("bytearray.__buffer__".endsWith ("." ++ "__buffer__")) = true := by decide +kernel
  have e2 : "bytearray.__buffer__".dropRight ("__buffer__".length + 1) = "bytearray" := by decide +kernel
  simp only [e1, e2, Bool.not_true, Bool.false_eq_true, if_false]
  exact wpAny_isInstance (T := "bytearray") (b := true) hT ba_sub h
theorem payload_ba {a : Addr} {b : Array UInt8} {Q : Array UInt8 → Shared → Prop} (ha : s.heap.get? a = some (baObj b)) (h : Q b s) : wpAny M A (Bytes.payload (.ref a)) Q E s := by
  unfold Bytes.payload Bytes.payload?
  refine wpAny_bind (wpAny_bind (wpAny_load ha ?_))
  exact wpAny_pure (wpAny_pure h)
theorem buffer_ba {a : Addr} {b : Array UInt8} {id : String} {full : Bool} {Q : Option (Array UInt8) → Shared → Prop} (ha : s.heap.get? a = some (baObj b)) (h : Q (some b) s) : wpAny M A (Bytes.buffer? id (.ref a) full) Q E s := by
  have hT : s.TypeIs (.ref a) "bytearray" := ⟨_, ha, rfl⟩
  unfold Bytes.buffer?
  refine wpAny_bind (wpAny_specialOf hT ba_look_buffer ?_)
  refine wpAny_bind (slotOwn_ba ha ?_)
  refine bm_if_false rfl ?_
  refine wpAny_bind (wpAny_specialOf hT ba_look_buffer ?_)
  refine wpAny_bind (ownRelease_ba ha ?_)
  refine bm_if_false rfl ?_
  exact wpAny_bind (payload_ba ha (wpAny_pure h))
theorem write_ba {a : Addr} {b : Array UInt8} {f : Array UInt8 → Array UInt8} {Q : Unit → Shared → Prop} (ha : s.heap.get? a = some (baObj b)) (hz : (f b).size ≤ sizeLine)
    (h : (s.heap.update a (Obj.mapBytearray f)).get? a = some (baObj (f b)) → Q () { s with heap := s.heap.update a (Obj.mapBytearray f) }) : wpAny M A (Bytes.write (.ref a) f) Q E s := by
  show wpAny M A (updateBytearray a f) Q E s
  unfold updateBytearray
  refine wpAny_bind (wpAny_load ha ?_)
  show wpAny M A (update a (Obj.mapBytearray f) >>= fun _ => lookBehind a) Q E s
  refine wpAny_bind (wpAny_update ha ?_)
  have h2 : (s.heap.update a (Obj.mapBytearray f)).get? a = some (baObj (f b)) := Heap.get?_update_self (Obj.mapBytearray f) ha rfl
  refine wpAny_lookBehind h2 ?_ (h h2)
  show (if (f b).size > sizeLine then some "bytearray:memory" else none) = none
  rw [if_neg (by omega)]
theorem exports_ba {a : Addr} {b : Array UInt8} {Q : Nat → Shared → Prop} (ha : s.heap.get? a = some (baObj b)) (h : Q 0 s) : wpAny M A (Bytes.exportsOf (.ref a)) Q E s := by
  unfold Bytes.exportsOf
  exact wpAny_bind (wpAny_load ha (wpAny_pure h))
theorem heldS {a : Addr} {b : Array UInt8} {Q : Bool → Shared → Prop} (ha : s.heap.get? a = some (baObj b)) (h : Q false s) :
    wpS M A (Bytes.exported (.ref a) <||> (do return (← Bytes.exportsOf (.ref a)) > 0)) Q E s := by
  show wpS M A (Bytes.exported (.ref a) >>= fun x => _) Q E s
  refine wpS_bind (exportedS ?_)
  exact wpS_any (wpAny_bind (exports_ba ha (wpAny_pure h)))
theorem appendB {a : Addr} {b : Array UInt8} {x : Int} {t : Tok} {Q : PySem.Fin → Shared → Prop} (ha : s.heap.get? a = some (baObj b)) (hx : 0 ≤ x ∧ x < 256) (hz : b.size < sizeLine)
    (h : (s.heap.update a (Obj.mapBytearray (·.push x.toNat.toUInt8))).get? a = some (baObj (b.push x.toNat.toUInt8)) → Q (.done (.ret .none)) { s with heap := s.heap.update a (Obj.mapBytearray (·.push x.toNat.toUInt8)) }) :
    wpS M A (Builtin.«bytearray.append» ⟨[.ref a, .int x t], []⟩) Q E s := by
  unfold Builtin.«bytearray.append»
  refine wpS_bind (m := selfAndOne "bytearray.append" ⟨[.ref a, .int x t], []⟩) (wpS_any (wpAny_of_eq (a := ((.ref a : Value), (.int x t : Value))) (by rfl) ?_))
  refine wpS_bind (m := Bytes.byteValue (.int x t)) (wpS_any ?_)
  · unfold Bytes.byteValue
    refine wpAny_bind (wpAny_of_eq (rfl : asIndex (.int x t) = pure x) ?_)
    refine bm_if_false (by simp only [Bool.or_eq_false_iff, decide_eq_false_iff_not]; omega) ?_
    refine wpAny_pure ?_
    refine wpS_bind (m := Bytes.checkResize (.ref a)) ?_
    unfold Bytes.checkResize
    refine wpS_bind (heldS ha ?_)
    refine wpS_if_false rfl (wpS_pure ?_)
    refine wpS_bind (wpS_any (write_ba ha (by simp; omega) fun h2 => ?_))
    exact wpS_pure (h h2)
theorem initB0 {a : Addr} {Q : PySem.Fin → Shared → Prop} (ha : s.heap.get? a = some (baObj #[]))
    (h : (s.heap.update a (Obj.mapBytearray (fun _ => #[]))).get? a = some (baObj #[]) → Q (.done (.ret .none)) { s with heap := s.heap.update a (Obj.mapBytearray (fun _ => #[])) }) :
    wpS M A (Builtin.«bytearray.__init__» ⟨[.ref a], []⟩) Q E s := by
  unfold Builtin.«bytearray.__init__»
  refine wpS_bind (wpS_any (ownRelease_ba ha ?_))
  refine wpS_if_false rfl ?_
  refine wpS_bind (wpS_any (wpAny_of_eq ba_bind0 ?_))
  refine wpS_bind (wpS_any (wpAny_of_eq (a := ()) rfl ?_))
  refine wpS_bind (wpS_any (wpAny_of_eq (a := ()) rfl ?_))
  refine wpS_bind (heldS ha ?_)
  refine wpS_if_false rfl ?_
  refine wpS_bind (wpS_any (write_ba ha (by simp) fun h2 => ?_))
  refine wpS_any ?_
  exact wpAny_pure (h h2)
end
end Mine
end

section
open PySem PySem.W PySem.Calls PyProof.Rows
open PySem.Sem (wp)
namespace Mine
set_option maxRecDepth 100000
set_option linter.unusedVariables false
section
variable {prog : Program} {w : World} {A : Around} {E : Value → Shared → Prop} {s : Shared}
/-- what a raise at an iterator's end leaves: a StopIteration, and P -/
def StopAt (P : Shared → Prop) (e : Value) (s : Shared) : Prop := s.TypeIs e "StopIteration" ∧ P s
/-- the next item of an object whose type has its own __next__: walked in that entry -/
theorem next_walk {I : Addr} {T id : String} {Bi : Builtin} {Q : Option Value → Shared → Prop} (hT : s.TypeIs (.ref I) T) (sl : Slot T "__next__" id) (en : entryFor table id = some Bi) (ok : argsOk id ⟨[.ref I], []⟩)
    (h : wpAny (model prog w) A.in1 (Bi ⟨[.ref I], []⟩) (fun fin s' => ∃ v, fin = .done (.ret v) ∧ Q (some v) s') (StopAt (Q none)) s) : wpAny (model prog w) A (pyNext (.ref I)) Q E s := by
  have stop : ∀ e s', StopAt (Q none) e s' → wpAny (model prog w) A (do if ← isInstance e (.type "StopIteration") then pure none else throw e : Sem (Option Value)) Q E s' := fun e s' q => by
    have hq := q.2
    have hS := q.1
    have hI := isSubtype_stop
    wp_walk
    exact hq
  have called := wpAny_call_entry (rest := []) sl hT en h ok
  exact wpAny_bind (wpAny_attempt (wpAny_callSpecial?_slot hT sl (wpAny_mono called (fun v s' q => wpAny_pure q) stop)))
end
/-- nothing is being handled, or an exception that has no context of its own -/
def HOk (A : Around) (h : Heap) : Prop := A.handled = none ∨ ∃ x o ws, A.handled = some (.ref x) ∧ h.get? x = some o ∧ o.data = .fields ws ∧ ws[2]? = some .none
theorem HOk.keeps {A : Around} {h h' : Heap} (x : HOk A h) (hk : ∀ b o, h.get? b = some o → h'.get? b = some o) : HOk A h' := by
  rcases x with x | ⟨a, o, ws, h1, h2, h3⟩
  · exact .inl x
  · exact .inr ⟨a, o, ws, h1, hk _ _ h2, h3⟩
/-- a write elsewhere leaves it so -/
theorem HOk.write {A : Around} {h : Heap} {I : Addr} {f : Obj → Obj} (x : HOk A h) (hne : ∀ a, A.handled = some (.ref a) → a ≠ I) : HOk A (h.update I f) := by
  rcases x with x | ⟨a, o, ws, h1, h2, h3⟩
  · exact .inl x
  · exact .inr ⟨a, o, ws, h1, (Heap.get?_update_other _ _ fun q => hne a h1 q.symm).trans h2, h3⟩
theorem unchain_entry : entryFor table "proto.unchain" = some Builtin.«proto.unchain» := entryFor_of_tree (by kernel_rfl)
theorem unchain_plain : plainId "proto.unchain" = true := by decide +kernel
section
variable {prog : Program} {w : World} {A : Around} {E : Value → Shared → Prop} {s : Shared}
/-- a new exception is raised while nothing, or an exception without a context, is being handled -/
theorem raise_made {α : Type} {Q : α → Shared → Prop} {h₀ : Heap} {a : Addr} {o : Obj} {ws : Array Value} (hh : HOk A h₀) (hk : ∀ b ob, h₀.get? b = some ob → s.heap.get? b = some ob) (hn : h₀.get? a = none)
    (ho : s.heap.get? a = some o) (hd : o.data = .fields ws) (h2 : 2 < ws.size)
    (h : ∀ h', (∀ b ob, h₀.get? b = some ob → h'.get? b = some ob) → (∃ o', h'.get? a = some o' ∧ o'.cls = o.cls) → E (.ref a) { s with heap := h' }) : wpAny (model prog w) A (raiseNew (.ref a) : Sem α) Q E s := by
  obtain ⟨hp, g, d, tk, os⟩ := s
  unfold raiseNew
  rcases hh with hh | ⟨x, ox, us, h1, hx, hxd, hx2⟩
  · wp_walk
    exact h hp hk ⟨o, ho, rfl⟩
  · have hne : x ≠ a := fun q => by rw [q, hn] at hx; cases hx
    have hne' : (Value.ref x != Value.ref a) = true := bne_iff_ne.mpr fun q => hne (by injection q)
    refine wpAny_bind (wpAny_handled ?_)
    rw [h1]
    dsimp only
    rw [if_pos hne']
    refine wpAny_bind (wpAny_holding (wpAny_runValue (codeAny_builtin unchain_entry ?_)))
    rw [Around.under_plainId unchain_plain _]
    unfold Builtin.«proto.unchain»
    have hx' := hk _ _ hx
    wp_walk
    simp only [hxd]
    wp_walk
    simp only [hx2]
    wp_walk
    simp only [hd]
    wp_walk
    all_goals
      refine h _ (fun b ob q => ?_) ⟨_, Heap.get?_update_self _ ho (Obj.isFreed_of_fields (Obj.data_mapFields hd _)), Obj.cls_mapFields ..⟩
      exact (Heap.get?_update_other _ _ fun e => by rw [← e, hn] at q; cases q).trans (hk b ob q)
/-- StopIteration at an iterator's end -/
theorem stop_ends {α : Type} {P : Shared → Prop} {Q : α → Shared → Prop} (hh : HOk A s.heap) (h : ∀ h', (∀ b o, s.heap.get? b = some o → h'.get? b = some o) → P { s with heap := h' }) :
    wpAny (model prog w) A (Builtin.SmallTypes.stopIteration : Sem α) Q (StopAt P) s := by
  obtain ⟨hp, g, d, tk, os⟩ := s
  wp_walk
  all_goals
    refine raise_made hh (fun b ob q => Heap.get?_push_of_some _ (Heap.get?_push_of_some _ q)) ?_ (Heap.get?_push_size _ rfl) rfl ?_ fun h' hk hc => ⟨hc, h h' hk⟩
    · cases q : hp.get? (hp.push { cls := .type "tuple", data := .seq #[] }).objs.size with
      | none => rfl
      | some o => exact absurd (Heap.lt_size q) (by rw [Heap.size_push]; exact Nat.not_lt.mpr (Nat.le_succ _))
    · rw [Array.size_append]
      exact Nat.lt_of_lt_of_le (by decide) (Nat.le_add_right 6 _)
end
end Mine
end

section
open PySem PySem.W PySem.Calls PyProof.Rows
open PySem.Sem (wp)
namespace Mine
set_option maxRecDepth 100000
set_option linter.unusedVariables false
open Builtin
section
variable {M : Model} {A : Around} {E : Value → Shared → Prop} {s : Shared}
theorem initB1 {a : Addr} {b : Array UInt8} {t : Tok} {Q : PySem.Fin → Shared → Prop} (ha : s.heap.get? a = some (baObj #[])) (hz : b.size ≤ sizeLine)
    (h : ∀ h', h'.get? a = some (baObj b) → Heap.SameBut a s.heap h' → Q (.done (.ret .none)) { s with heap := h' }) :
    wpS M A (Builtin.«bytearray.__init__» ⟨[.ref a, .bytes b t], []⟩) Q E s := by
  unfold Builtin.«bytearray.__init__»
  refine wpS_bind (wpS_any (ownRelease_ba ha ?_))
  refine wpS_if_false rfl ?_
  refine wpS_bind (wpS_any (wpAny_of_eq (ba_bind1 _) ?_))
  refine wpS_bind (wpS_any (wpAny_of_eq (a := ()) rfl ?_))
  refine wpS_bind (wpS_any (wpAny_of_eq (a := ()) rfl ?_))
  refine wpS_bind (heldS ha ?_)
  refine wpS_if_false rfl ?_
  refine wpS_bind (wpS_any (write_ba ha (by simp) fun h2 => ?_))
  refine wpS_any ?_
  refine wpAny_bind (m := asStr? (.bytes b t)) (wpAny_of_eq (a := none) rfl ?_)
  refine bm_if_false rfl ?_
  refine wpAny_bind (wpAny_of_eq (a := ()) rfl ?_)
  refine wpAny_bind (wpAny_of_eq (KBy.special_eq by_no_index) ?_)
  refine bm_if_false rfl ?_
  have eb : Bytes.buffer? "bytearray.__init__" (.bytes b t) true = pure (some b) := by
    unfold Bytes.buffer?
    rw [KBy.special_eq KBy.look_buffer, KBy.own_buffer, KBy.own_release]
    kernel_rfl
  refine wpAny_bind (wpAny_of_eq eb ?_)
  refine wpAny_bind (wpAny_rule ?_)
  refine wpAny_bind (write_ba h2 hz fun h3 => ?_)
  exact wpAny_pure (h _ h3 (Heap.SameBut.trans (Heap.SameBut.update ..) (Heap.SameBut.update ..)))
end
section
variable {prog : Program} {w : World} {A : Around} {E : Value → Shared → Prop} {s : Shared}
theorem code_ba_new (rest : List Value) (hck : checkBuiltinCall "bytearray.__new__" ⟨.type "bytearray" :: rest, []⟩ = pure ()) {Q₁ : Value → Shared → Prop}
    (h : Q₁ (.ref s.heap.objs.size) { s with heap := s.heap.push (baObj #[]) }) :
    codeAny (model prog w) A (.call (.builtin "bytearray.__new__") ⟨.type "bytearray" :: rest, []⟩) (wants Q₁ E) s := by
  obtain ⟨hp, g, d, tk, os⟩ := s
  have its := owner_ba_new
  have itself := ba_sub
  have born : codeAny (model prog w) A (.builtin "bytearray.__new__" ⟨.type "bytearray" :: rest, []⟩) (wants Q₁ E) ⟨hp, g, d, tk, os⟩ :=
    codeAny_builtin_stack ba_entry_new rfl fun p st => by
      simp only [its]
      wp_walk
      exact h
  exact codeAny_of_tree (wpAny_bind (wpAny_of_eq hck (wpAny_pure ⟨plainId_quiet ba_plain_new _, born⟩)))
theorem wpS_callSpecial {M : Model} {self : Value} {T : String} {name : Str} {i : String} {args : List Value} {kw : List (Str × Value)}
    {Q : Option Value → Shared → Prop} (hT : s.TypeIs self T) (h : Slot T name i)
    (hc : wpS M A (call (.builtin i) (self :: args) kw) (fun v => Q (some v)) E s) : wpS M A (callSpecial? self name args kw) Q E s := by
  simp only [callSpecial?]
  refine wpS_bind (wpS_any (wpAny_specialOf hT h.lookup ?_))
  simp only [h.bind]
  exact wpS_holding (wpS_bind (wpS_pure (wpS_bind (wpS_mono hc (fun v s' h' => wpS_pure h') fun _ _ h' => h'))))
theorem callTypeS {T newId initId : String} {Bi : Builtin} {args : List Value} {Q Q₁ : Value → Shared → Prop} (ft : TypeCalled T newId initId) (hcl : ∀ as, cleanC (.builtin initId as) = true)
    (hct : checkTypeCall T ⟨args, []⟩ = pure ()) (entryI : entryFor table initId = some Bi)
    (hnew : codeAny (model prog w) A.in1 (.call (.builtin newId) ⟨.type T :: args, []⟩) (wants Q₁ E) s)
    (hnext : ∀ obj s₁, Q₁ obj s₁ → s₁.TypeIs obj T ∧ argsOk initId ⟨obj :: args, []⟩ ∧
      wpS (model prog w) A.in1.in1 (Bi ⟨obj :: args, []⟩) (fun fin s' => fin = .done (.ret .none) ∧ Q obj s') E s₁) :
    wpS (model prog w) A (call (.type T) args) Q E s := by
  obtain ⟨_, _, order⟩ := ft.mro
  refine wpS_call (codeS_of_tree ?_)
  show wpS _ _ (callAny (.type T) _) _ _ _
  refine wpS_pure ⟨Code.quiet_builtin _ (by decide +kernel), (show cleanId "type.__call__" = true by decide +kernel), codeS_builtin F.entry_type_call ?_⟩
  rw [Around.under_plain (weight_type_call_type T args []) rfl]
  unfold Builtin.«type.__call__»
  dsimp only
  rw [ft.notType]
  refine wpS_if_false rfl (wpS_if_false ft.canCreate ?_)
  refine wpS_step (wpAny_of_eq hct (wpS_step (wpAny_of_eq order ?_)))
  refine wpS_if_false rfl (wpS_step (wpAny_of_eq ft.made (wpS_bind (wpS_pure ?_))))
  refine wpS_step (wpAny_holding (wpAny_mono (wpAny_call hnew) (fun obj s₁ q => ?_) fun _ _ q => q))
  have ⟨typed, fits, runs⟩ := hnext obj s₁ q
  refine wpS_step (wpAny_isInstance typed ft.sub (wpS_if_false rfl ?_))
  refine wpS_bind (wpS_holding (wpS_callSpecial typed ft.init (wpS_call ?_)))
  refine codeS_call_builtin ft.init.plain (hcl _) entryI (ft.init.check _ _ _ _ _ _ _ _ typed fits (wpS_mono runs ?_ fun _ _ q => q))
  rintro _ s₂ ⟨rfl, last⟩
  exact wpS_if_false rfl (wpS_pure last)
/-- bytearray() -/
theorem call_ba0 {Q : Value → Shared → Prop} (h : ∀ h', (∀ b o, s.heap.get? b = some o → h'.get? b = some o) → h'.get? s.heap.objs.size = some (baObj #[]) → Q (.ref s.heap.objs.size) { s with heap := h' }) :
    wpS (model prog w) A (call (.type "bytearray") []) Q E s := by
  refine callTypeS (Q₁ := fun obj s₁ => obj = .ref s.heap.objs.size ∧ s₁ = { s with heap := s.heap.push (baObj #[]) }) ba_called (fun _ => by show cleanId "bytearray.__init__" = true; decide +kernel) ba_typeCall_0 ba_entry_init
    (code_ba_new [] ba_newCall_0 ⟨rfl, rfl⟩) fun obj s₁ h₁ => ?_
  obtain ⟨rfl, rfl⟩ := h₁
  have hS : (s.heap.push (baObj #[])).get? s.heap.objs.size = some (baObj #[]) := Heap.get?_push_size _ rfl
  refine ⟨⟨_, hS, rfl⟩, ba_args_init0 _, initB0 hS fun h2 => ⟨rfl, h _ (fun b o e => ?_) h2⟩⟩
  rw [Heap.get?_update_other _ _ (Nat.ne_of_gt (Heap.lt_size e))]
  exact Heap.get?_push_of_some _ e
/-- bytearray(b) of a bytes -/
theorem call_ba1 {b : Array UInt8} {t : Tok} {Q : Value → Shared → Prop} (hz : b.size ≤ sizeLine) (h : ∀ h', (∀ b o, s.heap.get? b = some o → h'.get? b = some o) → h'.get? s.heap.objs.size = some (baObj b) → Q (.ref s.heap.objs.size) { s with heap := h' }) :
    wpS (model prog w) A (call (.type "bytearray") [.bytes b t]) Q E s := by
  refine callTypeS (Q₁ := fun obj s₁ => obj = .ref s.heap.objs.size ∧ s₁ = { s with heap := s.heap.push (baObj #[]) }) ba_called (fun _ => by show cleanId "bytearray.__init__" = true; decide +kernel) (ba_typeCall_1 _) ba_entry_init
    (code_ba_new [_] (ba_newCall_1 _) ⟨rfl, rfl⟩) fun obj s₁ h₁ => ?_
  obtain ⟨rfl, rfl⟩ := h₁
  have hS : (s.heap.push (baObj #[])).get? s.heap.objs.size = some (baObj #[]) := Heap.get?_push_size _ rfl
  refine ⟨⟨_, hS, rfl⟩, ba_args_init1 _ _, initB1 hS hz fun h' h2 hs => ⟨rfl, h _ (fun b o e => ?_) h2⟩⟩
  exact (hs.2 b (Nat.ne_of_lt (Heap.lt_size e))).trans (Heap.get?_push_of_some _ e)
/-- d.append(x) -/
theorem call_baAppend {a : Addr} {b : Array UInt8} {x : Int} {t : Tok} {Q : Value → Shared → Prop} (ha : s.heap.get? a = some (baObj b)) (hx : 0 ≤ x ∧ x < 256) (hz : b.size < sizeLine)
    (h : ∀ h', h'.get? a = some (baObj (b.push x.toNat.toUInt8)) → Heap.SameBut a s.heap h' → Q .none { s with heap := h' }) :
    wpS (model prog w) A (call (.builtin "bytearray.append") [.ref a, .int x t]) Q E s :=
  wpS_call_entry ba_slot_append ⟨_, ha, rfl⟩ (by show cleanId "bytearray.append" = true; decide +kernel) ba_entry_append (appendB ha hx hz fun h2 => ⟨_, rfl, h _ h2 (Heap.SameBut.update ..)⟩) (ba_args_append _ _)
end
/-- the iterator of a bytearray -/
def IsBaIter (h : Heap) (I a : Addr) (i : Nat) : Prop := ∃ o, h.get? I = some o ∧ o.cls = .type "bytearray_iterator" ∧ o.data = .fields #[.ref a, .int i 0]
theorem baIter_typeIs {s : Shared} {I a : Addr} {i : Nat} (y : IsBaIter s.heap I a i) : s.TypeIs (.ref I) "bytearray_iterator" := let ⟨o, ho, hc, _⟩ := y; ⟨o, ho, hc⟩
section
variable {prog : Program} {w : World} {A : Around} {E : Value → Shared → Prop} {s : Shared} {I a : Addr} {b : Array UInt8}
theorem pyIter_ba {Q : Value → Shared → Prop} (ha : s.heap.get? a = some (baObj b)) (hQ : Q (.ref s.heap.objs.size) { s with heap := s.heap.push { cls := .type "bytearray_iterator", data := .fields #[.ref a, .int 0 0] } }) :
    wpAny (model prog w) A (pyIter (.ref a)) Q E s := by
  have hT : s.TypeIs (.ref a) "bytearray" := ⟨_, ha, rfl⟩
  refine wpAny_pyIter_slot hT ba_slot_iter (wpAny_call_entry ba_slot_iter hT ba_entry_iter ?_ (ba_args_iter _))
  show wpAny _ _ (do ret (← newFields "bytearray_iterator" [.ref a, rawInt 0])) _ _ s
  exact wpAny_bind (wpAny_newObj_type (wpAny_pure ⟨_, rfl, "bytearray_iterator", _, ⟨_, Heap.get?_push_size _ rfl, rfl⟩, bi_slot_next.lookup, hQ⟩))
theorem next_baItem {i : Nat} {c : UInt8} {Q : Option Value → Shared → Prop} (hit : IsBaIter s.heap I a i) (ha : s.heap.get? a = some (baObj b)) (hx : b[i]? = some c)
    (hQ : ∀ h', IsBaIter h' I a (i + 1) → Heap.SameBut I s.heap h' → Q (some (.int (c.toNat : Int) s.toks)) { s with heap := h', toks := s.toks + 1 }) : wpAny (model prog w) A (pyNext (.ref I)) Q E s := by
  refine next_walk (baIter_typeIs hit) bi_slot_next bi_entry_next (bi_args_next _) ?_
  obtain ⟨⟨cls, dict, data, slots⟩, ho, hc, hd⟩ := hit
  subst hc hd
  obtain ⟨hp, g, d, tk, os⟩ := s
  wp_walk
  simp only [Int.toNat_natCast, hx]
  wp_walk
  exact ⟨_, rfl, hQ _ ⟨_, Heap.get?_update_self _ ho rfl, rfl, by simp [Obj.mapFields, rawInt]⟩ (Heap.SameBut.update ..)⟩
theorem next_baEnd {i : Nat} {Q : Option Value → Shared → Prop} (hh : A.handled = none) (hit : IsBaIter s.heap I a i) (ha : s.heap.get? a = some (baObj b)) (hx : b[i]? = none)
    (hQ : ∀ h', Heap.ExtBut I s.heap h' → Q none { s with heap := h' }) : wpAny (model prog w) A (pyNext (.ref I)) Q E s := by
  refine next_walk (baIter_typeIs hit) bi_slot_next bi_entry_next (bi_args_next _) ?_
  obtain ⟨⟨cls, dict, data, slots⟩, ho, hc, hd⟩ := hit
  subst hc hd
  obtain ⟨hp, g, d, tk, os⟩ := s
  wp_walk
  simp only [Int.toNat_natCast, hx]
  wp_walk using stop_ends
  · exact .inl hh
  · exact fun h' hk => hQ h' fun c oc hcn e => hk c oc ((Heap.get?_update_other _ _ (Ne.symm hcn)).trans e)
end
end Mine
end

section
open PySem PySem.W PySem.Calls PyProof.Rows
open PySem.Sem (wp)
namespace Mine
set_option maxRecDepth 100000
set_option linter.unusedVariables false
open Builtin
section
variable {prog : Program} {w : World} {A : Around} {E : Value → Shared → Prop} {s : Shared}
theorem by_new_ba {a : Addr} {b : Array UInt8} {Q : Value → Shared → Prop} (ha : s.heap.get? a = some (baObj b)) (hz : b.size ≤ sizeLine) (hQ : Q (.bytes b s.toks) { s with toks := s.toks + 1 }) :
    codeAny (model prog w) A (.call (.builtin "bytes.__new__") ⟨[.type "bytes", .ref a], []⟩) (wants Q E) s := by
  have typed : s.TypeIs (.ref a) "bytearray" := ⟨_, ha, rfl⟩
  have e1 := F.bm_sub
  have e2 := F.bm_bind (.ref a)
  have e3 := ba_no_bytes
  have e4 := ba_no_index
  have read : ∀ {Q' : Option (Array UInt8) → Shared → Prop}, Q' (some b) s → wpAny (model prog w) A.in1 (Builtin.Bytes.buffer? "bytes.__new__" (.ref a) true) Q' E s := fun q => buffer_ba ha q
  refine codeAny_of_tree (wpAny_bind (wpAny_of_eq (F.bm_newCall _) (wpAny_pure ⟨plainId_quiet F.bm_plain _, codeAny_builtin F.bm_entry ?_⟩)))
  rw [Around.under_plainId F.bm_plain _]
  obtain ⟨hp, g, d, tk, os⟩ := s
  wp_walk using read
  exact hQ
/-- bytes(d) of a bytearray -/
theorem call_bytes_ba {a : Addr} {b : Array UInt8} {Q : Value → Shared → Prop} (ha : s.heap.get? a = some (baObj b)) (hz : b.size ≤ sizeLine) (hQ : Q (.bytes b s.toks) { s with toks := s.toks + 1 }) :
    wpAny (model prog w) A (call (.type "bytes") [.ref a]) Q E s := by
  refine callType_codes (Q₁ := fun obj s₁ => s₁.TypeIs obj "bytes" ∧ Q obj s₁) F.bm_called (F.bm_typeCall _) F.entry_object_init
    (by_new_ba ha hz ⟨PySem.W.typeIs_bytes _ _ _, hQ⟩) fun obj s₁ h₁ => ?_
  exact ⟨h₁.1, F.args_object_init_2 obj _, object_init_meets F.bm_called.init.lookup F.bm_called.made (by decide) prog w A.in1 _ s₁ ⟨h₁.1, rfl, h₁.2⟩⟩
end
section
variable {M : Model} {A : Around} {E : Value → Shared → Prop} {s : Shared} {pos : Pos} {Q : Value → Shared → Prop} {env : Env}
theorem wpS_keep {α : Type} {vs : List Value} {m : Sem α} {Q : α → Shared → Prop} (h : wpS M A m Q E s) : wpS M A (m.keep vs) Q E s := fun Γ p hΓ hc => by
  rw [Sem.wp_keep]; exact h Γ p hΓ hc
theorem callWithS_type {T : String} {first : List Value} {args : List (Bool × Sem Value)} (hplain : args.any (·.1) = false)
    (h : wpAny M A (evalArgs (.type T) true args []) (fun a s₁ => wpS M A (call (.type T) (first ++ a.pos) a.kw) Q E s₁) E s) :
    wpS M A (callWith pos (.type T) first args []) Q E s := by
  unfold callWith
  refine wpS_bind (wpS_holding (wpS_any (wpAny_mono h (fun a s₁ h₁ => wpS_bind (wpS_standAt ?_)) fun _ _ x => x)))
  simp only [hplain, List.any_nil, Bool.or_false]
  refine wpS_bind (wpS_pure ?_)
  exact wpS_bind (wpS_mono h₁ (fun r s₂ hr => wpS_any (wpAny_bind (wpAny_holding (wpAny_point (wpAny_pure hr))))) fun _ _ x => x)
theorem callWithS_builtin {i : String} {first : List Value} {args : List (Bool × Sem Value)} (hplain : args.any (·.1) = false)
    (h : wpAny M A (evalArgs (.builtin i) true args []) (fun a s₁ => wpS M A (call (.builtin i) (first ++ a.pos) a.kw) Q E s₁) E s) :
    wpS M A (callWith pos (.builtin i) first args []) Q E s := by
  unfold callWith
  refine wpS_bind (wpS_holding (wpS_any (wpAny_mono h (fun a s₁ h₁ => wpS_bind (wpS_standAt ?_)) fun _ _ x => x)))
  simp only [hplain, List.any_nil, Bool.or_false]
  refine wpS_bind (wpS_pure ?_)
  exact wpS_bind (wpS_mono h₁ (fun r s₂ hr => wpS_any (wpAny_bind (wpAny_holding (wpAny_point (wpAny_pure hr))))) fun _ _ x => x)
theorem callWithS_function {a : Addr} {o : Obj} {fd : FuncData} {first : List Value} {args : List (Bool × Sem Value)} (hplain : args.any (·.1) = false)
    (h : wpAny M A (evalArgs (.ref a) true args []) (fun x s₁ => (s₁.heap.get? a = some o ∧ o.data = .func fd) ∧ wpS M A (call (.ref a) (first ++ x.pos) x.kw) Q E s₁) E s) :
    wpS M A (callWith pos (.ref a) first args []) Q E s := by
  unfold callWith
  refine wpS_bind (wpS_holding (wpS_any (wpAny_mono h (fun x s₁ h₁ => wpS_bind (wpS_standAt ?_)) fun _ _ x => x)))
  have tail : ∀ {t : Sem Value}, wpS M A t Q E s₁ → wpS M A (t >>= fun r => holding [r] point >>= fun _ => pure r) Q E s₁ :=
    fun ht => wpS_bind (wpS_mono ht (fun r s₂ hr => wpS_any (wpAny_bind (wpAny_holding (wpAny_point (wpAny_pure hr))))) fun _ _ x => x)
  simp only [hplain, List.any_nil, Bool.or_false]
  refine wpS_bind (m := keeperOf (.ref a)) (wpS_any ?_)
  unfold keeperOf
  refine wpAny_bind (wpAny_load h₁.1.1 ?_)
  rw [h₁.1.2]
  refine wpAny_pure ?_
  dsimp only
  split
  · exact tail h₁.2
  · exact tail (by unfold callMarked; exact wpS_keep h₁.2)
theorem wpS_Call_Name {f : Str} {p : Pos} {args : List Expr}
    (h : wpAny M A (eval (.Name f p) env) (fun f s₁ => wpS M A (callWith pos f [] (backTo pos (starEach args env)) []) Q E s₁) E s) :
    wpS M A (eval (.Call (.Name f p) args [] pos) env) Q E s := by
  rw [arm_eval_Call_Name']
  exact wpS_bind (wpS_any h)
end
section
variable {prog : Program} {w : World} {A : Around} {E : Value → Shared → Prop} {s : Shared} {pos : Pos} {Q : Value → Shared → Prop} {env : Env}
theorem wpS_Call_method {o : Expr} {name : Str} {apos pos : Pos} {args : List Expr} {T i : String}
    (hbase : attributeBase o name env (eval o env) = eval o env)
    (hfew : methodCallForm (args.length + ([] : List Keyword).length) (backTo pos (starEach args env)) (backToKw pos (keywordEach [] env)) = true)
    (hline : (apos.endLine == pos.line) = true)
    (pa : PlainAttrs T) (slot : Slot T name i) (hty : typeOf (.builtin i) = pure (.type "method_descriptor"))
    (h : wpAny (model prog w) A (eval o env) (fun ov s₁ => s₁.TypeIs ov T ∧ (∀ a, ov = .ref a → ∃ ob, s₁.heap.get? a = some ob ∧ ob.dict = none) ∧
      wpS (model prog w) A (callWith pos (.builtin i) [ov] (backTo pos (starEach args env)) []) Q E s₁) E s) :
    wpS (model prog w) A (eval (.Call (.Attribute o name apos) args [] pos) env) Q E s := by
  rw [arm_eval_Call, hbase]
  refine wpS_bind (wpS_any (wpAny_mono h (fun ov s₁ h₁ => ?_) fun _ _ e => e))
  obtain ⟨hT, hd, hc⟩ := h₁
  refine wpS_bind (wpS_standAt ?_)
  have hpos : methodCallPos true o env apos pos = pure pos := by unfold methodCallPos; simp [hline]
  unfold methodCall
  rw [hfew]
  refine wpS_bind (wpS_any (wpAny_holding (getMethod_builtin hT pa slot hty hd ?_)))
  exact wpS_bind (wpS_any (wpAny_of_eq hpos hc))
theorem ba_typeOf_append : typeOf (.builtin "bytearray.append") = pure (.type "method_descriptor") := by kernel_rfl
theorem plainAttrs_ba : PlainAttrs "bytearray" :=
  ⟨⟨"bytearray.__getattribute__", by rw [typeLookup_type, builtinLookup_eq_fast]; kernel_rfl, by decide +kernel⟩, by rw [typeLookup_type, builtinLookup_eq_fast]; kernel_rfl⟩
end
end Mine
end

section
open PySem PySem.W PySem.Calls PyProof.Rows
open PySem.Sem (wp)
namespace Mine
set_option maxRecDepth 100000
set_option linter.unusedVariables false
section
variable {prog : Program} {w : World} {A : Around} {E : Value → Shared → Prop} {s : Shared}
theorem range_end {it : Addr} {x left step : Int} {Q : Option Value → Shared → Prop} (hh : HOk A s.heap) (hit : IsRangeIter s.heap it x left step) (hleft : left ≤ 0)
    (hQ : ∀ h', (∀ b o, s.heap.get? b = some o → h'.get? b = some o) → Q none { s with heap := h' }) : wpAny (model prog w) A (pyNext (.ref it)) Q E s := by
  refine next_walk ⟨_, hit, rfl⟩ F.slot_range_iterator_next F.entry_range_iterator_next (F.args_range_iterator_next_1 _) ?_
  obtain ⟨hp, g, d, tk, os⟩ := s
  wp_walk using stop_ends
  · exact hh
  · exact hQ
theorem bytes_end {it : Addr} {b : Array UInt8} {t : Tok} {i : Nat} {Q : Option Value → Shared → Prop} (hh : HOk A s.heap) (hne : ∀ x, A.handled = some (.ref x) → x ≠ it) (hit : KBw.IsBytesIter s.heap it b t i) (hx : b[i]? = none)
    (hQ : ∀ h', Heap.ExtBut it s.heap h' → Q none { s with heap := h' }) : wpAny (model prog w) A (pyNext (.ref it)) Q E s := by
  refine next_walk (KBw.iter_typeIs hit) KBw.slot_next KBw.entry_next (KBw.args_next _) ?_
  obtain ⟨⟨cls, dict, data, slots⟩, ho, hc, hd⟩ := hit
  subst hc hd
  obtain ⟨hp, g, d, tk, os⟩ := s
  wp_walk
  simp only [Int.toNat_natCast, hx]
  wp_walk using stop_ends
  · exact hh.write hne
  · exact fun h' hk => hQ h' fun c oc hcn e => hk c oc ((Heap.get?_update_other _ _ (Ne.symm hcn)).trans e)
theorem list_end {it l : Addr} {i : Nat} {items : Array Value} {Q : Option Value → Shared → Prop} (hh : HOk A s.heap) (hne : ∀ x, A.handled = some (.ref x) → x ≠ it)
    (hit : s.heap.IsListIter it l i) (hl : s.heap.IsList l items) (hx : items[i]? = none)
    (hQ : ∀ h', Heap.ExtBut it s.heap h' → Q none { s with heap := h' }) : wpAny (model prog w) A (pyNext (.ref it)) Q E s := by
  refine next_walk hit.typeIs slot_listiter_next entry_listiter_next (args_listiter_next _) ?_
  obtain ⟨⟨cls, dict, data, slots⟩, ho, hc, hd⟩ := hit
  obtain ⟨⟨lcls, ldict, ldata, lslots⟩, hlo, lc, ln, ld⟩ := hl
  subst hc hd lc ld
  obtain ⟨hp, g, d, tk, os⟩ := s
  wp_walk
  simp only [Int.toNat_natCast, hx]
  wp_walk using stop_ends
  · exact hh.write hne
  · exact fun h' hk => hQ h' fun c oc hcn e => hk c oc ((Heap.get?_update_other _ _ (Ne.symm hcn)).trans e)
end
end Mine
end

section
open PySem PySem.W PySem.Calls PyProof.Rows
open PySem.Sem (wp)
namespace Mine
set_option maxRecDepth 100000
set_option linter.unusedVariables false
/-- the address of what is being handled -/
def xsOf (A : Around) : List Addr := match A.handled with
  | some (.ref x) => [x]
  | _ => []
theorem HOk.xs {A : Around} {h : Heap} (hh : HOk A h) : ∀ y ∈ xsOf A, ∃ o, h.get? y = some o := by
  intro y hy
  rcases hh with hh | ⟨x, o, ws, h1, h2, _⟩
  · unfold xsOf at hy; rw [hh] at hy; cases hy
  · unfold xsOf at hy; rw [h1] at hy
    simp at hy; subst hy; exact ⟨o, h2⟩
theorem HOk.at {A : Around} {h₀ h : Heap} (hh : HOk A h₀) (hk : ∀ y ∈ xsOf A, ∀ o, h₀.get? y = some o → h.get? y = some o) : HOk A h := by
  rcases hh with hh | ⟨x, o, ws, h1, h2, h3⟩
  · exact .inl hh
  · exact .inr ⟨x, o, ws, h1, hk x (by unfold xsOf; rw [h1]; simp) o h2, h3⟩
theorem HOk.ne {A : Around} {h₀ : Heap} {I : Addr} (hh : HOk A h₀) (hI : h₀.get? I = none) : ∀ x, A.handled = some (.ref x) → x ≠ I := by
  intro x hx q
  rcases hh with hh | ⟨y, o, ws, h1, h2, h3⟩
  · rw [hh] at hx; cases hx
  · rw [h1] at hx
    have : y = x := by injection hx with a; injection a
    subst this; subst q; rw [hI] at h2; cases h2
theorem HOk.xne {A : Around} {h₀ : Heap} {I : Addr} (hh : HOk A h₀) (hI : h₀.get? I = none) : ∀ y ∈ xsOf A, y ≠ I := by
  intro y hy q
  obtain ⟨o, ho⟩ := hh.xs y hy
  subst q; rw [hI] at ho; cases ho
section
variable {prog : Program} {w : World} {A : Around} {h₀ : Heap}
theorem walksRange (hh : HOk A h₀) (I : Addr) (hI : h₀.get? I = none) (n : Nat) :
    Walks prog w A I (I :: xsOf A) [I] n (fun i v => i < n ∧ ∃ t, v = .int (i : Int) t) (fun i h => IsRangeIter h I (i : Nat) ((n : Int) - (i : Nat)) 1 ∧ ∀ y ∈ xsOf A, ∀ o, h₀.get? y = some o → h.get? y = some o) where
  sub := fun b hb => by rw [List.mem_singleton.mp hb]; exact .head _
  frame := fun i h h' st hk => ⟨hk I (.head _) _ st.1, fun y hy o e => hk y (.tail _ hy) o (st.2 y hy o e)⟩
  item := fun i s Q E hi st hQ => wpAny_pyNext_range_item st.1 (by omega) fun h' hit' hs' =>
    hQ _ h' _ ⟨hi, _, rfl⟩ ⟨(show (n : Int) - ((i + 1 : Nat) : Int) = n - i - 1 by omega) ▸ hit', fun y hy o e => (hs'.2 y (hh.xne hI y hy)).trans (st.2 y hy o e)⟩ fun b o hb e => hs'.extBut b o (fun h => hb (by simp [h])) e
  done := fun s Q E st hQ => range_end (hh.at st.2) st.1 (by omega) fun h' he' => hQ h' s.toks fun b o hb e => he' b o e
  self := fun _ _ _ _ st hQ => wpAny_pyIter_rangeiter st.1 hQ
theorem walksBytes (hh : HOk A h₀) (I : Addr) (hI : h₀.get? I = none) (b : Array UInt8) (t : Tok) :
    Walks prog w A I (I :: xsOf A) [I] b.size (fun i v => ∃ c u, b[i]? = some c ∧ v = .int (c.toNat : Int) u) (fun i h => KBw.IsBytesIter h I b t i ∧ ∀ y ∈ xsOf A, ∀ o, h₀.get? y = some o → h.get? y = some o) where
  sub := fun b hb => by rw [List.mem_singleton.mp hb]; exact .head _
  frame := fun i h h' st hk => ⟨let ⟨o, ho, r⟩ := st.1; ⟨o, hk I (.head _) o ho, r⟩, fun y hy o e => hk y (.tail _ hy) o (st.2 y hy o e)⟩
  item := fun i s Q E hi st hQ => by
    refine KBw.next_item st.1 (c := b[i]) (by simp [hi]) fun h' hit' hs' => ?_
    exact hQ _ h' (s.toks + 1) ⟨_, _, by simp [hi], rfl⟩ ⟨hit', fun y hy o e => (hs'.2 y (hh.xne hI y hy)).trans (st.2 y hy o e)⟩ fun b o hb e => hs'.extBut b o (fun h => hb (by simp [h])) e
  done := fun s Q E st hQ => bytes_end (hh.at st.2) (hh.ne hI) st.1 (by simp) fun h' he' => hQ h' s.toks fun b o hb e => he' b o (fun h => hb (by simp [h])) e
  self := fun _ _ _ _ st hQ => KBw.pyIter_self st.1 hQ
end
section
variable {h₀ h : Heap} {L : Addr} {m : Str → Option Value} {news : List (Addr × Obj)}
/-- the place where the next object will lie: no one's at the start, none of the ledger's; laying one there keeps the ledger -/
theorem next_free (F : Fr h₀ L h m) : ∀ b ∈ [h.objs.size], h₀.get? b = none := fun _ q => List.mem_singleton.mp q ▸ next_is_new F
theorem next_off (N : News h₀ L h news) : ∀ p ∈ news, p.1 ∉ [h.objs.size] := fun p hp q => Nat.ne_of_lt (Heap.lt_size (N p hp).1) (List.mem_singleton.mp q)
theorem next_kept {o : Obj} (N : News h₀ L h news) : News h₀ L (h.push o) news := fun p hp => (N p hp).imp_left (Heap.get?_push_of_some _)
end
section
variable {A : Around} {h₀ h : Heap} {L I : Addr} {m : Str → Option Value} {news : List (Addr × Obj)}
theorem HOk.offL (hh : HOk A h₀) (F : Fr h₀ L h m) (hI : L ≠ I) : L ∉ I :: xsOf A := by
  intro hm
  rcases List.mem_cons.mp hm with e | hm
  · exact hI e
  · obtain ⟨o, ho⟩ := hh.xs L hm
    exact absurd (Nat.lt_of_lt_of_le (Heap.lt_size ho) F.above) (Nat.lt_irrefl _)
theorem HOk.offN (hh : HOk A h₀) (N : News h₀ L h news) (hI : ∀ q ∈ news, q.1 ≠ I) : ∀ q ∈ news, q.1 ∉ I :: xsOf A := by
  intro q hq hm
  rcases List.mem_cons.mp hm with e | hm
  · exact hI q hq e
  · obtain ⟨o, ho⟩ := hh.xs _ hm
    rw [(N q hq).2.2] at ho; cases ho
theorem HOk.own (hh : HOk A h₀) {q : Addr × Obj} (hq : q.1 ∈ I :: xsOf A) (hn : h₀.get? q.1 = none) : q.1 = I := by
  rcases List.mem_cons.mp hq with e | hm
  · exact e
  · obtain ⟨o, ho⟩ := hh.xs _ hm
    rw [hn] at ho; cases ho
end
end Mine
end

section
open PySem PySem.W PySem.Calls PyProof.Rows
open PySem.Sem (wp)
namespace Mine
set_option maxRecDepth 100000
set_option linter.unusedVariables false
/-- the exception at e has no context -/
def Ctx0 (e : Addr) (h : Heap) : Prop := ∃ o vs, h.get? e = some o ∧ o.data = .fields vs ∧ vs[2]? = some .none
/-- a tree behind which the exception still has none -/
def Keeps {α : Type} (M : Model) (e : Addr) (t : Sem α) : Prop := ∀ Γ p s Q E, Ctx0 e s.heap → wp M Γ t Q E p s → wp M Γ t (fun a p' s' => Q a p' s' ∧ Ctx0 e s'.heap) (fun x p' s' => E x p' s' ∧ Ctx0 e s'.heap) p s
section
variable {M : Model} {e : Addr} {α β : Type}
theorem Keeps.pure {a : α} : Keeps M e (pure a : Sem α) := fun Γ p s Q E h q => ⟨q, h⟩
theorem Keeps.unsup {what : String} : Keeps M e (unsupported what : Sem α) := fun Γ p s Q E h q => q.elim
theorem Keeps.bind {m : Sem α} {f : α → Sem β} (h : Keeps M e m) (k : ∀ a, Keeps M e (f a)) : Keeps M e (m >>= f) := fun Γ p s Q E hc q => by
  rw [Sem.wp_bind'] at q ⊢
  exact Sem.wp_mono M Γ m (fun a p' s' x => k a Γ p' s' Q E x.2 x.1) (fun _ _ _ x => x) p s (h Γ p s _ _ hc q)
theorem Keeps.load {a : Addr} : Keeps M e (PySem.load a) := fun Γ p s Q E h q => by
  obtain ⟨o, ho, q⟩ := q
  exact ⟨o, ho, q, h⟩
theorem Keeps.stack : Keeps M e PySem.stack := fun Γ p s Q E h q => ⟨q, h⟩
theorem Keeps.alloc {o : Obj} : Keeps M e (PySem.alloc o) := fun Γ p s Q E ⟨o', vs, h1, h2⟩ q => ⟨q, ⟨o', vs, Heap.get?_push_of_some _ h1, h2⟩⟩
theorem Keeps.update {a : Addr} {f : Obj → Obj} (hf : ∀ o vs, o.data = .fields vs → vs[2]? = some .none → ∃ vs', (f o).data = .fields vs' ∧ vs'[2]? = some .none) : Keeps M e (PySem.update a f) := fun Γ p s Q E ⟨o', vs, h1, h2, h3⟩ q => by
  refine ⟨q.1, q.2, ?_⟩
  by_cases hae : a = e
  · subst hae
    obtain ⟨vs', e1, e2⟩ := hf o' vs h2 h3
    exact ⟨f o', vs', Heap.get?_update_self f h1 (Obj.isFreed_of_fields e1), e1, e2⟩
  · exact ⟨o', vs, (Heap.get?_update_other _ _ hae).trans h1, h2, h3⟩
theorem Keeps.ite {c : Prop} [Decidable c] {a b : Sem α} (ha : Keeps M e a) (hb : Keeps M e b) : Keeps M e (if c then a else b) := by
  by_cases h : c
  · rw [if_pos h]; exact ha
  · rw [if_neg h]; exact hb
theorem Keeps.fieldsOf {v : Value} : Keeps M e (PySem.fieldsOf v) := by
  unfold PySem.fieldsOf
  cases v <;> first | exact Keeps.unsup | skip
  refine Keeps.bind Keeps.load fun o => ?_
  cases o.data <;> first | exact Keeps.unsup | exact Keeps.pure
theorem Keeps.field {v : Value} {i : Nat} : Keeps M e (PySem.field v i) := by
  unfold PySem.field
  refine Keeps.bind Keeps.fieldsOf fun vs => ?_
  cases vs[i]? <;> first | exact Keeps.unsup | exact Keeps.pure
theorem Keeps.setField {v x : Value} {i : Nat} (hi : i ≠ 2) : Keeps M e (PySem.setField v i x) := by
  unfold PySem.setField
  cases v <;> first | exact Keeps.unsup | skip
  unfold updateField
  refine Keeps.bind Keeps.load fun o => ?_
  cases o.data <;> first | exact Keeps.unsup | skip
  refine Keeps.ite (Keeps.update fun o vs h1 h2 => ?_) Keeps.unsup
  exact ⟨_, Obj.data_mapFields h1 _, by rw [Array.getElem?_setIfInBounds_ne hi]; exact h2⟩
theorem Keeps.setFlight {v : Value} {f : Option Addr} : Keeps M e (PySem.setFlight v f) := by
  unfold PySem.setFlight
  exact Keeps.bind Keeps.field fun tb => Keeps.ite (Keeps.setField (by decide)) Keeps.pure
theorem Keeps.newFields {ty : String} {vs : List Value} : Keeps M e (PySem.newFields ty vs) := by
  unfold PySem.newFields newObj
  dsimp only
  refine Keeps.ite (Keeps.bind Keeps.unsup fun _ => ?_) ?_ <;> exact Keeps.bind Keeps.alloc fun _ => Keeps.pure
theorem Keeps.readyFrames : ∀ {l : List Env}, Keeps M e (PySem.readyFrames l)
  | [] => Keeps.pure
  | env :: outer => by
    unfold PySem.readyFrames
    cases env.frame with
    | none => exact Keeps.unsup
    | some f =>
      dsimp only
      refine Keeps.bind Keeps.load fun o => Keeps.ite Keeps.pure ?_
      refine Keeps.bind ?_ fun _ => Keeps.bind ?_ fun _ => Keeps.bind (Keeps.update fun o vs h1 h2 => ⟨vs, h1, h2⟩) fun _ => Keeps.readyFrames
      · unfold behindIsImport
        refine Keeps.ite Keeps.pure (Keeps.ite Keeps.pure (Keeps.bind Keeps.field fun _ => Keeps.pure))
      · cases outer with
        | nil =>
          unfold keptBack
          refine Keeps.ite Keeps.pure (Keeps.bind ?_ fun _ => Keeps.pure)
          unfold underTheClaimsCaller
          exact Keeps.bind Keeps.stack fun _ => Keeps.pure
        | cons c r => exact Keeps.pure
theorem Keeps.frameOf {env : Env} : Keeps M e (PySem.frameOf env) := by
  unfold PySem.frameOf
  refine Keeps.bind (Keeps.bind Keeps.stack fun _ => Keeps.pure) fun l => Keeps.bind ?_ fun r => ?_
  · unfold frameObject
    split
    · exact Keeps.pure
    · exact Keeps.bind Keeps.readyFrames fun _ => Keeps.pure
  · cases r <;> first | exact Keeps.unsup | exact Keeps.pure
theorem Keeps.entryPlaceOf {f : Addr} {b : Bool} : Keeps M e (PySem.entryPlaceOf f b) := by
  unfold PySem.entryPlaceOf
  refine Keeps.bind Keeps.stack fun st => ?_
  split <;> exact Keeps.pure
theorem Keeps.noteFrame {v : Value} {env : Env} : Keeps M e (PySem.noteFrame v env) := by
  unfold PySem.noteFrame
  cases env.frame with
  | none => exact Keeps.unsup
  | some f =>
    dsimp only
    have tail : ∀ head : Value, Keeps M e (do PySem.setField v 1 (← EntryCells.newEntry head (← PySem.frameOf env) .none (rawInt f) .none (← PySem.entryPlaceOf f (head != .none)))) := fun head =>
      Keeps.bind Keeps.frameOf fun _ => Keeps.bind Keeps.entryPlaceOf fun _ => Keeps.bind Keeps.newFields fun _ => Keeps.setField (by decide)
    refine Keeps.bind Keeps.field fun head => Keeps.ite (Keeps.bind Keeps.field fun _ => Keeps.ite Keeps.pure (Keeps.bind (Keeps.setField (by decide)) fun _ => tail head)) (tail head)
theorem Keeps.leave {v : Value} {env : Env} : Keeps M e (PySem.«leaving» env v) := by
  unfold PySem.«leaving»
  exact Keeps.bind Keeps.noteFrame fun _ => Keeps.setFlight
theorem keepsAny {A : Around} {t : Sem α} {Q : α → Shared → Prop} {E : Value → Shared → Prop} {s : Shared} (k : Keeps M e t) (hc : Ctx0 e s.heap) (h : wpAny M A t Q E s) :
    wpAny M A t (fun a s' => Q a s' ∧ Ctx0 e s'.heap) (fun x s' => E x s' ∧ Ctx0 e s'.heap) s := fun Γ p hΓ => k Γ p s _ _ hc (h Γ p hΓ)
end
end Mine
end

section
open PySem PySem.W PySem.Calls PyProof.Rows PySem.Spec PyProof.V
namespace Mine
set_option maxRecDepth 100000
set_option maxHeartbeats 8000000
def stAt (l : List Stmt) (i : Nat) : Stmt := (l[i]?).getD (.Pass default)
def forB : Stmt → List Stmt
  | .For _ _ b _ _ => b
  | _ => []
noncomputable section
def bR1 : {b : List Stmt // forB (stAt bR.1 1) = b} := ⟨_, by (conv => lhs; whnf)⟩
def bR5 : {b : List Stmt // forB (stAt bR.1 5) = b} := ⟨_, by (conv => lhs; whnf)⟩
def bR55 : {b : List Stmt // forB (stAt bR5.1 0) = b} := ⟨_, by (conv => lhs; whnf)⟩
end
abbrev sPlaces : Str := Str.ofString "places"
abbrev sSign : Str := Str.ofString "sign"
abbrev prg : Program := PySem.Challenge.rw_ln0015_01.prog
theorem intsFrom_get : ∀ (l : List Int) (n k : Nat), k < l.length → (intsFrom l n)[k]? = some (.int (l.getD k 0) (n + k))
  | [], _, _, h => by simp at h
  | i :: r, n, 0, _ => by simp [intsFrom]
  | i :: r, n, k + 1, h => by
    have := intsFrom_get r (n + 1) k (by simpa using h)
    simp only [intsFrom, List.getElem?_cons_succ, List.getD_cons_succ, this]
    rw [show n + 1 + k = n + (k + 1) by omega]
theorem codeItem {prog : Program} {w : World} {A : Around} {E : Value → Shared → Prop} {s : Shared} {value slice : Expr} {l : Addr} {xs : List Int} {n0 : Nat} {i : Int} {u : Tok} {Q : Value → Shared → Prop}
    (hl : s.heap.IsList l (intsFrom xs n0).toArray) (h0 : 0 ≤ i) (h1 : i.toNat < xs.length) (hx : xs.length ≤ 4096) (h : Q (.int (xs.getD i.toNat 0) (n0 + i.toNat)) s)
    (hs : subscripted slice false (.ref l) (.int i u) = operate [.ref l, .int i u] (getItem (.ref l) (.int i u)) := by with_unfolding_all rfl) : wpAny (model prog w) A (subscriptTail value slice (.ref l) (.int i u)) Q E s :=
  tail_any hl.typeIs slot_list_getitem.lookup (wpAny_getItem_list hl h0 (by omega) (by rw [List.getElem?_toArray]; exact intsFrom_get xs n0 _ h1) h) hs
theorem turn1 (w : World) {mean : ExcName → Option Value} {mg mb : Str → Option Value} (A : Around) (hu : A.units + 8 < cLine) (h₀ h : Heap) (L d : Addr) (u : Str → Option Value) (news : List (Addr × Obj)) (s : Shared) (tk : Nat) (i : Int) (ti : Tok) (D : List (PyData × PyData)) (E : Value → Shared → Prop)
    (X : (KL w.params).In h₀) (T : Top qv (looseW qv looseN) mean mg mb h₀) (c1 : h₀.IsList 4206 (intsFrom codes 9737).toArray) (c2 : h₀.IsList 4207 (intsFrom lens 9995).toArray)
    (F : Fr h₀ L h (fun y => if y = sSign then some (.int i ti) else if y = sPlaces then some (.ref d) else u y)) (N : News h₀ L h news) (TT : TupTab (intKind PySem.Challenge.rw_ln0015_01.prog w) PyData.int news d D) (h0 : 0 ≤ i) (h1 : i < 257) (hD : D.length ≤ 257)
    (Q : Flow → Shared → Prop) (hQ : ∀ h' tk' news', Fr h₀ L h' (fun y => if y = sSign then some (.int i ti) else if y = sPlaces then some (.ref d) else u y) → News h₀ L h' news' → TupTab (intKind PySem.Challenge.rw_ln0015_01.prog w) PyData.int news' d (putD (encTuple PyData.int [lens.getD i.toNat 0, codes.getD i.toNat 0]) (.int i) D) → (∀ p ∈ news, p.1 ≠ d → p ∈ news') → Q .next { s with heap := h', toks := tk' }) :
    wpAny (model PySem.Challenge.rw_ln0015_01.prog w) A (execs bR1.1 (envOf (Str.ofString "_law_read") cR.1 L 4214 (.ref 4213))) Q E { s with heap := h, toks := tk } := by
  w_on
  revert X
  k_fill
  intro X
  dsimp only [bR1, cR]
  iterate 9 walk1
  refine codeItem (xs := lens) (n0 := 9995) (Fr.lst F c2) h0 (by rw [lens_len]; omega) (by rw [lens_len]; omega) ?_
  iterate 4 walk1
  refine codeItem (xs := codes) (n0 := 9737) (Fr.lst F c1) h0 (by rw [codes_len]; omega) (by rw [codes_len]; omega) ?_
  walk1
  refine kup_newTuple F N ?_ (by rw [sizeLine_eq]; simp)
  intro D' h' F' N' hlt
  refine setItem_tupTab (knd := intKind PySem.Challenge.rw_ln0015_01.prog w) (enc := PyData.int) PyProof.V.same_int (by omega) (Flat.int i ti) F' N' (TT.cons _) (.head _) (TupKeyObj.made (.cons (intKind_is _ _ _ _) (.cons (intKind_is _ _ _ _) .nil))) ?_ (by rw [sizeLine_eq]; omega)
  intro h'' news' F'' N'' T'' hm hk
  dsimp only
  refine wpAny_execs_nil ?_
  exact hQ _ _ news' F'' N'' T'' fun p hp hne => hk p (.tail _ hp) hne
end Mine
end

section
open PySem PySem.W PySem.Calls PyProof.Rows PySem.Spec PyProof.V
namespace Mine
set_option maxRecDepth 100000
set_option maxHeartbeats 8000000
section
variable {prog : Program} {w : World} {A : Around} {E : Value → Shared → Prop} {s : Shared} {env : Env} {h₀ : Heap} {x : Str} {body : List Stmt} {Q : Flow → Shared → Prop}
/-- what a turn leaves, where the ledger may grow -/
def GrowPost (h₀ : Heap) (L : Addr) (J : (Str → Option Value) → List (Addr × Obj) → Prop) (own : List (Addr × Obj)) (s₁ : Shared) (Q : Flow → Shared → Prop) (f : Flow) (s₂ : Shared) : Prop :=
  match f with
  | .ret v => Q (.ret v) s₂
  | .brk => Q .next s₂
  | _ => ∃ h' tk m' nx, s₂ = { s₁ with heap := h', toks := tk } ∧ Fr h₀ L h' m' ∧ News h₀ L h' nx ∧ (∀ p ∈ own, p ∈ nx) ∧ J m' nx
theorem rangeLoop {r : Addr} {b₀ : Int} {t₀ u₀ v₀ : Tok} {n : Nat} {m₀ : Str → Option Value} {news : List (Addr × Obj)} (J : Nat → (Str → Option Value) → List (Addr × Obj) → Prop)
    (hh : HOk A h₀) (hr : IsRange s.heap r 0 b₀ 1 t₀ u₀ v₀) (hsmall : Builtin.Range.small 0 b₀ 1 = true) (hn : Builtin.Range.rangeSize 0 b₀ 1 = (n : Int)) (F : Fr h₀ env.locals s.heap m₀) (N : News h₀ env.locals s.heap news) (hj : J 0 m₀ news)
    (hf : ∀ i m nx h, J i m nx → News h₀ env.locals h nx → (∃ a c, IsRangeIter h s.heap.objs.size a c 1) → J i m (nx.filter fun p => decide (p.1 ≠ s.heap.objs.size)))
    (turn : ∀ (i : Nat) t m₁ nx h tk own, i < n → J i m₁ nx → (∀ p ∈ own, ∃ a c, IsRangeIter h p.1 a c 1) → Fr h₀ env.locals h (fun y => if y = x then some (.int i t) else m₁ y) → News h₀ env.locals h (nx ++ own) →
      wpAny (model prog w) A (execs body env) (GrowPost h₀ env.locals (J (i + 1)) own { s with heap := h, toks := tk } Q) E { s with heap := h, toks := tk })
    (done : ∀ m₁ nx h tk, J n m₁ nx → Fr h₀ env.locals h m₁ → News h₀ env.locals h nx → Q .next { s with heap := h, toks := tk }) :
    wpAny (model prog w) A (pyIter (.ref r)) (fun it s₂ => LoopAtV prog w A h₀ env x body Q E it s₂) E s := by
  refine wpAny_pyIter_range hr hsmall ?_
  have W := walksRange (prog := prog) (w := w) hh s.heap.objs.size (next_is_new F) n
  refine ⟨s.heap.objs.size, _, [s.heap.objs.size], n, _, _, m₀, news, J, rfl, W, hh.offL F (Nat.ne_of_lt F.ns.lt), next_free F, next_off N, ⟨by show IsRangeIter _ _ _ _ _; rw [hn]; simpa using Heap.get?_push_size _ rfl, fun y hy o e => Heap.get?_push_of_some _ (F.keep y o e)⟩, F.push _, next_kept N, hj, ?_, ?_⟩
  · rintro i v m₁ news₁ s₁ own ⟨hh', tk', rfl⟩ hin ⟨_, t, rfl⟩ hJ hoff hfp hget hall st F₁ N₁
    have N₂ : News h₀ env.locals hh' (news₁ ++ own) := fun p hp => N₁ p (List.mem_append.mpr (List.mem_append.mp hp).symm)
    have hit : ∀ p ∈ own, ∃ a c, IsRangeIter hh' p.1 a c 1 := fun p hp => ⟨_, _, (hh.own (hfp p hp) (N₁ p (List.mem_append_left _ hp)).2.2) ▸ st.1⟩
    have F₂ : Fr h₀ env.locals hh' (fun y => if y = x then some (.int (i : Int) t) else m₁ y) := by simpa using F₁
    refine wpAny_mono (turn i t m₁ news₁ hh' tk' own hin hJ hit F₂ N₂) (fun f s₂ p => ?_) fun _ _ e => e
    have fin : (∃ h' tk m' nx, s₂ = ({ ({ s with heap := hh', toks := tk' } : Shared) with heap := h', toks := tk } : Shared) ∧ Fr h₀ env.locals h' m' ∧ News h₀ env.locals h' nx ∧ (∀ p ∈ own, p ∈ nx) ∧ J (i + 1) m' nx) →
        LoopStepU h₀ env.locals [s.heap.objs.size] own (J (i + 1)) { s with heap := hh', toks := tk' } .next s₂ := by
      rintro ⟨h', tk, m', nx, e, F', N', ho, hJ'⟩
      have hI : ∃ a c, IsRangeIter h' s.heap.objs.size a c 1 := by
        have hmem := hall _ (.head _) (next_is_new F) _ st.1
        exact ⟨_, _, (N' _ (ho _ hmem)).1⟩
      refine ⟨rfl, h', tk, m', nx.filter fun p => decide (p.1 ≠ s.heap.objs.size), e, F', ?_, ?_, hf _ _ _ _ hJ' N' hI⟩
      · intro p hp
        rcases List.mem_append.mp hp with hp | hp
        · exact N' p (ho p hp)
        · exact N' p (List.mem_filter.mp hp).1
      · intro p hp hI
        have := (List.mem_filter.mp hp).2
        simp at this hI
        exact this hI
    exact match f, p with
      | .ret _, p => .ret p
      | .brk, p => .brk p
      | .next, p => .next (fin p)
      | .cont, p => .cont (fin p)
  · intro hz k mz nz Fz Nz _ z
    exact done mz nz hz k z Fz Nz
end
section
variable {prog : Program} {w : World} {K : Type} [DecidableEq K] {knd : KeyKind prog w K} {enc : K → PyData} {h₀ h : Heap} {L d I : Addr} {nx : List (Addr × Obj)} {D : List (PyData × PyData)}
theorem tabFilt (T : TupTab knd enc nx d D) (N : News h₀ L h nx) (hI : ∃ a c, IsRangeIter h I a c 1) : TupTab knd enc (nx.filter fun p => decide (p.1 ≠ I)) d D := by
  obtain ⟨lo, o, es, ep, xs, hm, hc, hd, he, hn, hk, hf⟩ := T
  obtain ⟨a, c, hI⟩ := hI
  have ne : ∀ {b : Addr} {ob : Obj}, (b, ob) ∈ nx → ob.cls ≠ .type "range_iterator" → (b, ob) ∈ nx.filter fun p => decide (p.1 ≠ I) := by
    intro b ob hb hcls
    refine List.mem_filter.mpr ⟨hb, decide_eq_true fun e => hcls ?_⟩
    have e : b = I := e
    subst e
    have := (N.get hb).symm.trans hI
    rw [Option.some.inj this]
  refine ⟨lo, o, es, ep, xs, ne hm (by rw [hc.1]; decide), hc, hd, he, hn, fun x hx => ?_, hf⟩
  obtain ⟨ok, hmk, t⟩ := hk x hx
  exact ⟨ok, ne hmk (by rw [t.1]; decide), t⟩
end
noncomputable section
/-- the table of places behind the first n signs -/
def dTab : Nat → List (PyData × PyData)
  | 0 => []
  | n + 1 => putD (encTuple PyData.int [lens.getD n 0, codes.getD n 0]) (.int n) (dTab n)
end
theorem dTab_len : ∀ n, (dTab n).length ≤ n
  | 0 => by simp [dTab]
  | n + 1 => by
    have := putD_length_le (encTuple PyData.int [lens.getD n 0, codes.getD n 0]) (.int n) (dTab n)
    have := dTab_len n
    show (putD _ _ (dTab n)).length ≤ _
    omega
theorem loop1 (w : World) {mean : ExcName → Option Value} {mg mb : Str → Option Value} (A : Around) (hu : A.units + 8 < cLine) (h₀ : Heap) (hh : HOk A h₀) (L d r : Addr) {t₀ u₀ v₀ : Tok} (m₀ : Str → Option Value) (news : List (Addr × Obj)) (s : Shared) (E : Value → Shared → Prop)
    (X : (KL w.params).In h₀) (T : Top qv (looseW qv looseN) mean mg mb h₀) (c1 : h₀.IsList 4206 (intsFrom codes 9737).toArray) (c2 : h₀.IsList 4207 (intsFrom lens 9995).toArray)
    (hr : IsRange s.heap r 0 257 1 t₀ u₀ v₀) (hp : m₀ sPlaces = some (.ref d))
    (F : Fr h₀ L s.heap m₀) (N : News h₀ L s.heap news) (TT : TupTab (intKind PySem.Challenge.rw_ln0015_01.prog w) PyData.int news d [])
    (Q : Flow → Shared → Prop) (hQ : ∀ h' tk' m' nx, (∀ y, y ≠ sSign → m' y = m₀ y) → Fr h₀ L h' m' → News h₀ L h' nx → TupTab (intKind PySem.Challenge.rw_ln0015_01.prog w) PyData.int nx d (dTab 257) → (∀ p ∈ news, p.1 ≠ d → p ∈ nx) → Q .next { s with heap := h', toks := tk' }) :
    wpAny (model PySem.Challenge.rw_ln0015_01.prog w) A (pyIter (.ref r)) (fun it s₂ => LoopAtV PySem.Challenge.rw_ln0015_01.prog w A h₀ (envOf (Str.ofString "_law_read") cR.1 L 4214 (.ref 4213)) sSign bR1.1 Q E it s₂) E s := by
  refine rangeLoop (n := 257) (fun i m nx => (∀ y, y ≠ sSign → m y = m₀ y) ∧ TupTab (intKind PySem.Challenge.rw_ln0015_01.prog w) PyData.int nx d (dTab i) ∧ ∀ p ∈ news, p.1 ≠ d → p ∈ nx) hh hr (by decide +kernel) (by decide +kernel) F N ⟨fun _ _ => rfl, TT, fun _ hp _ => hp⟩ ?_ ?_ ?_
  · rintro i m nx h ⟨a, b, c⟩ N' hI
    refine ⟨a, tabFilt b N' hI, fun p hp hd => List.mem_filter.mpr ⟨c p hp hd, decide_eq_true fun e => ?_⟩⟩
    exact absurd (Heap.lt_size (N p hp).1) (e ▸ Nat.lt_irrefl _)
  · rintro i t m₁ nx h tk own hi ⟨a, b, c⟩ ho F' N'
    have e : (fun y => if y = sSign then some (Value.int (i : Int) t) else m₁ y) = (fun y => if y = sSign then some (Value.int (i : Int) t) else if y = sPlaces then some (.ref d) else m₀ y) := by
      funext y
      by_cases h1 : y = sSign
      · simp [h1]
      · simp only [if_neg h1, a y h1]
        by_cases h2 : y = sPlaces
        · rw [if_pos h2, h2, hp]
        · rw [if_neg h2]
    rw [e] at F'
    have hown : ∀ p ∈ own, p.1 ≠ d := by
      rintro p hpo e
      obtain ⟨a', c', hI⟩ := ho p hpo
      obtain ⟨lo, o, es, ep, xs, hm, hc, _⟩ := b
      have h1 := (N' (d, o) (List.mem_append_left _ hm)).1
      rw [e] at hI
      have h5 : o = _ := Option.some.inj (h1.symm.trans hI)
      have h2 := hc.1
      rw [h5] at h2
      injection h2 with h3
      exact absurd h3 (by decide)
    have TT' : TupTab (intKind PySem.Challenge.rw_ln0015_01.prog w) PyData.int (nx ++ own) d (dTab i) := by
      obtain ⟨lo, o, es, ep, xs, hm, hc, hd, he, hn, hk, hf⟩ := b
      exact ⟨lo, o, es, ep, xs, List.mem_append_left _ hm, hc, hd, he, hn, fun x hx => let ⟨ok, hmk, t⟩ := hk x hx; ⟨ok, List.mem_append_left _ hmk, t⟩, hf⟩
    refine turn1 w A hu h₀ h L d m₀ (nx ++ own) s tk (i : Int) t (dTab i) E X T c1 c2 F' N' TT' (by omega) (by omega) (Nat.le_trans (dTab_len i) (by omega)) _ ?_
    intro h' tk' news' F'' N'' T'' hk
    refine ⟨h', tk', _, news', rfl, F'', N'', fun p hp => hk p (List.mem_append_right _ hp) (hown p hp), ?_, ?_, fun p hp hd => hk p (List.mem_append_left _ (c p hp hd)) hd⟩
    · intro y hy
      simp only [if_neg hy]
      by_cases h2 : y = sPlaces
      · rw [if_pos h2, h2, hp]
      · rw [if_neg h2]
    · exact T''
  · rintro m₁ nx h tk ⟨a, b, c⟩ F' N'
    exact hQ h tk m₁ nx a F' N' b c
end Mine
end

section
open PySem PySem.W PySem.Calls PyProof.Rows PySem.Spec PyProof.V
namespace Mine
set_option maxRecDepth 100000
def kidN : Nat := 93924359501727535662676180784109771642853504090759694680356443240015561993912766035228033065691695781837805878439206286162488575994684248501841654815379988417657443544641942078894745509536509212209172703096233540241638800628627579417089718236234232462317595098971527856189754782319929675473821716414903182663885414718267702474437419192266329646582777344040500447196711697864581674514499831094124961751139618633535411176378139045137038077008908565691032591403236480368481155080749952829913596647517186321779962444039499754592982011480288172653048248837653376751978269015764407197289648135322127728820815787458625580714492488914865792652003797801650669824440199937610257909151024124067093471851951048276787542557338147173946854992089165158008844049949675713346635430094104036885534924905569976360770986326843847580785649403141704065982042794627485085837272048910260044003157488496040580742120504195827331585431171490370644611393172559123471626059748261989103062049944207253194141918061291662494866651715221273395861672556766556167539853233783012604231640681238792535136902268483521127050454688989188518786876433711814879500744319679944987282875078221312121459734169416644418246917564654347620645980641240123264576714886702925785068188001198899515062292937552209527319576664135412495108982084992574255041221593851187303858002135974829545443322448257700001084643892095344579676360523517501880552153494419815768597051603694523951873645933648997754349677523081609496231439757501227352618307012427974857035623001262284036988778964508613000875235329
def sizN : Nat := 3675265415777911739745550027191912533258973148987560970071696372582058077088520077310298965805489217305936075276194283003448559442325704113545016925414756644730111208539618274516424423165107553762919250363519031356452415482270973641617904881426853329950404778323356565004156148921295904831337311973036078196167147160552609225392735649914559212607346349810032767425121649898542288950744136213653485519513371020834285130669065046106640412311191449698795221620425627466553185140195675806192097355468537457751877063475473820891392913257611274874482928452736499264765190177064402015480870539282183514576342167863907451136
def valN : Nat := 136343516730212349397848447975340149808258071296941618225922761114195235662446195358115363350458856902099360970606800620789439835102459076271412753091078804445806550505758445482749014483748693410240143522130747385197671442742348587014090977870964094823625173122849355038547649396923182102827562712552060055193473551992436090991898705845205824378249562980747966963934483593255607027176414032442889195377374568803378104665108707024900611475177267137534687628816530672451456506173212447543877540985853157971561188552788911698087355631316755647529484326281248266699479614920419797054327652117764839757661520272299843187141634792420421711428908567878722561473773052907734612613952401651622440353679832877409297556204169305935694270969269124373967791523577197123689301476664124753220119562535674615367613797628664597265311668872329411552154266840045418860659370556734973053778030263053017624012124041243220247687066933690457367342331295974587647970934542132789351052656120457216658109340740558598123363650058208359768658178229567211251827791866858530679144488644606612135000142436483104207907887563985612970574367555071260073344233936163679762156920639620223630059840776285960450584728357899746444388843720779374120856297213038970377034895505698341803850743872834239899435769591300970175353533523389846811510600520992159091822502942002855495973784163333309256674036892732862421672826469924696170988360126363908150062299523877587695902222621646199194836399291668033726691266442129952584579580693541702179262665342104105758842971198178861644719984097890635488677348301830171717202978550181088137552055338328853110277158450528680942607631258773327566679139139731441518166906511029667498612180783138138872772943638322092974151030898854121421605464470817543314055324940713050423966433035328417437252614550645700100231921829538992880957491526587768516779182327466008943161949728507202913094072273251448798179092172541227174214000691759002001734513144520819124508466471814949120379358795466271374306352101243062419533534174731773615106100154885489358598157734787087917370252778398120364815682385929743750899407777253002063656166539061917328878572050976734632048608413467688409580038774333854498857696174203100950044664698411680487334606440154336304924594343321162194682401348205234847077653451335884586645387974500335931582895236068364279792910008753133622042340216890356420612470408405411050242689124157043710528039113118881776909268224930436964926999180810661462003861080244224
def keyLit : List Nat := [55834583032, 98792636376, 120527519714, 120527519715, 120527519716, 120527519717, 120527519718, 120527519719, 120527519720, 103095992298, 129922760700, 120527519721, 120527519722, 129922760701, 120527519723, 120527519724, 120527519725, 120527519726, 120527519727, 120527519728, 120527519729, 120527519730, 129922760702, 120527519731, 120527519732, 120527519733, 120527519734, 120527519735, 120527519736, 120527519737, 120527519738, 120527519739, 25769803796, 42949673976, 42949673977, 51539611642, 55834583033, 25769803797, 34359738616, 47244642298, 42949673978, 42949673979, 34359738617, 47244642299, 34359738618, 25769803798, 25769803799, 25769803800, 21474836480, 21474836481, 21474836482, 25769803801, 25769803802, 25769803803, 25769803804, 25769803805, 25769803806, 25769803807, 30064771164, 34359738619, 64424542204, 25769803808, 51539611643, 42949673980, 55834583034, 25769803809, 30064771165, 30064771166, 30064771167, 30064771168, 30064771169, 30064771170, 30064771171, 30064771172, 30064771173, 30064771174, 30064771175, 30064771176, 30064771177, 30064771178, 30064771179, 30064771180, 30064771181, 30064771182, 30064771183, 30064771184, 30064771185, 30064771186, 34359738620, 30064771187, 34359738621, 55834583035, 81604902896, 55834583036, 60129558524, 25769803810, 64424542205, 21474836483, 25769803811, 21474836484, 25769803812, 21474836485, 25769803813, 25769803814, 25769803815, 21474836486, 30064771188, 30064771189, 25769803816, 25769803817, 25769803818, 21474836487, 25769803819, 30064771190, 25769803820, 21474836488, 21474836489, 25769803821, 30064771191, 30064771192, 30064771193, 30064771194, 30064771195, 64424542206, 47244642300, 60129558525, 55834583037, 120527519740, 85900394470, 94493474770, 85900394471, 85900394472, 94493474771, 94493474772, 94493474773, 98792636377, 94493474774, 98792636378, 98792636379, 98792636380, 98792636381, 98792636382, 103095992299, 98792636383, 103095992300, 103095992301, 94493474775, 98792636384, 103095992302, 98792636385, 98792636386, 98792636387, 98792636388, 90196410332, 94493474776, 98792636389, 94493474777, 98792636390, 98792636391, 103095992303, 94493474778, 90196410333, 85900394473, 94493474779, 94493474780, 98792636392, 98792636393, 90196410334, 98792636394, 94493474781, 94493474782, 103095992304, 90196410335, 94493474783, 98792636395, 98792636396, 90196410336, 90196410337, 94493474784, 90196410338, 98792636397, 94493474785, 98792636398, 98792636399, 85900394474, 94493474786, 94493474787, 94493474788, 98792636400, 94493474789, 94493474790, 98792636401, 111736258528, 111736258529, 85900394475, 81604902897, 94493474791, 98792636402, 94493474792, 107407736812, 111736258530, 111736258531, 111736258532, 116098334686, 116098334687, 111736258533, 103095992305, 107407736813, 81604902898, 90196410339, 111736258534, 116098334688, 116098334689, 111736258535, 116098334690, 103095992306, 90196410340, 90196410341, 111736258536, 111736258537, 120527519741, 116098334691, 116098334692, 116098334693, 85900394476, 103095992307, 85900394477, 90196410342, 94493474793, 90196410343, 90196410344, 98792636403, 94493474794, 94493474795, 107407736814, 107407736815, 103095992308, 103095992309, 111736258538, 98792636404, 111736258539, 116098334694, 111736258540, 111736258541, 116098334695, 116098334696, 116098334697, 116098334698, 116098334699, 120527519742, 116098334700, 116098334701, 116098334702, 116098334703, 116098334704, 111736258542, 129922760703]
def kid (st b : Nat) : Nat := (kidN >>> (10 * (2 * st + b))) % 1024
def nsz (st : Nat) : Nat := (sizN >>> (8 * st)) % 256
def nval (st : Nat) : Nat := (valN >>> (32 * st)) % 4294967296
/-- the last place of a key, plus one -/
def scanN (key : Nat) : List Nat → Nat → Nat → Nat
  | [], _, r => r
  | x :: t, i, r => scanN key t (i + 1) (cond (Nat.beq x key) (i + 1) r)
theorem scanN_snoc (key : Nat) : ∀ (l : List Nat) (x i r : Nat), scanN key (l ++ [x]) i r = cond (Nat.beq x key) (i + l.length + 1) (scanN key l i r)
  | [], x, i, r => by simp [scanN]
  | y :: l, x, i, r => by
    simp only [List.cons_append, scanN, scanN_snoc key l, List.length_cons]
    rw [show i + 1 + l.length + 1 = i + (l.length + 1) + 1 by omega]
def fin1 (st : Nat) : Nat := cond (Nat.blt (nsz st) 8 && Nat.beq (nval st + 1) (2 ^ nsz st)) 1 0
def chkKid (st b : Nat) : Bool :=
  Nat.beq (scanN ((nsz st + 1) * 4294967296 + (2 * nval st + b)) keyLit 0 0) (cond (Nat.blt (kid st b) 256) 0 (kid st b - 255)) && Nat.blt (nval st) 1073741824 && Nat.blt (nsz st) 30 && Nat.blt (kid st b) 513 &&
    cond (Nat.blt (kid st b) 256) (Nat.beq (nsz (kid st b)) (nsz st + 1) && Nat.beq (nval (kid st b)) (2 * nval st + b)) true
def allTo (f : Nat → Bool) : Nat → Bool
  | 0 => true
  | n + 1 => f n && allTo f n
theorem allTo_at {f : Nat → Bool} : ∀ {n : Nat}, allTo f n = true → ∀ i, i < n → f i = true
  | 0, _, i, h => by omega
  | n + 1, h, i, hi => by
    simp only [allTo, Bool.and_eq_true] at h
    by_cases e : i = n
    · rw [e]; exact h.1
    · exact allTo_at h.2 i (by omega)
theorem chk_kids : allTo (fun j => chkKid (j / 2) (j % 2)) 512 = true := by decide +kernel
theorem chk_root : nsz 0 = 0 ∧ nval 0 = 0 := by decide +kernel
theorem key_lit : keyLit = (List.range 257).map fun i => (lens.getD i 0).toNat * 4294967296 + (codes.getD i 0).toNat := by kernel_rfl
theorem key_ok : ((List.range 257).all fun i => decide (0 ≤ lens.getD i 0) && decide (0 ≤ codes.getD i 0) && decide (codes.getD i 0 < 4294967296)) = true := by kernel_rfl
/-- one bit read at an inner node -/
def rd1 (st b : Nat) : Option (Nat × List Nat) := cond (Nat.blt (kid st b) 256) (some (kid st b, [])) (cond (Nat.beq (kid st b) 512) none (some (0, [kid st b - 256])))
def rdBits : Nat → List Nat → Option (Nat × List Nat)
  | st, [] => some (st, [])
  | st, b :: bs => match rd1 st b with
    | none => none
    | some (st', o) => match rdBits st' bs with
      | none => none
      | some (st'', o') => some (st'', o ++ o')
def bits4 (n : Nat) : List Nat := [n / 8 % 2, n / 4 % 2, n / 2 % 2, n % 2]
def intIs (x : Int) (n : Nat) : Bool := match x with
  | .ofNat m => Nat.beq m n
  | .negSucc _ => false
theorem intIs_eq {x : Int} {n : Nat} (h : intIs x n = true) : x = n := by
  cases x with
  | ofNat m => exact congrArg Int.ofNat (Nat.eq_of_beq_eq_true h)
  | negSucc m => cases h
def chkTup (st n : Nat) (x : Tup) : Bool := match rdBits st (bits4 n) with
  | none => intIs x.i 4
  | some (st', o) => intIs x.a st' && Nat.blt st' 256 && (match o with
    | [] => intIs x.i (fin1 st')
    | [c] => intIs x.i (2 + fin1 st') && intIs x.c c && Nat.blt c 256
    | _ => false)
def chkList : List Tup → Nat → Bool
  | [], i => Nat.beq i 4096
  | x :: r, i => chkTup (i / 16) (i % 16) x && chkList r (i + 1)
noncomputable def tabL : List Tup := tabStmts.flatMap tupsOf
theorem chk_tab : chkList tabL 0 = true := by kernel_rfl
end Mine
end

section
open PySem PySem.W PySem.Calls PyProof.Rows PySem.Spec PyProof.V
namespace Mine
set_option maxRecDepth 100000
theorem keyLit_len : keyLit.length = 257 := by rw [key_lit]; simp
theorem keyLit_get {n : Nat} (h : n < 257) : keyLit[n]? = some ((lens.getD n 0).toNat * 4294967296 + (codes.getD n 0).toNat) := by
  rw [key_lit, List.getElem?_map, List.getElem?_range h]; rfl
def optI : Nat → Option PyData
  | 0 => none
  | n + 1 => some (.int n)
theorem look_scan {l c : Nat} (hc : c < 4294967296) : ∀ n, n ≤ 257 → lookup (encTuple PyData.int [(l : Int), (c : Int)]) (dTab n) = optI (scanN (l * 4294967296 + c) (keyLit.take n) 0 0)
  | 0, _ => rfl
  | n + 1, hn => by
    have ih := look_scan (l := l) hc n (by omega)
    have ht : keyLit.take (n + 1) = keyLit.take n ++ [(lens.getD n 0).toNat * 4294967296 + (codes.getD n 0).toNat] := by
      rw [List.take_add_one, keyLit_get (by omega)]; rfl
    have hl : (keyLit.take n).length = n := by rw [List.length_take, keyLit_len]; omega
    rw [ht, scanN_snoc, hl]
    have ok := List.all_eq_true.mp key_ok n (List.mem_range.mpr (by omega))
    simp only [Bool.and_eq_true, decide_eq_true_eq] at ok
    obtain ⟨⟨h1, h2⟩, h3⟩ := ok
    show lookup _ (putD (encTuple PyData.int [lens.getD n 0, codes.getD n 0]) (.int n) (dTab n)) = _
    generalize lens.getD n 0 = x at *
    generalize codes.getD n 0 = y at *
    by_cases e : ([(l : Int), (c : Int)] : List Int) = [x, y]
    · have e1 : x = l := by injection e with a _; exact a.symm
      have e2 : y = c := by injection e with _ a; injection a with a _; exact a.symm
      rw [e, lookup_putK_same (keyEnc_tuple keyEnc_int)]
      have : Nat.beq (x.toNat * 4294967296 + y.toNat) (l * 4294967296 + c) = true := by rw [e1, e2]; simp
      rw [this]
      simp [optI]
    · rw [lookup_putK_other (keyEnc_tuple keyEnc_int) e, ih]
      have : Nat.beq (x.toNat * 4294967296 + y.toNat) (l * 4294967296 + c) = false := by
        rw [BT.beq_eq]
        refine decide_eq_false fun q => e ?_
        have : x.toNat = l ∧ y.toNat = c := by omega
        rw [← this.1, ← this.2, Int.toNat_of_nonneg h1, Int.toNat_of_nonneg h2]
      rw [this]
      rfl
structure KidOk (st b : Nat) : Prop where
  look : lookup (encTuple PyData.int [((nsz st + 1 : Nat) : Int), ((2 * nval st + b : Nat) : Int)]) (dTab 257) = if kid st b < 256 then none else some (.int ((kid st b - 256 : Nat) : Int))
  le : kid st b ≤ 512
  sz : nsz st < 30
  vl : nval st < 1073741824
  down : kid st b < 256 → nsz (kid st b) = nsz st + 1 ∧ nval (kid st b) = 2 * nval st + b
theorem kidOk {st b : Nat} (hs : st < 256) (hb : b < 2) : KidOk st b := by
  have h := allTo_at chk_kids (2 * st + b) (by omega)
  rw [show (2 * st + b) / 2 = st by omega, show (2 * st + b) % 2 = b by omega] at h
  simp only [chkKid, Bool.and_eq_true] at h
  obtain ⟨⟨⟨⟨h1, h2⟩, h3⟩, h4⟩, h5⟩ := h
  have h1 := Nat.eq_of_beq_eq_true h1
  have h2 : nval st < 1073741824 := Nat.le_of_ble_eq_true h2
  have h3 : nsz st < 30 := Nat.le_of_ble_eq_true h3
  have h4 : kid st b < 513 := Nat.le_of_ble_eq_true h4
  have hl := look_scan (l := nsz st + 1) (c := 2 * nval st + b) (by omega) 257 (by omega)
  rw [List.take_of_length_le (by rw [keyLit_len]; omega), h1] at hl
  by_cases hk : kid st b < 256
  · have e : Nat.blt (kid st b) 256 = true := Nat.ble_eq_true_of_le hk
    rw [e] at hl h5
    simp only [cond_true, Bool.and_eq_true] at h5 hl
    exact ⟨by rw [hl, if_pos hk]; rfl, by omega, h3, h2, fun _ => ⟨Nat.eq_of_beq_eq_true h5.1, Nat.eq_of_beq_eq_true h5.2⟩⟩
  · have e : Nat.blt (kid st b) 256 = false := by
      cases q : Nat.blt (kid st b) 256 with
      | false => rfl
      | true => exact absurd (Nat.le_of_ble_eq_true q) hk
    rw [e] at hl
    refine ⟨?_, by omega, h3, h2, fun q => absurd q hk⟩
    rw [hl, if_neg hk]
    show optI (kid st b - 255) = _
    rw [show kid st b - 255 = (kid st b - 256) + 1 by omega]
    rfl
end Mine
end

section
open PySem PySem.W PySem.Calls PyProof.Rows PySem.Spec PyProof.V
namespace Mine
set_option maxRecDepth 100000
set_option linter.unusedVariables false
noncomputable section
def okIns : BT → Nat → List Obj → Bool
  | _, _, [] => true
  | t, n, o :: r => ((t.ins n o).get n).isSome && okIns (t.ins n o) (n + 1) r
theorem insAll_get : ∀ (l : List Obj) (t : BT) (n i : Nat), okIns t n l = true → i < n → (insAll t n l).get i = t.get i
  | [], _, _, _, _, _ => rfl
  | o :: r, t, n, i, h, hi => by
    simp only [okIns, Bool.and_eq_true] at h
    rw [insAll, insAll_get r (t.ins n o) (n + 1) i h.2 (by omega), BT.get_ins o t n h.1 i, if_neg (by omega)]
theorem last_ok (P : Params) : okIns (((treeC P).set 3 fun _ => nsObj (nsF P) 52).set 12 fun _ => o12F) 4208 lastObjs = true := by kernel_rfl
theorem treeF_get (P : Params) {i : Nat} (hi : i < 4208) (h3 : i ≠ 3) (h12 : i ≠ 12) : (treeF P).get i = (objsC P)[i]? := by
  rw [treeF, insAll_get _ _ _ _ (last_ok P) hi, BT.get_set, if_neg h12, BT.get_set, if_neg h3, treeC, btOf_get _ _ 13 1 0 i (by omega) (by omega)]
  have hl := objsC_len P
  simp only [Nat.zero_add, Nat.one_mul, if_pos hi, List.getD_eq_getElem?_getD]
  rw [List.getElem?_eq_getElem (by omega)]; rfl
theorem heapF_get (P : Params) {i : Nat} {o : Obj} (hi : i < 4208) (h3 : i ≠ 3) (h12 : i ≠ 12) (ho : (objsC P)[i]? = some o) (hf : o.isFreed = false) : (heapF P).get? i = some o := by
  have e : (heapF P).objs[i]? = some o := by
    show ((BT.list (treeF P) 4220).toArray)[i]? = some o
    rw [List.getElem?_toArray]
    unfold BT.list
    rw [List.getElem?_map, List.getElem?_range (by omega)]
    simp only [Option.map_some, treeF_get P hi h3 h12, ho, Option.getD_some]
  unfold Heap.get?
  rw [e]
  obtain ⟨c, d, dt, sl⟩ := o
  cases dt <;> first | rfl | cases hf
theorem objsC_mid (P : Params) {i : Nat} : (objsC P)[47 + i]? = (stC P).mid[i]? := by
  rw [objsC, List.getElem?_append_right (by rw [List.length_set, pre_len]; omega), List.length_set, pre_len]
  congr 1; omega
theorem layObjsT_get : ∀ (l : List Tup) (n j : Nat) (x : Tup), l[j]? = some x → ∃ n', (layObjsT l n)[j]? = some (x.obj n')
  | [], _, _, _, h => by simp at h
  | y :: r, n, 0, x, h => by simp at h; subst h; exact ⟨n, rfl⟩
  | y :: r, n, j + 1, x, h => by
    obtain ⟨n', e⟩ := layObjsT_get r (y.next n) j x (by simpa using h)
    exact ⟨n', by simpa [layObjsT] using e⟩
theorem mids_get : ∀ (l : List Stmt) (a n t j : Nat) (s : Stmt) (x : Tup), (l.all fun s => Nat.beq (tupsOf s).length 128) = true → l[t]? = some s → (tupsOf s)[j]? = some x → j < 128 → ∃ n', (mids l a n)[129 * t + j]? = some (x.obj n')
  | [], _, _, _, _, _, _, _, h, _, _ => by simp at h
  | y :: l, a, n, t, j, s, x, hs, ht, hx, hj => by
    simp only [List.all_cons, Bool.and_eq_true] at hs
    have h8 : (tupsOf y).length = 128 := Nat.eq_of_beq_eq_true hs.1
    have hl : (layObjsT (tupsOf y) n).length = 128 := by rw [layObjsT_length, h8]
    unfold mids
    cases t with
    | zero =>
      simp at ht
      subst ht
      rw [Nat.mul_zero, Nat.zero_add, List.getElem?_append_left (by omega)]
      exact layObjsT_get _ n j x hx
    | succ t =>
      rw [List.getElem?_append_right (by omega), hl, show 129 * (t + 1) + j - 128 = (129 * t + j) + 1 by omega, List.getElem?_cons_succ]
      exact mids_get l _ _ t j s x hs.2 (by simpa using ht) hx hj
theorem flat_get : ∀ (l : List Stmt) (t j : Nat) (s : Stmt), (l.all fun s => Nat.beq (tupsOf s).length 128) = true → l[t]? = some s → j < 128 → (l.flatMap tupsOf)[128 * t + j]? = (tupsOf s)[j]?
  | [], _, _, _, _, h, _ => by simp at h
  | y :: l, t, j, s, hs, ht, hj => by
    simp only [List.all_cons, Bool.and_eq_true] at hs
    have h8 : (tupsOf y).length = 128 := Nat.eq_of_beq_eq_true hs.1
    rw [List.flatMap_cons]
    cases t with
    | zero =>
      simp at ht
      subst ht
      rw [Nat.mul_zero, Nat.zero_add, List.getElem?_append_left (by omega)]
    | succ t =>
      rw [List.getElem?_append_right (by omega), h8, show 128 * (t + 1) + j - 128 = 128 * t + j by omega]
      exact flat_get l t j s hs.2 (by simpa using ht) hj
def tabAddr (i : Nat) : Nat := 47 + 129 * (i / 128) + i % 128
theorem tab_tuple (P : Params) {i : Nat} (hi : i < 4096) : ∃ x n, tabL[i]? = some x ∧ (heapF P).get? (tabAddr i) = some (x.obj n) := by
  have hl : tabStmts.length = 32 := by kernel_rfl
  have ht : tabStmts[i / 128]? = some (tabStmts[i / 128]'(by omega)) := List.getElem?_eq_getElem (by omega)
  have h8 : (tupsOf (tabStmts[i / 128]'(by omega))).length = 128 := Nat.eq_of_beq_eq_true (List.all_eq_true.mp tups_128 _ (List.getElem_mem _))
  have hx : (tupsOf (tabStmts[i / 128]'(by omega)))[i % 128]? = some ((tupsOf (tabStmts[i / 128]'(by omega)))[i % 128]'(by omega)) := List.getElem?_eq_getElem (by omega)
  obtain ⟨n, e⟩ := mids_get tabStmts 47 251 (i / 128) (i % 128) _ _ tups_128 ht hx (by omega)
  refine ⟨(tupsOf (tabStmts[i / 128]'(by omega)))[i % 128]'(by omega), n, ?_, heapF_get P (by unfold tabAddr; omega) (by unfold tabAddr; omega) (by unfold tabAddr; omega) ?_ rfl⟩
  · have := flat_get tabStmts (i / 128) (i % 128) _ tups_128 ht (by omega)
    rw [show 128 * (i / 128) + i % 128 = i by omega, hx] at this
    exact this
  · unfold tabAddr
    rw [Nat.add_assoc, objsC_mid]
    have hm : (stC P).mid = midT ++ (objsR tbs ++ ([lst (intsFrom codes 9737).toArray] ++ [lst (intsFrom lens 9995).toArray])) := by simp [stC]
    rw [hm, List.getElem?_append_left (by rw [midT_len]; omega)]
    exact e
theorem refsFrom_get (a n j : Nat) (h : j < n) : (refsFrom a n)[j]? = some (.ref (a + j)) := by
  unfold refsFrom
  rw [List.getElem?_map, List.getElem?_range' h]
  simp
/-- what the sum of the tables holds -/
def tabRefs : Array Value := ((List.range 4096).map fun i => Value.ref (tabAddr i)).toArray
theorem accR_cons (x : Tb) : ∀ r : List Tb, accR (x :: r) = accR r ++ x.2.2
  | [] => by simp [accR]
  | _ :: _ => rfl
theorem acc_tabs : ∀ n : Nat, accR ((List.range n).reverse.map tbAt) = ((List.range (128 * n)).map fun i => Value.ref (tabAddr i)).toArray
  | 0 => rfl
  | n + 1 => by
    rw [List.range_succ, List.reverse_append, List.reverse_singleton, List.singleton_append, List.map_cons, accR_cons, acc_tabs n]
    apply Array.ext'
    rw [Array.toList_append]
    show ((List.range (128 * n)).map fun i => Value.ref (tabAddr i)) ++ (refsFrom (47 + 129 * n) 128) = (List.range (128 * (n + 1))).map fun i => Value.ref (tabAddr i)
    rw [Nat.mul_succ, List.range_add, List.map_append]
    congr 1
    unfold refsFrom
    rw [List.range'_eq_map_range, List.map_map, List.map_map]
    apply List.map_congr_left
    intro j hj
    have := List.mem_range.mp hj
    simp only [Function.comp, tabAddr]
    rw [show (128 * n + j) / 128 = n by omega, show (128 * n + j) % 128 = j by omega]
theorem objs_last (P : Params) : (objsR tbs)[30]? = some (lst (accR tbs)) := by
  have e : tbs = tbAt 31 :: tbAt 30 :: (List.range 30).reverse.map tbAt := rfl
  have hl := cats_len
  rw [e] at hl ⊢
  have e2 : objsR (tbAt 31 :: tbAt 30 :: (List.range 30).reverse.map tbAt) = objsR (tbAt 30 :: (List.range 30).reverse.map tbAt) ++ [lst (accR (tbAt 31 :: tbAt 30 :: (List.range 30).reverse.map tbAt))] := rfl
  rw [e2] at hl ⊢
  rw [List.length_append, List.length_singleton] at hl
  rw [List.getElem?_append_right (by omega), show 30 - (objsR (tbAt 30 :: (List.range 30).reverse.map tbAt)).length = 0 by omega]
  rfl
theorem tab_list (P : Params) : (heapF P).get? 4205 = some (lst tabRefs) := by
  refine heapF_get P (by omega) (by omega) (by omega) ?_ rfl
  rw [show 4205 = 47 + 4158 by omega, objsC_mid]
  have hm : (stC P).mid = midT ++ (objsR tbs ++ ([lst (intsFrom codes 9737).toArray] ++ [lst (intsFrom lens 9995).toArray])) := by simp [stC]
  rw [hm, List.getElem?_append_right (by rw [midT_len]; omega), midT_len, List.getElem?_append_left (by rw [cats_len]; omega), objs_last P]
  have := acc_tabs 32
  rw [show tbs = (List.range 32).reverse.map tbAt from rfl, this]
  rfl
theorem tab_codes (P : Params) : (heapF P).get? 4206 = some (lst (intsFrom codes 9737).toArray) := by
  refine heapF_get P (by omega) (by omega) (by omega) ?_ rfl
  rw [show 4206 = 47 + 4159 by omega, objsC_mid]
  have hm : (stC P).mid = midT ++ (objsR tbs ++ ([lst (intsFrom codes 9737).toArray] ++ [lst (intsFrom lens 9995).toArray])) := by simp [stC]
  rw [hm, List.getElem?_append_right (by rw [midT_len]; omega), midT_len, List.getElem?_append_right (by rw [cats_len]; omega), cats_len]
  rfl
theorem tab_lens (P : Params) : (heapF P).get? 4207 = some (lst (intsFrom lens 9995).toArray) := by
  refine heapF_get P (by omega) (by omega) (by omega) ?_ rfl
  rw [show 4207 = 47 + 4160 by omega, objsC_mid]
  have hm : (stC P).mid = midT ++ (objsR tbs ++ ([lst (intsFrom codes 9737).toArray] ++ [lst (intsFrom lens 9995).toArray])) := by simp [stC]
  rw [hm, List.getElem?_append_right (by rw [midT_len]; omega), midT_len, List.getElem?_append_right (by rw [cats_len]; omega), cats_len]
  rfl
theorem tabRefs_get {i : Nat} (h : i < 4096) : tabRefs[i]? = some (.ref (tabAddr i)) := by
  rw [tabRefs, List.getElem?_toArray, List.getElem?_map, List.getElem?_range h]; rfl
theorem chkList_get : ∀ (l : List Tup) (i j : Nat) (x : Tup), chkList l i = true → l[j]? = some x → chkTup ((i + j) / 16) ((i + j) % 16) x = true
  | [], _, _, _, _, h => by simp at h
  | y :: l, i, 0, x, h, hx => by
    simp only [chkList, Bool.and_eq_true] at h
    simp at hx; subst hx; exact h.1
  | y :: l, i, j + 1, x, h, hx => by
    simp only [chkList, Bool.and_eq_true] at h
    have := chkList_get l (i + 1) j x h.2 (by simpa using hx)
    rwa [show i + 1 + j = i + (j + 1) by omega] at this
/-- the table's entry at a state and a nibble -/
theorem tab_entry (P : Params) {st n : Nat} (hs : st < 256) (hn : n < 16) : ∃ x t, (heapF P).get? (tabAddr (16 * st + n)) = some (Tup.obj x t) ∧ chkTup st n x = true := by
  obtain ⟨x, t, e, g⟩ := tab_tuple P (i := 16 * st + n) (by omega)
  refine ⟨x, t, g, ?_⟩
  have := chkList_get tabL 0 (16 * st + n) x chk_tab e
  rwa [show (0 + (16 * st + n)) / 16 = st by omega, show (0 + (16 * st + n)) % 16 = n by omega] at this
end
end Mine
end

section
open PySem PySem.W PySem.Calls PyProof.Rows PySem.Spec PyProof.V
namespace Mine
set_option maxRecDepth 100000
set_option maxHeartbeats 8000000
abbrev sPlace : Str := Str.ofString "place"
abbrev sOctet : Str := Str.ofString "octet"
abbrev sSize : Str := Str.ofString "size"
abbrev sVal : Str := Str.ofString "value"
abbrev sRead : Str := Str.ofString "read"
abbrev sOctets : Str := Str.ofString "octets"
abbrev lstO (vs : List Value) (n : Nat) : Obj := { cls := .type "list", data := .seq vs.toArray n }
theorem Fr.to {h₀ h : Heap} {L : Addr} {m m' : Str → Option Value} (F : Fr h₀ L h m) (e : ∀ y, m y = m' y) : Fr h₀ L h m' := (funext e : m = m') ▸ F
abbrev mR (u : Str → Option Value) (d rd : Addr) (o p z v : Int) (to tp tz tv : Tok) : Str → Option Value := fun y => if y = sPlace then some (.int p tp) else if y = sOctet then some (.int o to) else if y = sSize then some (.int z tz) else if y = sVal then some (.int v tv) else if y = sPlaces then some (.ref d) else if y = sRead then some (.ref rd) else u y
def bitOf (o p : Nat) : Nat := o / 2 ^ (7 - p) % 2
theorem bit_eq {o p : Nat} (hp : p < 8) : Int.fmod (Int.fdiv (o : Int) (2 ^ ((7 : Int) - (p : Int)).toNat)) 2 = ((bitOf o p : Nat) : Int) := by
  have e : ((7 : Int) - (p : Int)).toNat = 7 - p := by omega
  rw [e, Int.fdiv_eq_ediv_of_nonneg _ (Int.le_of_lt (Int.pow_pos (by decide))), Int.fmod_eq_emod_of_nonneg _ (by decide)]
  unfold bitOf
  push_cast
  rfl
theorem two_eq {v b : Nat} : (2 : Int) * (v : Int) + (b : Int) = ((2 * v + b : Nat) : Int) := by push_cast; rfl
theorem one_eq {z : Nat} : (z : Int) + 1 = ((z + 1 : Nat) : Int) := by push_cast; rfl
theorem pow_small {p : Nat} (hp : p < 8) : ((2 : Int) ^ ((7 : Int) - (p : Int)).toNat).natAbs < 1073741824 := by
  have : ((7 : Int) - (p : Int)).toNat = 7 - p := by omega
  rw [this]
  have : 7 - p = 0 ∨ 7 - p = 1 ∨ 7 - p = 2 ∨ 7 - p = 3 ∨ 7 - p = 4 ∨ 7 - p = 5 ∨ 7 - p = 6 ∨ 7 - p = 7 := by omega
  rcases this with h | h | h | h | h | h | h | h <;> rw [h] <;> decide
theorem bit_lt (o p : Nat) : bitOf o p < 2 := Nat.mod_lt _ (by decide)
theorem mR_set {u : Str → Option Value} {d rd : Addr} {o p z v z' v' : Int} {to tp tz tv tz' tv' : Tok} (y : Str) :
    (if y = sSize then some (Value.int z' tz') else if y = sVal then some (Value.int v' tv') else mR u d rd o p z v to tp tz tv y) = mR u d rd o p z' v' to tp tz' tv' y := by
  by_cases a : y = sSize
  · subst a; rfl
  · rw [if_neg a]
    by_cases b : y = sVal
    · subst b; rfl
    · rw [if_neg b]; simp only [mR, if_neg a, if_neg b]
theorem mR_set0 {u : Str → Option Value} {d rd : Addr} {o p z v z1 v1 z' v' : Int} {to tp tz tv tz1 tv1 tz' tv' : Tok} (y : Str) :
    (if y = sVal then some (Value.int v' tv') else if y = sSize then some (Value.int z' tz') else if y = sSize then some (Value.int z1 tz1) else if y = sVal then some (Value.int v1 tv1) else mR u d rd o p z v to tp tz tv y) = mR u d rd o p z' v' to tp tz' tv' y := by
  by_cases a : y = sSize
  · subst a; rfl
  · by_cases b : y = sVal
    · subst b; rfl
    · simp only [mR, if_neg a, if_neg b]
theorem newsSub {h₀ h : Heap} {L : Addr} {a b : List (Addr × Obj)} (N : News h₀ L h a) (hs : ∀ p ∈ b, p ∈ a) : News h₀ L h b := fun p hp => N p (hs p hp)
theorem appendN {prog : Program} {w : World} {A : Around} {E : Value → Shared → Prop} {s : Shared} {h₀ : Heap} {L rd : Addr} {m : Str → Option Value} {its : List Value} {nl : Nat} {rest : List (Addr × Obj)} {x : Value} {Q : Value → Shared → Prop}
    (F : Fr h₀ L s.heap m) (N : News h₀ L s.heap ((rd, lstO its nl) :: rest)) (hrd : ∀ q ∈ rest, q.1 ≠ rd) (hz : its.length ≤ sizeLine)
    (h : ∀ h' nl', Fr h₀ L h' m → News h₀ L h' ((rd, lstO (its ++ [x]) nl') :: rest) → Q .none { s with heap := h' }) :
    wpAny (model prog w) A (call (.builtin "list.append") [.ref rd, x]) Q E s := by
  have hp := N _ (.head _)
  refine wpAny_list_append_plain (items := its.toArray) ⟨nl, hp.1⟩ (fun h' hpl hs => ?_) (by simpa using hz)
  obtain ⟨n', e⟩ := hpl
  rw [List.push_toArray] at e
  refine h h' n' (F.change hs hp.2.1 hp.2.2) fun q hq => ?_
  rcases List.mem_cons.mp hq with rfl | hq
  · exact ⟨e, hp.2.1, hp.2.2⟩
  · have := N q (.tail _ hq)
    exact ⟨(hs.2 q.1 (hrd q hq)).trans this.1, this.2⟩
theorem turnR (w : World) {mean : ExcName → Option Value} {mg mb : Str → Option Value} (A : Around) (hu : A.units + 8 < cLine) (h₀ h : Heap) (L d rd : Addr) (u : Str → Option Value) (its : List Value) (nl : Nat) (rest : List (Addr × Obj)) (s : Shared) (tk : Nat)
    (st o p : Nat) (to tp tz tv : Tok) (E : Value → Shared → Prop) (hst : st < 256) (ho : o < 256) (hp : p < 8)
    (X : (KL w.params).In h₀) (T : Top qv (looseW qv looseN) mean mg mb h₀)
    (F : Fr h₀ L h (mR u d rd o p (nsz st) (nval st) to tp tz tv)) (N : News h₀ L h ((rd, lstO its nl) :: rest)) (TT : TupTab (intKind PySem.Challenge.rw_ln0015_01.prog w) PyData.int rest d (dTab 257)) (hrd : ∀ q ∈ rest, q.1 ≠ rd) (hits : its.length ≤ 1000)
    (Q : Flow → Shared → Prop)
    (hN : ∀ h' tk' tz' tv', kid st (bitOf o p) < 256 → Fr h₀ L h' (mR u d rd o p (nsz (kid st (bitOf o p))) (nval (kid st (bitOf o p))) to tp tz' tv') → News h₀ L h' ((rd, lstO its nl) :: rest) → Q .next { s with heap := h', toks := tk' })
    (hE : kid st (bitOf o p) = 512 → ∀ h' tk' m', Fr h₀ L h' m' → Q (.ret .none) { s with heap := h', toks := tk' })
    (hS : 256 ≤ kid st (bitOf o p) → kid st (bitOf o p) < 512 → ∀ h' tk' tz' tv' t nl', Fr h₀ L h' (mR u d rd o p 0 0 to tp tz' tv') → News h₀ L h' ((rd, lstO (its ++ [.int ((kid st (bitOf o p) - 256 : Nat) : Int) t]) nl') :: rest) → Q .next { s with heap := h', toks := tk' }) :
    wpAny (model PySem.Challenge.rw_ln0015_01.prog w) A (execs bR55.1 (envOf (Str.ofString "_law_read") cR.1 L 4214 (.ref 4213))) Q E { s with heap := h, toks := tk } := by
  w_on
  revert X
  k_fill
  intro X
  dsimp only [bR55, cR]
  have K := kidOk hst (bit_lt o p)
  have hp0 : (0 : Int) ≤ (p : Int) := by omega
  have hp1 : (p : Int) < 8 := by omega
  iterate 16 walk1
  (try dsimp only)
  refine pow_int_small (by omega) (by omega) (by decide) ?_
  (try dsimp only)
  refine floordiv_int (Int.pow_ne_zero (by decide)) ?_ (.inl (PyProof.noPylong_small (pow_small hp)))
  (try dsimp only)
  walk1
  (try dsimp only)
  refine mod_int (by decide) ?_
  (try dsimp only)
  rw [bit_eq hp]
  walk1
  (try dsimp only)
  rw [two_eq]
  iterate 3 walk1
  (try dsimp only)
  iterate 4 walk1
  (try dsimp only)
  rw [one_eq]
  iterate 3 walk1
  (try dsimp only)
  iterate 8 walk1
  rename Fr _ _ _ _ => F'
  rename News _ _ _ _ => N'
  refine kup_newTuple F' N' ?_ (by rw [sizeLine_eq]; simp)
  intro D1 h1 F1 N1 hlt1
  (try dsimp only)
  walk1
  refine in_tupTab (knd := intKind PySem.Challenge.rw_ln0015_01.prog w) (enc := PyData.int) PyProof.V.same_int (by omega) N1 ((TT.cons _).cons _) (.head _) (TupKeyObj.made (.cons (intKind_is _ _ _ _) (.cons (intKind_is _ _ _ _) .nil))) ?_
  (try dsimp only)
  rw [K.look]
  walk1
  (try dsimp only)
  by_cases hk : kid st (bitOf o p) < 256
  · rw [if_pos hk, if_neg (by decide)]
    refine wpAny_execs_nil ?_
    (try dsimp only)
    refine wpAny_execs_nil ?_
    have F1' := Fr.to F1 (fun y => mR_set y)
    rw [← (K.down hk).1, ← (K.down hk).2] at F1'
    exact hN _ _ _ _ hk F1' (newsSub N1 fun q hq => .tail _ hq)
  · rw [if_neg hk, if_pos (by rfl)]
    iterate 8 walk1
    iterate 4 walk1
    refine kup_newTuple F1 N1 ?_ (by rw [sizeLine_eq]; simp)
    intro D2 h2 F2 N2 hlt2
    (try dsimp only)
    refine item_tupTab (knd := intKind PySem.Challenge.rw_ln0015_01.prog w) (enc := PyData.int) PyProof.V.same_int (by omega) N2 (((TT.cons _).cons _).cons _) (.head _) (TupKeyObj.made (.cons (intKind_is _ _ _ _) (.cons (intKind_is _ _ _ _) .nil))) (K.look.trans (if_neg hk)) ?_
    intro v fv
    obtain ⟨t3, rfl⟩ := fv.int_inv
    (try dsimp only)
    iterate 3 walk1
    (try dsimp only)
    by_cases h5 : kid st (bitOf o p) = 512
    · rw [if_pos (by simp [h5])]
      iterate 4 walk1
      (try dsimp only)
      exact hE h5 _ _ _ F2
    · rw [if_neg (by simp; omega)]
      (try dsimp only)
      iterate 17 walk1
      refine kup_newTuple F2 N2 ?_ (by rw [sizeLine_eq]; simp)
      intro D3 h3 F3 N3 hlt3
      (try dsimp only)
      refine item_tupTab (knd := intKind PySem.Challenge.rw_ln0015_01.prog w) (enc := PyData.int) PyProof.V.same_int (by omega) N3 ((((TT.cons _).cons _).cons _).cons _) (.head _) (TupKeyObj.made (.cons (intKind_is _ _ _ _) (.cons (intKind_is _ _ _ _) .nil))) (K.look.trans (if_neg hk)) ?_
      intro v fv
      obtain ⟨t4, rfl⟩ := fv.int_inv
      (try dsimp only)
      walk1
      refine appendN F3 (newsSub N3 (b := (rd, lstO its nl) :: rest) fun q hq => .tail _ (.tail _ (.tail _ hq))) hrd (by rw [sizeLine_eq]; omega) ?_
      intro h4 nl4 F4 N4
      (try dsimp only)
      iterate 9 walk1
      (try dsimp only)
      refine wpAny_execs_nil ?_
      (try dsimp only)
      refine wpAny_execs_nil ?_
      rename Fr _ _ _ _ => F5
      rename News _ _ _ _ => N5
      exact hS (by omega) (by have := K.le; omega) _ _ _ _ _ _ (Fr.to F5 fun y => mR_set0 y) N5
end Mine
end

section
open PySem PySem.W PySem.Calls PyProof.Rows PySem.Spec PyProof.V
namespace Mine
set_option maxRecDepth 100000
set_option maxHeartbeats 8000000
def bits8 (o : Nat) : List Nat := (List.range 8).map (bitOf o)
theorem rdBits_snoc : ∀ (bs : List Nat) (st b : Nat), rdBits st (bs ++ [b]) = match rdBits st bs with
    | none => none
    | some (st', o) => match rd1 st' b with
      | none => none
      | some (st'', o') => some (st'', o ++ o')
  | [], st, b => by
    simp only [List.nil_append, rdBits]
    cases rd1 st b with
    | none => rfl
    | some x => obtain ⟨a, o⟩ := x; simp
  | c :: bs, st, b => by
    simp only [List.cons_append, rdBits]
    cases rd1 st c with
    | none => rfl
    | some x =>
      obtain ⟨a, o⟩ := x
      simp only [rdBits_snoc bs a b]
      cases rdBits a bs with
      | none => rfl
      | some y =>
        obtain ⟨a', o'⟩ := y
        simp only
        cases rd1 a' b with
        | none => rfl
        | some z => obtain ⟨a'', o''⟩ := z; simp
theorem rdBits_app : ∀ (bs cs : List Nat) (st : Nat), rdBits st (bs ++ cs) = match rdBits st bs with
    | none => none
    | some (st', o) => match rdBits st' cs with
      | none => none
      | some (st'', o') => some (st'', o ++ o')
  | [], cs, st => by
    simp only [List.nil_append, rdBits]
    cases rdBits st cs with
    | none => rfl
    | some x => obtain ⟨a, o⟩ := x; simp
  | c :: bs, cs, st => by
    simp only [List.cons_append, rdBits]
    cases rd1 st c with
    | none => rfl
    | some x =>
      obtain ⟨a, o⟩ := x
      simp only [rdBits_app bs cs a]
      cases rdBits a bs with
      | none => rfl
      | some y =>
        obtain ⟨a', o'⟩ := y
        simp only
        cases rdBits a' cs with
        | none => rfl
        | some z => obtain ⟨a'', o''⟩ := z; simp
theorem rd1_lt {st b st' : Nat} {o : List Nat} (h : rd1 st b = some (st', o)) : st' < 256 ∧ o.length ≤ 1 := by
  unfold rd1 at h
  by_cases hk : kid st b < 256
  · rw [show Nat.blt (kid st b) 256 = true from Nat.ble_eq_true_of_le hk] at h
    simp only [cond_true, Option.some.injEq, Prod.mk.injEq] at h
    obtain ⟨rfl, rfl⟩ := h
    exact ⟨hk, by simp⟩
  · have e : Nat.blt (kid st b) 256 = false := by
      cases q : Nat.blt (kid st b) 256 with
      | false => rfl
      | true => exact absurd (Nat.le_of_ble_eq_true q) hk
    rw [e] at h
    simp only [cond_false] at h
    cases q : Nat.beq (kid st b) 512 with
    | true => rw [q] at h; simp at h
    | false =>
      rw [q] at h
      simp only [cond_false, Option.some.injEq, Prod.mk.injEq] at h
      obtain ⟨rfl, rfl⟩ := h
      exact ⟨by omega, by simp⟩
theorem rdBits_lt : ∀ (bs : List Nat) (st st' : Nat) (o : List Nat), st < 256 → rdBits st bs = some (st', o) → st' < 256 ∧ o.length ≤ bs.length
  | [], st, st', o, hs, h => by
    simp only [rdBits, Option.some.injEq, Prod.mk.injEq] at h
    obtain ⟨rfl, rfl⟩ := h
    exact ⟨hs, by simp⟩
  | b :: bs, st, st', o, hs, h => by
    simp only [rdBits] at h
    cases e : rd1 st b with
    | none => rw [e] at h; simp at h
    | some x =>
      obtain ⟨a, o1⟩ := x
      rw [e] at h
      simp only at h
      cases e2 : rdBits a bs with
      | none => rw [e2] at h; simp at h
      | some y =>
        obtain ⟨a2, o2⟩ := y
        rw [e2] at h
        simp only [Option.some.injEq, Prod.mk.injEq] at h
        obtain ⟨rfl, rfl⟩ := h
        have r1 := rd1_lt e
        have r2 := rdBits_lt bs a a2 o2 r1.1 e2
        exact ⟨r2.1, by simp; omega⟩
theorem bits8_eq {o : Nat} (h : o < 256) : bits8 o = bits4 (o / 16) ++ bits4 (o % 16) := by
  show [bitOf o 0, bitOf o 1, bitOf o 2, bitOf o 3, bitOf o 4, bitOf o 5, bitOf o 6, bitOf o 7] = [o / 16 / 8 % 2, o / 16 / 4 % 2, o / 16 / 2 % 2, o / 16 % 2, o % 16 / 8 % 2, o % 16 / 4 % 2, o % 16 / 2 % 2, o % 16 % 2]
  simp only [bitOf, List.cons.injEq, and_true]
  refine ⟨?_, ?_, ?_, ?_, ?_, ?_, ?_, ?_⟩ <;> simp only [Nat.reduceSub, Nat.reducePow] <;> omega
section
variable {prog : Program} {w : World} {A : Around} {E : Value → Shared → Prop} {s : Shared} {env : Env} {h₀ : Heap} {x : Str} {body : List Stmt} {Q : Flow → Shared → Prop}
theorem rangeInv {r : Addr} {b₀ : Int} {t₀ u₀ v₀ : Tok} {n : Nat} {m₀ : Str → Option Value} {news : List (Addr × Obj)} (J : Nat → (Str → Option Value) → List (Addr × Obj) → Prop)
    (hh : HOk A h₀) (hr : IsRange s.heap r 0 b₀ 1 t₀ u₀ v₀) (hsmall : Builtin.Range.small 0 b₀ 1 = true) (hn : Builtin.Range.rangeSize 0 b₀ 1 = (n : Int)) (F : Fr h₀ env.locals s.heap m₀) (N : News h₀ env.locals s.heap news) (hj : J 0 m₀ news)
    (turn : ∀ (i : Nat) t m₁ nx h tk own, i < n → J i m₁ nx → OwnOff own (news.map (·.1)) → Fr h₀ env.locals h (fun y => if y = x then some (.int i t) else m₁ y) → News h₀ env.locals h (nx ++ own) →
      wpAny (model prog w) A (execs body env) (InvPostN h₀ env.locals (J (i + 1)) own (news.map (·.1)) { s with heap := h, toks := tk } Q) E { s with heap := h, toks := tk })
    (done : ∀ m₁ nx h tk, J n m₁ nx → Fr h₀ env.locals h m₁ → News h₀ env.locals h nx → Q .next { s with heap := h, toks := tk }) :
    wpAny (model prog w) A (pyIter (.ref r)) (fun it s₂ => LoopAtV prog w A h₀ env x body Q E it s₂) E s := by
  refine wpAny_pyIter_range hr hsmall ?_
  have W := walksRange (prog := prog) (w := w) hh s.heap.objs.size (next_is_new F) n
  refine loop_invN J W (hh.offL F (Nat.ne_of_lt F.ns.lt)) (next_free F) (next_off N) (hh.offN N fun p hp => Nat.ne_of_lt (Heap.lt_size (N p hp).1)) ⟨by show IsRangeIter _ _ _ _ _; rw [hn]; simpa using Heap.get?_push_size _ rfl, fun y hy o e => Heap.get?_push_of_some _ (F.keep y o e)⟩ (F.push _) (next_kept N) hj ?_ ?_
  · rintro i v m₁ nx h tk own hi ⟨_, t, rfl⟩ _ hoff hJ F₁ N₁
    have F₂ : Fr h₀ env.locals h (fun y => if y = x then some (.int (i : Int) t) else m₁ y) := by simpa using F₁
    exact turn i t m₁ nx h tk own hi hJ hoff F₂ N₁
  · rintro m₁ nx h tk hJ F₁ N₁
    exact done m₁ nx h tk hJ F₁ N₁
end
end Mine
end

section
open PySem PySem.W PySem.Calls PyProof.Rows PySem.Spec PyProof.V
namespace Mine
set_option maxRecDepth 100000
set_option maxHeartbeats 8000000
abbrev eR (L : Addr) : Env := envOf (Str.ofString "_law_read") cR.1 L 4214 (.ref 4213)
/-- what the reader's frame and ledger hold at a state of the code tree -/
structure RdSt (m₀ : Str → Option Value) (rd : Addr) (rest : List (Addr × Obj)) (st : Nat) (outs : List Nat) (m : Str → Option Value) (nx : List (Addr × Obj)) : Prop where
  z : ∃ t, m sSize = some (.int (nsz st) t)
  v : ∃ t, m sVal = some (.int (nval st) t)
  o : ∀ y, y ≠ sSize → y ≠ sVal → y ≠ sPlace → y ≠ sOctet → m y = m₀ y
  l : ∃ its nl, nx = (rd, lstO its nl) :: rest ∧ IntsAre its (outs.map Int.ofNat)
  st : st < 256
theorem kid_sign {st b : Nat} (h1 : 256 ≤ kid st b) (h2 : kid st b < 512) : rd1 st b = some (0, [kid st b - 256]) := by
  unfold rd1
  have e : Nat.blt (kid st b) 256 = false := by
    cases q : Nat.blt (kid st b) 256 with
    | false => rfl
    | true => exact absurd (Nat.le_of_ble_eq_true q) (by omega)
  have e2 : Nat.beq (kid st b) 512 = false := by rw [BT.beq_eq]; exact decide_eq_false (by omega)
  rw [e, e2]; rfl
theorem kid_node {st b : Nat} (h : kid st b < 256) : rd1 st b = some (kid st b, []) := by
  unfold rd1
  rw [show Nat.blt (kid st b) 256 = true from Nat.ble_eq_true_of_le h]; rfl
theorem kid_dead {st b : Nat} (h : kid st b = 512) : rd1 st b = none := by
  unfold rd1
  rw [h]; rfl
theorem take_bits (o i : Nat) (hi : i < 8) : (bits8 o).take (i + 1) = (bits8 o).take i ++ [bitOf o i] := by
  rw [List.take_add_one]
  congr 1
  unfold bits8
  rw [List.getElem?_map, List.getElem?_range hi]
  rfl
theorem rdBits_take_none {st o i : Nat} (h : rdBits st ((bits8 o).take i) = none) : rdBits st (bits8 o) = none := by
  rw [← List.take_append_drop i (bits8 o), rdBits_app, h]
theorem mR_of {m m₀ : Str → Option Value} {d rd : Addr} {o p z v : Int} {to tp tz tv : Tok} (hz : m sSize = some (.int z tz)) (hv : m sVal = some (.int v tv)) (ho : ∀ y, y ≠ sSize → y ≠ sVal → y ≠ sPlace → y ≠ sOctet → m y = m₀ y)
    (hoc : m sOctet = some (.int o to)) (hd : m₀ sPlaces = some (.ref d)) (hr : m₀ sRead = some (.ref rd)) (y : Str) : (if y = sPlace then some (Value.int p tp) else m y) = mR m₀ d rd o p z v to tp tz tv y := by
  by_cases h1 : y = sPlace
  · subst h1; rfl
  · rw [if_neg h1]
    simp only [mR, if_neg h1]
    by_cases h2 : y = sOctet
    · rw [if_pos h2, h2]; exact hoc
    · rw [if_neg h2]
      by_cases h3 : y = sSize
      · rw [if_pos h3, h3]; exact hz
      · rw [if_neg h3]
        by_cases h4 : y = sVal
        · rw [if_pos h4, h4]; exact hv
        · rw [if_neg h4, ho y h3 h4 h1 h2]
          by_cases h5 : y = sPlaces
          · rw [if_pos h5, h5]; exact hd
          · rw [if_neg h5]
            by_cases h6 : y = sRead
            · rw [if_pos h6, h6]; exact hr
            · rw [if_neg h6]
theorem of_mR {m₀ : Str → Option Value} {d rd : Addr} {o p z v : Int} {to tp tz tv : Tok} (hd : m₀ sPlaces = some (.ref d)) (hr : m₀ sRead = some (.ref rd)) :
    mR m₀ d rd o p z v to tp tz tv sSize = some (.int z tz) ∧ mR m₀ d rd o p z v to tp tz tv sVal = some (.int v tv) ∧ mR m₀ d rd o p z v to tp tz tv sOctet = some (.int o to) ∧
    ∀ y, y ≠ sSize → y ≠ sVal → y ≠ sPlace → y ≠ sOctet → mR m₀ d rd o p z v to tp tz tv y = m₀ y := by
  refine ⟨rfl, rfl, rfl, fun y h3 h4 h1 h2 => ?_⟩
  simp only [mR, if_neg h1, if_neg h2, if_neg h3, if_neg h4]
  by_cases h5 : y = sPlaces
  · rw [if_pos h5, h5]; exact hd.symm
  · rw [if_neg h5]
    by_cases h6 : y = sRead
    · rw [if_pos h6, h6]; exact hr.symm
    · rw [if_neg h6]
theorem tabMore {prog : Program} {w : World} {K : Type} [DecidableEq K] {knd : KeyKind prog w K} {enc : K → PyData} {nx own : List (Addr × Obj)} {d : Addr} {D : List (PyData × PyData)} (T : TupTab knd enc nx d D) : TupTab knd enc (nx ++ own) d D := by
  obtain ⟨lo, o, es, ep, xs, hm, hc, hd, he, hn, hk, hf⟩ := T
  exact ⟨lo, o, es, ep, xs, List.mem_append_left _ hm, hc, hd, he, hn, fun x hx => let ⟨ok, hmk, t⟩ := hk x hx; ⟨ok, List.mem_append_left _ hmk, t⟩, hf⟩
theorem ints_snoc {its : List Value} {outs : List Nat} {c : Nat} {t : Tok} (h : IntsAre its (outs.map Int.ofNat)) : IntsAre (its ++ [.int (c : Int) t]) ((outs ++ [c]).map Int.ofNat) := by
  rw [List.map_append]
  exact h.append (.cons _ _ .nil)
theorem loopIn (w : World) {mean : ExcName → Option Value} {mg mb : Str → Option Value} (A : Around) (hu : A.units + 8 < cLine) (h₀ : Heap) (hh : HOk A h₀) (L d rd r : Addr) {t₀ u₀ v₀ : Tok} (m₀ m₁ : Str → Option Value) (rest nx₁ : List (Addr × Obj)) (s : Shared)
    (st0 o : Nat) (to : Tok) (outs0 : List Nat) (E : Value → Shared → Prop) (ho : o < 256) (hlen : outs0.length ≤ 900)
    (X : (KL w.params).In h₀) (T : Top qv (looseW qv looseN) mean mg mb h₀) (hd : m₀ sPlaces = some (.ref d)) (hr : m₀ sRead = some (.ref rd))
    (TT : TupTab (intKind PySem.Challenge.rw_ln0015_01.prog w) PyData.int rest d (dTab 257)) (hrd : ∀ q ∈ rest, q.1 ≠ rd) (hran : IsRange s.heap r 0 8 1 t₀ u₀ v₀)
    (F : Fr h₀ L s.heap m₁) (N : News h₀ L s.heap nx₁) (J : RdSt m₀ rd rest st0 outs0 m₁ nx₁) (hoc : m₁ sOctet = some (.int o to))
    (Q : Flow → Shared → Prop)
    (done : ∀ h' tk m' nx' st outs, rdBits st0 (bits8 o) = some (st, outs) → Fr h₀ L h' m' → News h₀ L h' nx' → RdSt m₀ rd rest st (outs0 ++ outs) m' nx' → Q .next { s with heap := h', toks := tk })
    (dead : rdBits st0 (bits8 o) = none → ∀ h' tk m', Fr h₀ L h' m' → Q (.ret .none) { s with heap := h', toks := tk }) :
    wpAny (model PySem.Challenge.rw_ln0015_01.prog w) A (pyIter (.ref r)) (fun it s₂ => LoopAtV PySem.Challenge.rw_ln0015_01.prog w A h₀ (eR L) sPlace bR55.1 Q E it s₂) E s := by
  obtain ⟨its0, nl0, rfl, hi0⟩ := J.l
  refine rangeInv (n := 8) (fun i m nx => (∃ st outs, rdBits st0 ((bits8 o).take i) = some (st, outs) ∧ RdSt m₀ rd rest st (outs0 ++ outs) m nx) ∧ m sOctet = some (.int o to)) hh hran (by decide +kernel) (by decide +kernel) F N ⟨⟨st0, [], rfl, by simpa using J⟩, hoc⟩ ?_ ?_
  · rintro i t m nx h tk own hi ⟨⟨st, outs, hb, R⟩, hoc'⟩ hoff F' N'
    obtain ⟨tz, hz⟩ := R.z
    obtain ⟨tv, hv⟩ := R.v
    obtain ⟨its, nl, rfl, hints⟩ := R.l
    have hlo := (rdBits_lt _ _ _ _ J.st hb).2
    have hl8 : ((bits8 o).take i).length ≤ 8 := by rw [List.length_take]; omega
    have hits : its.length ≤ 1000 := by rw [hints.length, List.length_map, List.length_append]; omega
    have hown : ∀ q ∈ rest ++ own, q.1 ≠ rd := by
      intro q hq
      rcases List.mem_append.mp hq with hq | hq
      · exact hrd q hq
      · exact hoff q hq rd (by simp)
    have F2 := Fr.to F' (fun y => mR_of (d := d) (rd := rd) (p := (i : Int)) (tp := t) hz hv R.o hoc' hd hr y)
    refine turnR w A hu h₀ h L d rd m₀ its nl (rest ++ own) s tk st o i to t tz tv E R.st ho hi X T F2 N' (tabMore TT) hown hits _ ?_ ?_ ?_
    · intro h' tk' tz' tv' hk F3 N3
      obtain ⟨a1, a2, a3, a4⟩ := of_mR (z := nsz (kid st (bitOf o i))) (v := nval (kid st (bitOf o i))) (o := (o : Int)) (p := (i : Int)) (to := to) (tp := t) (tz := tz') (tv := tv') hd hr
      refine ⟨h', tk', _, _, (rd, lstO its nl) :: rest, rfl, F3, N3, fun q hq => by simp at hq ⊢; rcases hq with hq | hq <;> simp [hq], fun q hq => by simp [hq], by simp, ?_⟩
      refine ⟨⟨kid st (bitOf o i), outs, ?_, ⟨⟨_, a1⟩, ⟨_, a2⟩, a4, ⟨its, nl, rfl, hints⟩, hk⟩⟩, a3⟩
      rw [take_bits o i hi, rdBits_snoc, hb]; simp only [kid_node hk, List.append_nil]
    · intro hk h' tk' m' F3
      refine dead (rdBits_take_none (i := i + 1) ?_) h' tk' m' F3
      rw [take_bits o i hi, rdBits_snoc, hb]; simp only [kid_dead hk]
    · intro h1 h2 h' tk' tz' tv' t' nl' F3 N3
      obtain ⟨a1, a2, a3, a4⟩ := of_mR (z := 0) (v := 0) (o := (o : Int)) (p := (i : Int)) (to := to) (tp := t) (tz := tz') (tv := tv') hd hr
      refine ⟨h', tk', _, _, (rd, lstO (its ++ [.int ((kid st (bitOf o i) - 256 : Nat) : Int) t']) nl') :: rest, rfl, F3, N3, fun q hq => by simp at hq ⊢; rcases hq with hq | hq <;> simp [hq], fun q hq => by simp [hq], by simp, ?_⟩
      refine ⟨⟨0, outs ++ [kid st (bitOf o i) - 256], ?_, ⟨⟨_, by rw [chk_root.1]; exact a1⟩, ⟨_, by rw [chk_root.2]; exact a2⟩, a4, ⟨_, nl', rfl, by rw [← List.append_assoc]; exact ints_snoc hints⟩, by decide⟩⟩, a3⟩
      rw [take_bits o i hi, rdBits_snoc, hb]; simp only [kid_sign h1 h2]
  · rintro m nx h tk ⟨⟨st, outs, hb, R⟩, _⟩ F' N'
    rw [List.take_of_length_le (by simp [bits8])] at hb
    exact done h tk m nx st outs hb F' N' R
end Mine
end

section
open PySem PySem.W PySem.Calls PyProof.Rows PySem.Spec PyProof.V
namespace Mine
set_option maxRecDepth 100000
set_option maxHeartbeats 8000000
theorem turnO (w : World) {mean : ExcName → Option Value} {mg mb : Str → Option Value} (A : Around) (hu : A.units + 8 < cLine) (h₀ h : Heap) (hh : HOk A h₀) (L d rd : Addr) (m₀ m : Str → Option Value) (rest own nx : List (Addr × Obj)) (s : Shared) (tk : Nat)
    (st0 o : Nat) (to : Tok) (outs0 : List Nat) (E : Value → Shared → Prop) (ho : o < 256) (hlen : outs0.length ≤ 900)
    (X : (KL w.params).In h₀) (T : Top qv (looseW qv looseN) mean mg mb h₀) (hd : m₀ sPlaces = some (.ref d)) (hr : m₀ sRead = some (.ref rd))
    (TT : TupTab (intKind PySem.Challenge.rw_ln0015_01.prog w) PyData.int rest d (dTab 257)) (hrd : ∀ q ∈ rest ++ own, q.1 ≠ rd)
    (F : Fr h₀ L h (fun y => if y = sOctet then some (.int o to) else m y)) (N : News h₀ L h (nx ++ own)) (J : RdSt m₀ rd rest st0 outs0 m nx)
    (Q : Flow → Shared → Prop)
    (done : ∀ h' tk m' nx' st outs, rdBits st0 (bits8 o) = some (st, outs) → Fr h₀ L h' m' → News h₀ L h' (nx' ++ own) → RdSt m₀ rd rest st (outs0 ++ outs) m' nx' → Q .next { s with heap := h', toks := tk })
    (dead : rdBits st0 (bits8 o) = none → ∀ h' tk m', Fr h₀ L h' m' → Q (.ret .none) { s with heap := h', toks := tk }) :
    wpAny (model PySem.Challenge.rw_ln0015_01.prog w) A (execs bR5.1 (eR L)) Q (fun _ _ => False) { s with heap := h, toks := tk } := by
  w_on
  revert X
  k_fill
  intro X
  dsimp only [bR5, cR, eR]
  refine wpAny_execs_cons (For_invV h₀ rfl rfl ?_ (hE := PassesOwn.never))
  iterate 6 walk1
  (try dsimp only)
  refine range1_rows F N ?_
  intro h1 tk1 t1 u1 v1 hran F1 N1 _
  (try dsimp only)
  obtain ⟨its, nl, rfl, hints⟩ := J.l
  refine loopIn w A hu h₀ hh L d rd _ m₀ (fun y => if y = sOctet then some (.int (o : Int) to) else m y) (rest ++ own) _ _ st0 o to outs0 _ ho hlen X T hd hr (tabMore TT) hrd hran F1 N1 ⟨J.z, J.v, fun y h1 h2 h3 h4 => by rw [if_neg h4]; exact J.o y h1 h2 h3 h4, ⟨its, nl, rfl, hints⟩, J.st⟩ rfl _ ?_ ?_
  · intro h2 tk2 m2 nx2 st outs hb F2 N2 R
    refine wpAny_execs_nil ?_
    obtain ⟨its2, nl2, rfl, hints2⟩ := R.l
    exact done h2 tk2 m2 ((rd, lstO its2 nl2) :: rest) st outs hb F2 N2 ⟨R.z, R.v, R.o, ⟨its2, nl2, rfl, hints2⟩, R.st⟩
  · intro hb h2 tk2 m2 F2
    exact dead hb h2 tk2 m2 F2
/-- the bits of a row of octets -/
def bitsOf (os : List Nat) : List Nat := os.flatMap bits8
theorem bitsOf_snoc (os : List Nat) (o : Nat) : bitsOf (os ++ [o]) = bitsOf os ++ bits8 o := by simp [bitsOf, List.flatMap_append]
theorem loopOut (w : World) {mean : ExcName → Option Value} {mg mb : Str → Option Value} (A : Around) (hu : A.units + 8 < cLine) (h₀ : Heap) (hh : HOk A h₀) (L d rd : Addr) (m₀ m₁ : Str → Option Value) (rest nx₁ : List (Addr × Obj)) (s : Shared)
    (b : Array UInt8) (tb : Tok) (E : Value → Shared → Prop) (hlen : b.size ≤ 20)
    (X : (KL w.params).In h₀) (T : Top qv (looseW qv looseN) mean mg mb h₀) (hd : m₀ sPlaces = some (.ref d)) (hr : m₀ sRead = some (.ref rd))
    (TT : TupTab (intKind PySem.Challenge.rw_ln0015_01.prog w) PyData.int rest d (dTab 257)) (hrd : ∀ q ∈ rest, q.1 ≠ rd)
    (F : Fr h₀ L s.heap m₁) (N : News h₀ L s.heap nx₁) (J : RdSt m₀ rd rest 0 [] m₁ nx₁)
    (Q : Flow → Shared → Prop)
    (done : ∀ h' tk m' nx' st outs, rdBits 0 (bitsOf (b.toList.map UInt8.toNat)) = some (st, outs) → Fr h₀ L h' m' → News h₀ L h' nx' → RdSt m₀ rd rest st outs m' nx' → Q .next { s with heap := h', toks := tk })
    (dead : rdBits 0 (bitsOf (b.toList.map UInt8.toNat)) = none → ∀ h' tk m', Fr h₀ L h' m' → Q (.ret .none) { s with heap := h', toks := tk }) :
    wpAny (model PySem.Challenge.rw_ln0015_01.prog w) A (pyIter (.bytes b tb)) (fun it s₂ => LoopAtV PySem.Challenge.rw_ln0015_01.prog w A h₀ (eR L) sOctet bR5.1 Q E it s₂) E s := by
  obtain ⟨its0, nl0, rfl, hi0⟩ := J.l
  refine KBw.pyIter_bytes ?_
  have W := walksBytes (prog := PySem.Challenge.rw_ln0015_01.prog) (w := w) hh s.heap.objs.size (next_is_new F) b tb
  refine loop_invN (fun i m nx => ∃ st outs, rdBits 0 (bitsOf ((b.toList.map UInt8.toNat).take i)) = some (st, outs) ∧ RdSt m₀ rd rest st outs m nx) W (hh.offL F (Nat.ne_of_lt F.ns.lt)) (next_free F) (next_off N) (hh.offN N fun p hp => Nat.ne_of_lt (Heap.lt_size (N p hp).1)) ⟨⟨_, Heap.get?_push_size _ rfl, rfl, rfl⟩, fun y hy o e => Heap.get?_push_of_some _ (F.keep y o e)⟩ (F.push _) (next_kept N) ⟨0, [], rfl, J⟩ ?_ ?_
  · rintro i v m nx h tk own hi ⟨c, u, hc, rfl⟩ _ hoff ⟨st, outs, hb, R⟩ F' N'
    have hl : (b.toList.map UInt8.toNat)[i]? = some c.toNat := by simp [hc]
    have hs : (b.toList.map UInt8.toNat).take (i + 1) = (b.toList.map UInt8.toNat).take i ++ [c.toNat] := by simp [List.take_add_one, hc]
    have hlo := (rdBits_lt _ _ _ _ (by decide) hb).2
    have hl8 : (bitsOf ((b.toList.map UInt8.toNat).take i)).length ≤ 160 := by
      have : ∀ l : List Nat, (bitsOf l).length = 8 * l.length := by
        intro l
        induction l with
        | nil => rfl
        | cons x l ih => simp only [bitsOf, List.flatMap_cons, List.length_append] at ih ⊢; rw [ih]; simp [bits8]; omega
      rw [this, List.length_take]; simp; omega
    have hoff' : ∀ q ∈ rest ++ own, q.1 ≠ rd := by
      intro q hq
      rcases List.mem_append.mp hq with hq | hq
      · exact hrd q hq
      · exact hoff q hq rd (by simp)
    refine wpAny_noRaise (turnO w A hu h₀ h hh L d rd m₀ m rest own nx s tk st c.toNat u outs E c.toNat_lt (by omega) X T hd hr TT hoff' F' N' R _ ?_ ?_)
    · intro h' tk' m' nx' st' outs' hb' F2 N2 R2
      obtain ⟨its2, nl2, rfl, hints2⟩ := R2.l
      refine ⟨h', tk', m', _, (rd, lstO its2 nl2) :: rest, rfl, F2, N2, fun q hq => List.mem_append_left _ hq, fun q hq => List.mem_append_right _ hq, by simp, st', outs ++ outs', ?_, R2⟩
      rw [hs, bitsOf_snoc, rdBits_app, hb]
      simp only [hb']
    · intro hb' h' tk' m' F2
      refine dead ?_ h' tk' m' F2
      have e : rdBits 0 (bitsOf ((b.toList.map UInt8.toNat).take (i + 1))) = none := by
        rw [hs, bitsOf_snoc, rdBits_app, hb]
        simp only [hb']
      rw [← List.take_append_drop (i + 1) (b.toList.map UInt8.toNat), bitsOf, List.flatMap_append, rdBits_app]
      unfold bitsOf at e
      rw [e]
  · rintro m nx h tk ⟨st, outs, hb, R⟩ F' N'
    rw [List.take_of_length_le (by simp)] at hb
    exact done h tk m nx st outs hb F' N' R
end Mine
end

section
open PySem PySem.W PySem.Calls PyProof.Rows PySem.Spec PyProof.V
namespace Mine
set_option maxRecDepth 100000
set_option maxHeartbeats 8000000
def readRes (b : Array UInt8) : Option (List Nat) := match rdBits 0 (bitsOf (b.toList.map UInt8.toNat)) with
  | none => none
  | some (st, outs) => if fin1 st = 1 then some outs else none
def resV (r : Option (List Nat)) (t : Tok) : Value := match r with
  | none => .none
  | some outs => .bytes (byteArr (outs.map Int.ofNat)) t
theorem fin1_of {st : Nat} (h8 : nsz st < 8) (h9 : nval st + 1 = 2 ^ nsz st) : fin1 st = 1 := by
  unfold fin1
  rw [show Nat.blt (nsz st) 8 = true from Nat.ble_eq_true_of_le h8, h9, BT.beq_eq]; simp
theorem fin1_not {st : Nat} (h : ¬ nsz st < 8 ∨ ¬ nval st + 1 = 2 ^ nsz st) : fin1 st = 0 := by
  unfold fin1
  cases q : Nat.blt (nsz st) 8 && Nat.beq (nval st + 1) (2 ^ nsz st) with
  | false => rfl
  | true =>
    rw [Bool.and_eq_true] at q
    rcases h with h | h
    · exact absurd (Nat.le_of_ble_eq_true q.1) h
    · exact absurd (Nat.eq_of_beq_eq_true q.2) h
theorem bitsOf_len : ∀ l : List Nat, (bitsOf l).length = 8 * l.length
  | [] => rfl
  | x :: l => by
    have ih := bitsOf_len l
    simp only [bitsOf, List.flatMap_cons, List.length_append] at ih ⊢
    rw [ih]; simp [bits8]; omega
theorem rd1_small {st b st' : Nat} {o : List Nat} (hs : st < 256) (hb : b < 2) (h : rd1 st b = some (st', o)) : ∀ c ∈ o, c < 256 := by
  have K := kidOk hs hb
  by_cases hk : kid st b < 256
  · rw [kid_node hk] at h
    simp only [Option.some.injEq, Prod.mk.injEq] at h
    obtain ⟨_, rfl⟩ := h
    intro c hc; cases hc
  · by_cases h5 : kid st b = 512
    · rw [kid_dead h5] at h; cases h
    · have := K.le
      rw [kid_sign (by omega) (by omega)] at h
      simp only [Option.some.injEq, Prod.mk.injEq] at h
      obtain ⟨_, rfl⟩ := h
      intro c hc
      simp at hc
      omega
theorem rdBits_small : ∀ (bs : List Nat) (st st' : Nat) (o : List Nat), st < 256 → (∀ b ∈ bs, b < 2) → rdBits st bs = some (st', o) → ∀ c ∈ o, c < 256
  | [], st, st', o, hs, _, h => by
    simp only [rdBits, Option.some.injEq, Prod.mk.injEq] at h
    obtain ⟨rfl, rfl⟩ := h
    intro c hc; cases hc
  | b :: bs, st, st', o, hs, hb, h => by
    simp only [rdBits] at h
    cases e : rd1 st b with
    | none => rw [e] at h; simp at h
    | some x =>
      obtain ⟨a, o1⟩ := x
      rw [e] at h
      simp only at h
      cases e2 : rdBits a bs with
      | none => rw [e2] at h; simp at h
      | some y =>
        obtain ⟨a2, o2⟩ := y
        rw [e2] at h
        simp only [Option.some.injEq, Prod.mk.injEq] at h
        obtain ⟨rfl, rfl⟩ := h
        intro c hc
        rcases List.mem_append.mp hc with hc | hc
        · exact rd1_small hs (hb b (.head _)) e c hc
        · exact rdBits_small bs a a2 o2 (rd1_lt e).1 (fun x hx => hb x (.tail _ hx)) e2 c hc
theorem bitsOf_two (os : List Nat) : ∀ b ∈ bitsOf os, b < 2 := by
  intro b hb
  obtain ⟨o, _, h⟩ := List.mem_flatMap.mp hb
  obtain ⟨p, _, rfl⟩ := List.mem_map.mp h
  exact bit_lt o p
theorem outs_lt {os outs : List Nat} {st : Nat} (h : rdBits 0 (bitsOf os) = some (st, outs)) : ∀ n ∈ outs.map Int.ofNat, 0 ≤ n ∧ n < 256 := by
  intro n hn
  obtain ⟨c, hc, rfl⟩ := List.mem_map.mp hn
  have := rdBits_small _ _ _ _ (by decide) (bitsOf_two os) h c hc
  exact ⟨Int.natCast_nonneg c, by show (c : Int) < 256; omega⟩
theorem bodyR (w : World) {mean : ExcName → Option Value} {mg mb : Str → Option Value} (A : Around) (hu : A.units + 8 < cLine) (h₀ h : Heap) (hh : HOk A h₀) (L : Addr) (s : Shared) (tk : Nat)
    (b : Array UInt8) (tb : Tok) (hlen : b.size ≤ 20) (hb2 : A.handled = none ∨ readRes b = none)
    (X : (KL w.params).In h₀) (T : Top qv (looseW qv looseN) mean mg mb h₀) (c1 : h₀.IsList 4206 (intsFrom codes 9737).toArray) (c2 : h₀.IsList 4207 (intsFrom lens 9995).toArray)
    (F : Fr h₀ L h (fun y => if y = sOctets then some (.bytes b tb) else none))
    (Q : Flow → Shared → Prop)
    (hQ : ∀ h' tk m' t, Fr h₀ L h' m' → Q (.ret (resV (readRes b) t)) { s with heap := h', toks := tk }) :
    wpAny (model PySem.Challenge.rw_ln0015_01.prog w) A (execs bR.1 (eR L)) Q (fun _ _ => False) { s with heap := h, toks := tk } := by
  have N : News h₀ L h [] := fun _ hp => by cases hp
  w_on
  revert X
  k_fill
  intro X
  dsimp only [bR, cR, eR]
  iterate 4 walk1
  (try dsimp only)
  rename Obj.IsDictOf (intKind _ _) _ _ => hdict
  rename (_ == sysModules) = false => hlo
  rename Fr _ _ _ _ => F1
  rename News _ _ _ _ => N1
  refine wpAny_execs_cons (For_invV h₀ rfl rfl ?_ (hE := PassesOwn.never))
  iterate 6 walk1
  (try dsimp only)
  refine range1_rows F1 N1 ?_
  intro h2 tk2 t2 u2 v2 hran F2 N2 _
  (try dsimp only)
  refine loop1 w A hu h₀ hh L _ _ _ _ _ _ X T c1 c2 hran rfl F2 N2 (TupTab.ofEmpty (.head _) hlo hdict) _ ?_
  intro h3 tk3 m3 nx hm3 F3 N3 TT _
  (try dsimp only)
  have F4 : ∃ d, TupTab (intKind PySem.Challenge.rw_ln0015_01.prog w) PyData.int nx d (dTab 257) ∧ Fr h₀ L h3 (fun y => if y = sPlaces then some (.ref d) else if y = sOctets then some (.bytes b tb) else m3 y) := ⟨_, TT, Fr.to F3 fun y => by
    by_cases e1 : y = sPlaces
    · rw [if_pos e1, e1, hm3 _ (by decide)]; rfl
    · rw [if_neg e1]
      by_cases e2 : y = sOctets
      · rw [if_pos e2, e2, hm3 _ (by decide)]; rfl
      · rw [if_neg e2]⟩
  clear F3 TT
  obtain ⟨d, TT, F4⟩ := F4
  iterate 14 walk1
  (try dsimp only)
  rename Fr _ _ _ _ => F5
  rename News _ _ _ _ => N5
  rename ∀ p ∈ nx, p.1 < _ => hlt
  refine wpAny_execs_cons (For_invV h₀ rfl rfl ?_ (hE := PassesOwn.never))
  walk1
  (try dsimp only)
  refine loopOut w A hu h₀ hh L d _ _ _ nx _ _ b tb _ hlen X T rfl rfl TT (fun q hq => Nat.ne_of_lt (hlt q hq)) F5 N5 ⟨⟨_, by rw [chk_root.1]; rfl⟩, ⟨_, by rw [chk_root.2]; rfl⟩, fun y _ _ _ _ => rfl, ⟨[], 0, rfl, .nil⟩, by decide⟩ _ ?_ ?_
  · intro h6 tk6 m6 nx6 st outs hb F6 N6 R
    (try dsimp only)
    obtain ⟨tz, hz⟩ := R.z
    obtain ⟨tv, hv⟩ := R.v
    obtain ⟨its, nl, rfl, hints⟩ := R.l
    have G : ∃ rd, Fr h₀ L h6 (fun y => if y = sSize then some (.int (nsz st) tz) else if y = sVal then some (.int (nval st) tv) else if y = sRead then some (.ref rd) else m6 y) ∧ News h₀ L h6 ((rd, lstO its nl) :: nx) := ⟨_, Fr.to F6 fun y => by
      by_cases e1 : y = sSize
      · rw [if_pos e1, e1]; exact hz
      · rw [if_neg e1]
        by_cases e2 : y = sVal
        · rw [if_pos e2, e2]; exact hv
        · rw [if_neg e2]
          by_cases e3 : y = sRead
          · rw [if_pos e3, e3, R.o sRead (by decide) (by decide) (by decide) (by decide)]; rfl
          · rw [if_neg e3], N6⟩
    clear F5 N5 F6 N6 hlt
    obtain ⟨rd, F7, N7⟩ := G
    iterate 9 walk1
    (try dsimp only)
    have hsz := (kidOk (b := 0) R.st (by omega)).sz
    by_cases h8 : nsz st < 8
    · rw [if_pos (decide_eq_true (by omega))]
      iterate 7 walk1
      (try dsimp only)
      refine pow_int_small (by omega) (by omega) (by decide) ?_
      (try dsimp only)
      rw [Int.toNat_natCast]
      iterate 4 walk1
      (try dsimp only)
      by_cases h9 : nval st + 1 = 2 ^ nsz st
      · have h9' : (nval st : Int) = 2 ^ nsz st - 1 := by
          have : ((nval st + 1 : Nat) : Int) = ((2 ^ nsz st : Nat) : Int) := congrArg _ h9
          push_cast at this
          omega
        rw [if_pos (by rw [h9']; exact beq_self_eq_true _)]
        iterate 8 walk1
        (try dsimp only)
        have hol : (outs.map Int.ofNat).length ≤ 1000 := by
          have := (rdBits_lt _ _ _ _ (by decide) hb).2
          rw [bitsOf_len] at this
          simp at this ⊢
          omega
        have e : readRes b = some outs := by unfold readRes; rw [hb]; simp only [fin1_of h8 h9, if_true]
        have hh' : A.handled = none := hb2.resolve_right (by rw [e]; exact fun q => by cases q)
        refine call_bytes_ints (ns := outs.map Int.ofNat) ⟨_, (N7 _ (.head _)).1, rfl, nl, rfl⟩ hints (outs_lt hb) (by rw [hints.length, sizeLine_eq]; omega) hh' ?_
        intro h8' t8 k8 hk8
        (try dsimp only)
        have := hQ h8' k8 _ t8 ⟨F7.ns.at' fun o e => hk8 _ o e, fun a o e => hk8 a o (F7.keep a o e), F7.above⟩
        rw [e] at this
        exact this
      · have h9' : ¬ (nval st : Int) = 2 ^ nsz st - 1 := fun q => h9 (by
          have : ((nval st + 1 : Nat) : Int) = ((2 ^ nsz st : Nat) : Int) := by push_cast; omega
          exact Int.ofNat.inj this)
        rw [if_neg (by rw [beq_iff_eq]; exact h9')]
        (try dsimp only)
        iterate 2 walk1
        have e : readRes b = none := by unfold readRes; rw [hb]; simp only [fin1_not (.inr h9)]; rfl
        have e2 : ∀ h' k m', Fr h₀ L h' m' → Q (.ret .none) { s with heap := h', toks := k } := fun h' k m' F => by
          have := hQ h' k m' 0 F
          rw [e] at this
          exact this
        exact e2 _ _ _ F7
    · rw [if_neg (by simp; omega)]
      (try dsimp only)
      iterate 2 walk1
      have e : readRes b = none := by unfold readRes; rw [hb]; simp only [fin1_not (.inl h8)]; rfl
      have e2 : ∀ h' k m', Fr h₀ L h' m' → Q (.ret .none) { s with heap := h', toks := k } := fun h' k m' F => by
        have := hQ h' k m' 0 F
        rw [e] at this
        exact this
      exact e2 _ _ _ F7
  · intro hb h6 tk6 m6 F6
    (try dsimp only)
    have e : readRes b = none := by unfold readRes; rw [hb]
    have := hQ h6 tk6 m6 0 F6
    rw [e] at this
    exact this
end Mine
end

section
open PySem PySem.W PySem.Calls PyProof.Rows PySem.Spec PyProof.V
namespace Mine
set_option maxRecDepth 100000
set_option maxHeartbeats 8000000
theorem KL_get4214 (w : World) {h : Heap} (X : (KL w.params).In h) : h.get? 4214 = some (ob4214 w.params).1 := X _ _ (by rfl)
theorem KL_get4213 (w : World) {h : Heap} (X : (KL w.params).In h) : h.get? 4213 = some (ob4213 w.params).1 := X _ _ (by rfl)
theorem lookup_octets {b : Array UInt8} {tb : Tok} (y : Str) : ([(sOctets, Value.bytes b tb)] : List (Str × Value)).reverse.lookup y = if y = sOctets then some (.bytes b tb) else none := by
  show List.lookup y [(sOctets, Value.bytes b tb)] = _
  by_cases e : y = sOctets
  · subst e; rfl
  · rw [if_neg e]
    have : (y == sOctets) = false := by simpa using e
    simp [List.lookup, this]
theorem readC (w : World) {mean : ExcName → Option Value} {mg mb : Str → Option Value} (A : Around) (hroom : A.depth < recursionLimit) (hu : A.units + 12 < cLine) (s : Shared) (hh : HOk A s.heap)
    (b : Array UInt8) (tb : Tok) (hlen : b.size ≤ 20) (hb2 : A.handled = none ∨ readRes b = none)
    (X : (KL w.params).In s.heap) (T : Top qv (looseW qv looseN) mean mg mb s.heap) (c1 : s.heap.IsList 4206 (intsFrom codes 9737).toArray) (c2 : s.heap.IsList 4207 (intsFrom lens 9995).toArray)
    (Q E : Value → Shared → Prop)
    (hQ : ∀ h' tk t, (∀ a o, s.heap.get? a = some o → h'.get? a = some o) → Q (resV (readRes b) t) { s with heap := h', toks := tk }) :
    wpAny (model PySem.Challenge.rw_ln0015_01.prog w) A (call (.ref 4214) [.bytes b tb]) Q E s := by
  refine wpAny_call (call_plain (name := Str.ofString "_law_read") (params := aR.1) (body := bR.1) (scope := cR.1) (pm := .str (Str.ofString "law_ln0015_01") 10253) (cd := .ref 4213) (doc := .none) (binds := [(sOctets, .bytes b tb)]) hroom (KL_get4214 w X) rfl T.nolimit ⟨4213, _, _, _, rfl, KL_get4213 w X, rfl, rfl⟩ (by kernel_rfl) (locs rfl) ?_ rfl rfl rfl (by decide +kernel))
  intro h₁ F
  refine wpAny_noRaise ?_
  refine bodyR w (A.deeper _) (by show A.units + 3 + 8 < cLine; omega) s.heap h₁ hh s.heap.objs.size s _ b tb hlen hb2 X T c1 c2 (Fr.to F lookup_octets) _ ?_
  intro h' tk m' t F'
  exact hQ h' tk t F'.keep
end Mine
end

section
open PySem PySem.W PySem.Calls PyProof.Rows PySem.Spec PyProof.V
namespace Mine
set_option maxRecDepth 100000
set_option maxHeartbeats 8000000
def aD : {b : Arguments // defArgs (stmtAt 4) = b} := ⟨_, by (conv => lhs; whnf)⟩
def cD : {b : Scope // defScope (stmtAt 4) = b} := ⟨_, by (conv => lhs; whnf)⟩
def bDL : {b : List Stmt // forB (stAt bD.1 5) = b} := ⟨_, by (conv => lhs; whnf)⟩
abbrev eD (L : Addr) : Env := envOf (Str.ofString "decode_huffman") cD.1 L 46 (.ref 45)
abbrev sInput : Str := Str.ofString "input_byte"
abbrev sState : Str := Str.ofString "state"
abbrev sFlags : Str := Str.ofString "flags"
abbrev sDec : Str := Str.ofString "decoded_bytes"
abbrev mD (u : Str → Option Value) (d : Addr) (o st f : Int) (to ts tf : Tok) : Str → Option Value := fun y => if y = sInput then some (.int o to) else if y = sState then some (.int st ts) else if y = sFlags then some (.int f tf) else if y = sDec then some (.ref d) else u y
theorem idx_hi {st o : Nat} : (st : Int) * 16 + Int.fdiv (o : Int) (2 ^ Int.toNat 4) = ((16 * st + o / 16 : Nat) : Int) := by
  rw [Int.fdiv_eq_ediv_of_nonneg _ (by decide)]
  show (st : Int) * 16 + (o : Int) / 16 = _
  omega
/-- what the heap of the top says at a later heap -/
def Says (w : World) (h : Heap) : Prop := ∀ b o, (heapF w.params).get? b = some o → h.get? b = some o
theorem Says.list {w : World} {h₀ h : Heap} {L : Addr} {m : Str → Option Value} (Y : Says w h₀) (F : Fr h₀ L h m) : h.IsList 4205 tabRefs := ⟨_, F.keep _ _ (Y _ _ (tab_list _)), rfl, 0, rfl⟩
theorem Says.tup {w : World} {h₀ h : Heap} {L a : Addr} {m : Str → Option Value} {x : Tup} {n : Nat} (Y : Says w h₀) (F : Fr h₀ L h m) (hx : (heapF w.params).get? a = some (x.obj n)) :
    IsTup h a #[.int x.a n, .int x.i (tokOf x.t (n + 1)), .int x.c (nextOf x.t (n + 1))] := ⟨_, F.keep _ _ (Y _ _ hx), rfl, 0, rfl⟩
theorem tabItem {prog : Program} {w : World} {A : Around} {E : Value → Shared → Prop} {s : Shared} {value slice : Expr} {i : Nat} {u : Tok} {Q : Value → Shared → Prop}
    (hl : s.heap.IsList 4205 tabRefs) (h1 : i < 4096) (h : Q (.ref (tabAddr i)) s)
    (hs : subscripted slice false (.ref 4205) (.int i u) = operate [.ref 4205, .int i u] (getItem (.ref 4205) (.int i u)) := by with_unfolding_all rfl) : wpAny (model prog w) A (subscriptTail value slice (.ref 4205) (.int i u)) Q E s :=
  tail_any hl.typeIs slot_list_getitem.lookup (wpAny_getItem_list hl (by omega) (by omega) (by rw [Int.toNat_natCast]; exact tabRefs_get h1) h) hs
theorem idx_lo {st o : Nat} : (st : Int) * 16 + Builtin.bitAnd (o : Int) 15 = ((16 * st + o % 16 : Nat) : Int) := by
  have : Builtin.bitAnd (o : Int) 15 = ((o % 16 : Nat) : Int) := by
    show ((o &&& 15 : Nat) : Int) = _
    rw [show (15 : Nat) = 2 ^ 4 - 1 from rfl, Nat.and_two_pow_sub_one_eq_mod]
  rw [this]
  omega
theorem mD_self {m : Str → Option Value} {d : Addr} {o st f : Int} {to ts tf : Tok} (h1 : m sInput = some (.int o to)) (h2 : m sState = some (.int st ts)) (h3 : m sFlags = some (.int f tf)) (h4 : m sDec = some (.ref d)) (y : Str) : m y = mD m d o st f to ts tf y := by
  simp only [mD]
  by_cases e1 : y = sInput
  · rw [if_pos e1, e1, h1]
  · rw [if_neg e1]
    by_cases e2 : y = sState
    · rw [if_pos e2, e2, h2]
    · rw [if_neg e2]
      by_cases e3 : y = sFlags
      · rw [if_pos e3, e3, h3]
      · rw [if_neg e3]
        by_cases e4 : y = sDec
        · rw [if_pos e4, e4, h4]
        · rw [if_neg e4]
/-- the three shapes of an entry -/
theorem entry_cases {st n : Nat} {x : Tup} (h : chkTup st n x = true) : (rdBits st (bits4 n) = none ∧ x.i = 4) ∨
    (∃ st', rdBits st (bits4 n) = some (st', []) ∧ x.a = st' ∧ st' < 256 ∧ x.i = fin1 st') ∨
    (∃ st' c, rdBits st (bits4 n) = some (st', [c]) ∧ x.a = st' ∧ st' < 256 ∧ x.i = 2 + fin1 st' ∧ x.c = c ∧ c < 256) := by
  unfold chkTup at h
  cases e : rdBits st (bits4 n) with
  | none => rw [e] at h; exact .inl ⟨rfl, intIs_eq h⟩
  | some y =>
    obtain ⟨st', os⟩ := y
    rw [e] at h
    simp only [Bool.and_eq_true] at h
    obtain ⟨⟨h1, h2⟩, h3⟩ := h
    have h1 := intIs_eq h1
    have h2 : st' < 256 := Nat.le_of_ble_eq_true h2
    cases os with
    | nil => exact .inr (.inl ⟨st', rfl, h1, h2, intIs_eq h3⟩)
    | cons c os =>
      cases os with
      | nil =>
        simp only [Bool.and_eq_true] at h3
        refine .inr (.inr ⟨st', c, rfl, h1, h2, ?_, intIs_eq h3.1.2, Nat.le_of_ble_eq_true h3.2⟩)
        have := intIs_eq h3.1.1
        rw [this, Int.natCast_add]; rfl
      | cons _ _ => cases h3
theorem fin1_cases (st : Nat) : fin1 st = 0 ∨ fin1 st = 1 := by
  unfold fin1
  cases Nat.blt (nsz st) 8 && Nat.beq (nval st + 1) (2 ^ nsz st) <;> simp
theorem fin_and4 (st : Nat) : Builtin.bitAnd (fin1 st : Int) 4 = 0 := by rcases fin1_cases st with h | h <;> rw [h] <;> decide +kernel
theorem fin_and2 (st : Nat) : Builtin.bitAnd (fin1 st : Int) 2 = 0 := by rcases fin1_cases st with h | h <;> rw [h] <;> decide +kernel
theorem fin2_and4 (st : Nat) : Builtin.bitAnd (2 + (fin1 st : Int)) 4 = 0 := by rcases fin1_cases st with h | h <;> rw [h] <;> decide +kernel
theorem fin2_and2 (st : Nat) : Builtin.bitAnd (2 + (fin1 st : Int)) 2 = 2 := by rcases fin1_cases st with h | h <;> rw [h] <;> decide +kernel
theorem fin_and1 (st : Nat) : Builtin.bitAnd (fin1 st : Int) 1 = fin1 st := by rcases fin1_cases st with h | h <;> rw [h] <;> decide +kernel
theorem fin2_and1 (st : Nat) : Builtin.bitAnd (2 + (fin1 st : Int)) 1 = fin1 st := by rcases fin1_cases st with h | h <;> rw [h] <;> decide +kernel
def bDL4 : {b : List Stmt // bDL.1.drop 4 = b} := ⟨_, by dsimp only [bDL]⟩
abbrev outB (outs : List Nat) : Array UInt8 := byteArr (outs.map Int.ofNat)
theorem outB_snoc (outs : List Nat) (c : Nat) : outB (outs ++ [c]) = (outB outs).push (Int.toNat (c : Int)).toUInt8 := by
  show byteArr ((outs ++ [c]).map Int.ofNat) = (byteArr (outs.map Int.ofNat)).push (Int.toNat (c : Int)).toUInt8
  unfold byteArr
  simp
theorem frD {h₀ h : Heap} {L d : Addr} {m : Str → Option Value} {o st f : Int} {to ts tf : Tok} (F : Fr h₀ L h m) (h1 : m sInput = some (.int o to)) (h2 : m sState = some (.int st ts)) (h3 : m sFlags = some (.int f tf)) (h4 : m sDec = some (.ref d)) :
    Fr h₀ L h (mD m d o st f to ts tf) := Fr.to F (mD_self h1 h2 h3 h4)
theorem turn2 (w : World) {mean : ExcName → Option Value} {mg mb : Str → Option Value} (A : Around) (hu : A.units + 8 < cLine) (hh : A.handled = none) (h₀ h : Heap) (L d : Addr) (u : Str → Option Value) (outs : List Nat) (rest : List (Addr × Obj)) (s : Shared) (tk : Nat)
    (st o : Nat) (f : Int) (to ts tf : Tok) (E : Value → Shared → Prop) (hst : st < 256) (ho : o < 256) (hlen : outs.length ≤ 1000)
    (X : (KL w.params).In h₀) (Y : Says w h₀) (T : Top qv (looseW qv looseN) mean mg mb h₀)
    (F : Fr h₀ L h (mD u d o st f to ts tf)) (N : News h₀ L h ((d, baObj (outB outs)) :: rest)) (hrd : ∀ q ∈ rest, q.1 ≠ d)
    (Q : Flow → Shared → Prop)
    (hOk : ∀ st' os, rdBits st (bits4 (o % 16)) = some (st', os) → ∀ h' tk' u' (f' : Int) ts' tf', (f' = (fin1 st' : Int) ∨ f' = 2 + (fin1 st' : Int)) → Fr h₀ L h' (mD u' d o st' f' to ts' tf') → News h₀ L h' ((d, baObj (outB (outs ++ os))) :: rest) → Q .next { s with heap := h', toks := tk' })
    (hBad : rdBits st (bits4 (o % 16)) = none → ∀ hm m' tk' h' e vs, Fr h₀ L hm m' → Heap.MadeExcOf hm h' e (.ref 37) vs → E (.ref e) { s with heap := h', toks := tk' }) :
    wpS (model PySem.Challenge.rw_ln0015_01.prog w) A (execs bDL4.1 (eD L)) Q E { s with heap := h, toks := tk } := by
  w_on
  revert X
  k_fill
  intro X
  dsimp only [bDL4, cD, eD]
  refine wpS_execs_cons (wpS_any ?_)
  iterate 11 walk1
  (try dsimp only)
  rw [idx_lo]
  walk1
  (try dsimp only)
  refine wpS_execs_cons (wpS_any ?_)
  iterate 4 walk1
  (try dsimp only)
  rename Fr _ _ _ _ => F1
  rename News _ _ _ _ => N1
  obtain ⟨x, tx, hx, chk⟩ := tab_entry w.params (n := o % 16) hst (by omega)
  refine tabItem (i := 16 * st + o % 16) (Y.list F1) (by omega) ?_
  refine unpackN_ F1 N1 (Y.tup F1 hx) hh rfl rfl ?_
  intro h2 F2 N2
  (try dsimp only)
  iterate 10 walk1
  (try dsimp only)
  rename Fr _ _ _ _ => F3
  rename News _ _ _ _ => N3
  rcases entry_cases chk with ⟨hb, hi⟩ | ⟨st', hb, ha, hlt, hi⟩ | ⟨st', c, hb, ha, hlt, hi, hc, hlc⟩
  · rw [hi] at F3
    refine wpS_execs_cons (wpS_any ?_)
    iterate 6 walk1
    (try dsimp only)
    rw [show Builtin.bitAnd 4 4 = 4 by decide +kernel]
    iterate 14 walk1
    (try dsimp only)
    rename Fr _ _ _ _ => F4
    exact hBad hb _ _ _ _ _ _ F4 (by assumption)
  · rw [hi, ha] at F3
    refine wpS_execs_cons (wpS_any ?_)
    iterate 6 walk1
    (try dsimp only)
    rw [fin_and4]
    iterate 2 walk1
    refine wpAny_execs_nil ?_
    (try dsimp only)
    refine wpS_execs_cons (wpS_any ?_)
    iterate 6 walk1
    (try dsimp only)
    rw [fin_and2]
    iterate 2 walk1
    refine wpAny_execs_nil ?_
    (try dsimp only)
    refine wpS_any (wpAny_execs_nil ?_)
    exact hOk st' [] hb _ _ _ _ _ _ (.inl rfl) (frD F3 rfl rfl rfl rfl) (by rw [List.append_nil]; exact N3)
  · rw [hi, ha, hc] at F3
    refine wpS_execs_cons (wpS_any ?_)
    iterate 6 walk1
    (try dsimp only)
    rw [fin2_and4]
    iterate 2 walk1
    refine wpAny_execs_nil ?_
    (try dsimp only)
    refine wpS_execs_cons (wpS_If ?_)
    iterate 5 walk1
    (try dsimp only)
    rw [fin2_and2]
    iterate 2 walk1
    (try dsimp only)
    refine wpS_execs_cons (wpS_Expr (wpS_Call_method (T := "bytearray") (i := "bytearray.append") rfl rfl rfl plainAttrs_ba ba_slot_append ba_typeOf_append ?_))
    walk1
    (try dsimp only)
    refine ⟨⟨_, (N3 _ (.head _)).1, rfl⟩, fun a e => ⟨_, by cases e; exact (N3 _ (.head _)).1, rfl⟩, callWithS_builtin rfl (Calls.evalArgs_plain (Calls.spliced_cons ?_))⟩
    iterate 2 walk1
    (try dsimp only)
    refine Calls.spliced_nil ?_
    refine call_baAppend (N3 _ (.head _)).1 (by omega) (by rw [byteArr_size, List.length_map, sizeLine_eq]; omega) ?_
    intro h6 hd6 hs6
    refine ⟨rfl, ?_⟩
    (try dsimp only)
    refine wpS_any (wpAny_execs_nil ?_)
    (try dsimp only)
    refine wpS_any (wpAny_execs_nil ?_)
    have p := N3 _ (.head _)
    refine hOk st' [c] hb _ _ _ _ _ _ (.inr rfl) (frD (F3.change hs6 p.2.1 p.2.2) rfl rfl rfl rfl) fun q hq => ?_
    rcases List.mem_cons.mp hq with rfl | hq
    · exact ⟨by rw [outB_snoc]; exact hd6, p.2.1, p.2.2⟩
    · have := N3 q (.tail _ hq)
      exact ⟨(hs6.2 q.1 (hrd q hq)).trans this.1, this.2⟩
end Mine
end

section
open PySem PySem.W PySem.Calls PyProof.Rows PySem.Spec PyProof.V
namespace Mine
set_option maxRecDepth 100000
set_option maxHeartbeats 8000000
theorem rd8_none1 {st o : Nat} (ho : o < 256) (h : rdBits st (bits4 (o / 16)) = none) : rdBits st (bits8 o) = none := by rw [bits8_eq ho, rdBits_app, h]
theorem rd8_none2 {st o st' : Nat} {os : List Nat} (ho : o < 256) (h : rdBits st (bits4 (o / 16)) = some (st', os)) (h2 : rdBits st' (bits4 (o % 16)) = none) : rdBits st (bits8 o) = none := by rw [bits8_eq ho, rdBits_app, h]; simp only [h2]
theorem rd8_some {st o st' st'' : Nat} {os os' : List Nat} (ho : o < 256) (h : rdBits st (bits4 (o / 16)) = some (st', os)) (h2 : rdBits st' (bits4 (o % 16)) = some (st'', os')) : rdBits st (bits8 o) = some (st'', os ++ os') := by rw [bits8_eq ho, rdBits_app, h]; simp only [h2]
theorem turnD (w : World) {mean : ExcName → Option Value} {mg mb : Str → Option Value} (A : Around) (hu : A.units + 8 < cLine) (hh : A.handled = none) (h₀ h : Heap) (L d : Addr) (u : Str → Option Value) (outs : List Nat) (rest : List (Addr × Obj)) (s : Shared) (tk : Nat)
    (st o : Nat) (f : Int) (to ts tf : Tok) (E : Value → Shared → Prop) (hst : st < 256) (ho : o < 256) (hlen : outs.length ≤ 900)
    (X : (KL w.params).In h₀) (Y : Says w h₀) (T : Top qv (looseW qv looseN) mean mg mb h₀)
    (F : Fr h₀ L h (mD u d o st f to ts tf)) (N : News h₀ L h ((d, baObj (outB outs)) :: rest)) (hrd : ∀ q ∈ rest, q.1 ≠ d)
    (Q : Flow → Shared → Prop)
    (hOk : ∀ st' os, rdBits st (bits8 o) = some (st', os) → ∀ h' tk' u' (f' : Int) ts' tf', (f' = (fin1 st' : Int) ∨ f' = 2 + (fin1 st' : Int)) → Fr h₀ L h' (mD u' d o st' f' to ts' tf') → News h₀ L h' ((d, baObj (outB (outs ++ os))) :: rest) → Q .next { s with heap := h', toks := tk' })
    (hBad : rdBits st (bits8 o) = none → ∀ hm m' tk' h' e vs, Fr h₀ L hm m' → Heap.MadeExcOf hm h' e (.ref 37) vs → E (.ref e) { s with heap := h', toks := tk' }) :
    wpS (model PySem.Challenge.rw_ln0015_01.prog w) A (execs bDL.1 (eD L)) Q E { s with heap := h, toks := tk } := by
  have X' := X
  w_on
  revert X
  k_fill
  intro X
  dsimp only [bDL, cD, eD]
  refine wpS_execs_cons (wpS_any ?_)
  iterate 11 walk1
  (try dsimp only)
  rw [idx_hi]
  walk1
  (try dsimp only)
  refine wpS_execs_cons (wpS_any ?_)
  iterate 4 walk1
  (try dsimp only)
  rename Fr _ _ _ _ => F1
  rename News _ _ _ _ => N1
  obtain ⟨x, tx, hx, chk⟩ := tab_entry w.params (n := o / 16) hst (by omega)
  refine tabItem (i := 16 * st + o / 16) (Y.list F1) (by omega) ?_
  refine unpackN_ F1 N1 (Y.tup F1 hx) hh rfl rfl ?_
  intro h2 F2 N2
  (try dsimp only)
  iterate 10 walk1
  (try dsimp only)
  rename Fr _ _ _ _ => F3
  rename News _ _ _ _ => N3
  rcases entry_cases chk with ⟨hb, hi⟩ | ⟨st', hb, ha, hlt, hi⟩ | ⟨st', c, hb, ha, hlt, hi, hc, hlc⟩
  · rw [hi] at F3
    refine wpS_execs_cons (wpS_any ?_)
    iterate 6 walk1
    (try dsimp only)
    rw [show Builtin.bitAnd 4 4 = 4 by decide +kernel]
    iterate 14 walk1
    (try dsimp only)
    rename Fr _ _ _ _ => F4
    exact hBad (rd8_none1 ho hb) _ _ _ _ _ _ F4 (by assumption)
  · rw [hi, ha] at F3
    refine wpS_execs_cons (wpS_any ?_)
    iterate 6 walk1
    (try dsimp only)
    rw [fin_and4]
    iterate 2 walk1
    refine wpAny_execs_nil ?_
    (try dsimp only)
    refine wpS_execs_cons (wpS_any ?_)
    iterate 6 walk1
    (try dsimp only)
    rw [fin_and2]
    iterate 2 walk1
    refine wpAny_execs_nil ?_
    (try dsimp only)
    refine turn2 w A hu hh h₀ _ L d _ outs rest s _ st' o _ _ _ _ E hlt ho (by omega) X' Y T (frD F3 rfl rfl rfl rfl) N3 hrd Q ?_ ?_
    · intro st2 os2 hb2 h' tk' u' f' ts' tf' hf' F' N'
      exact hOk st2 os2 (rd8_some ho hb hb2) h' tk' u' f' ts' tf' hf' F' N'
    · intro hb2
      exact hBad (rd8_none2 ho hb hb2)
  · rw [hi, ha, hc] at F3
    refine wpS_execs_cons (wpS_any ?_)
    iterate 6 walk1
    (try dsimp only)
    rw [fin2_and4]
    iterate 2 walk1
    refine wpAny_execs_nil ?_
    (try dsimp only)
    refine wpS_execs_cons (wpS_If ?_)
    iterate 5 walk1
    (try dsimp only)
    rw [fin2_and2]
    iterate 2 walk1
    (try dsimp only)
    refine wpS_execs_cons (wpS_Expr (wpS_Call_method (T := "bytearray") (i := "bytearray.append") rfl rfl rfl plainAttrs_ba ba_slot_append ba_typeOf_append ?_))
    walk1
    (try dsimp only)
    refine ⟨⟨_, (N3 _ (.head _)).1, rfl⟩, fun a e => ⟨_, by cases e; exact (N3 _ (.head _)).1, rfl⟩, callWithS_builtin rfl (Calls.evalArgs_plain (Calls.spliced_cons ?_))⟩
    iterate 2 walk1
    (try dsimp only)
    refine Calls.spliced_nil ?_
    refine call_baAppend (N3 _ (.head _)).1 (by omega) (by rw [byteArr_size, List.length_map, sizeLine_eq]; omega) ?_
    intro h6 hd6 hs6
    refine ⟨rfl, ?_⟩
    (try dsimp only)
    refine wpS_any (wpAny_execs_nil ?_)
    (try dsimp only)
    have p := N3 _ (.head _)
    have N4 : News h₀ L h6 ((d, baObj (outB (outs ++ [c]))) :: rest) := fun q hq => by
      rcases List.mem_cons.mp hq with rfl | hq
      · exact ⟨by rw [outB_snoc]; exact hd6, p.2.1, p.2.2⟩
      · have := N3 q (.tail _ hq)
        exact ⟨(hs6.2 q.1 (hrd q hq)).trans this.1, this.2⟩
    refine turn2 w A hu hh h₀ _ L d _ (outs ++ [c]) rest s _ st' o _ _ _ _ E hlt ho (by simp; omega) X' Y T (frD (F3.change hs6 p.2.1 p.2.2) rfl rfl rfl rfl) N4 hrd Q ?_ ?_
    · intro st2 os2 hb2 h' tk' u' f' ts' tf' hf' F' N'
      exact hOk st2 ([c] ++ os2) (rd8_some ho hb hb2) h' tk' u' f' ts' tf' hf' F' (by rw [← List.append_assoc]; exact N')
    · intro hb2
      exact hBad (rd8_none2 ho hb hb2)
end Mine
end

section
open PySem PySem.W PySem.Calls PyProof.Rows PySem.Spec PyProof.V
namespace Mine
set_option maxRecDepth 100000
set_option maxHeartbeats 8000000
def flagOk (i st : Nat) (f : Int) : Prop := i = 0 ∨ f = (fin1 st : Int) ∨ f = 2 + (fin1 st : Int)
theorem loopD (w : World) {mean : ExcName → Option Value} {mg mb : Str → Option Value} (A : Around) (hu : A.units + 8 < cLine) (hh : A.handled = none) (h₀ : Heap) (L d hb I : Addr) (m₀ : Str → Option Value) (oI : Obj) (s : Shared)
    (b : Array UInt8) (px : Pos) (E : Value → Shared → Prop) (R : Result → Shared → Prop) (hsz : b.size ≤ 20)
    (X : (KL w.params).In h₀) (Y : Says w h₀) (T : Top qv (looseW qv looseN) mean mg mb h₀)
    (F : Fr h₀ L s.heap m₀) (N : News h₀ L s.heap [(d, baObj #[]), (hb, baObj b), (I, oI)]) (hd1 : hb ≠ d) (hd2 : I ≠ d) (hd3 : I ≠ hb)
    (hI : oI.cls = .type "bytearray_iterator" ∧ oI.data = .fields #[.ref hb, .int (0 : Nat) 0])
    (h1 : ∃ t, m₀ sState = some (.int 0 t)) (h2 : ∃ t, m₀ sFlags = some (.int 0 t)) (h3 : m₀ sDec = some (.ref d))
    (hE : ∀ e s', E e s' → notedBy (model PySem.Challenge.rw_ln0015_01.prog w) A (eD L) (fun e s' => R (.error e) s') e s')
    (done : ∀ st outs, rdBits 0 (bitsOf (b.toList.map UInt8.toNat)) = some (st, outs) → ∀ h' tk m' (f : Int) tf, flagOk b.size st f → Fr h₀ L h' m' → m' sFlags = some (.int f tf) → m' sDec = some (.ref d) → News h₀ L h' [(d, baObj (outB outs))] → R (.ok .next) { s with heap := h', toks := tk })
    (bad : rdBits 0 (bitsOf (b.toList.map UInt8.toNat)) = none → ∀ hm m' tk' h' e vs, Fr h₀ L hm m' → Heap.MadeExcOf hm h' e (.ref 37) vs → E (.ref e) { s with heap := h', toks := tk' }) :
    codeS (model PySem.Challenge.rw_ln0015_01.prog w) A (.forLoop (.Name sInput px) (.ref I) bDL.1 [] (eD L)) R s := by
  refine codeS_forLoop (fun n s' => ∃ i h' tk m' st outs f o', n = b.size + 1 - i ∧ i ≤ b.size ∧ s' = { s with heap := h', toks := tk } ∧ rdBits 0 (bitsOf ((b.toList.map UInt8.toNat).take i)) = some (st, outs) ∧ st < 256 ∧ flagOk i st f ∧
      Fr h₀ L h' m' ∧ (∃ t, m' sState = some (.int st t)) ∧ (∃ t, m' sFlags = some (.int f t)) ∧ m' sDec = some (.ref d) ∧ News h₀ L h' [(d, baObj (outB outs)), (hb, baObj b), (I, o')] ∧ o'.cls = .type "bytearray_iterator" ∧ o'.data = .fields #[.ref hb, .int (i : Nat) 0]) ?_ (b.size + 1) ?_
  · rintro n s' ⟨i, h', tk, m', st, outs, f, o', rfl, hi, rfl, hbits, hst, hfl, F', ⟨ts, e1⟩, ⟨tf, e2⟩, e3, N', hc, hdt⟩
    have pd := N' (d, baObj (outB outs)) (by simp)
    have ph := N' (hb, baObj b) (by simp)
    have pI := N' (I, o') (by simp)
    by_cases hlt : i < b.size
    · have hx : b[i]? = some b[i] := by simp [hlt]
      refine next_baItem ⟨o', pI.1, hc, hdt⟩ ph.1 hx fun h2 hit2 hs2 => ?_
      (try dsimp only)
      obtain ⟨o2, ho2, hc2, hd2'⟩ := hit2
      have F2 := F'.change hs2 pI.2.1 pI.2.2
      have N2 : News h₀ L h2 [(d, baObj (outB outs)), (hb, baObj b), (I, o2)] := fun q hq => by
        simp at hq
        rcases hq with rfl | rfl | rfl
        · exact ⟨(hs2.2 d (Ne.symm hd2)).trans pd.1, pd.2⟩
        · exact ⟨(hs2.2 hb (Ne.symm hd3)).trans ph.1, ph.2⟩
        · exact ⟨ho2, pI.2⟩
      refine wpAny_assign_Name (stN F2 N2 ?_ rfl rfl)
      intro h3 F3 N3
      (try dsimp only)
      have hs : (b.toList.map UInt8.toNat).take (i + 1) = (b.toList.map UInt8.toNat).take i ++ [b[i].toNat] := by simp [List.take_add_one, hx]
      have hlo := (rdBits_lt _ _ _ _ (by decide) hbits).2
      rw [bitsOf_len, List.length_take] at hlo
      have hF4 : Fr h₀ L h3 (mD (fun y => if y = sInput then some (.int (b[i].toNat : Int) tk) else m' y) d b[i].toNat st f tk ts tf) := frD F3 rfl e1 e2 e3
      refine wpS_mono (turnD w A hu hh h₀ h3 L d _ outs [(hb, baObj b), (I, o2)] s _ st b[i].toNat f tk ts tf E hst b[i].toNat_lt (by omega) X Y T hF4 N3 (fun q hq => by simp at hq; rcases hq with rfl | rfl; exact hd1; exact hd2) (fun f s₃ => match f with
          | .next | .cont => ∃ m, m < b.size + 1 - i ∧ _
          | .brk => R (.ok .next) s₃
          | .ret v => R (.ok (.ret v)) s₃) ?_ ?_) (fun f s₃ x => x) hE
      · intro st' os hb' h4 tk4 u4 f4 ts4 tf4 hf4 F4 N4
        refine ⟨b.size + 1 - (i + 1), by omega, i + 1, h4, tk4, _, st', outs ++ os, f4, o2, rfl, hlt, rfl, ?_, (rdBits_lt _ _ _ _ hst hb').1, .inr hf4, F4, ⟨_, rfl⟩, ⟨_, rfl⟩, rfl, N4, hc2, hd2'⟩
        rw [hs, bitsOf_snoc, rdBits_app, hbits]
        simp only [hb']
      · intro hb' hm m4 tk4 h4 e vs F4 hex
        refine bad ?_ hm m4 tk4 h4 e vs F4 hex
        have e' : rdBits 0 (bitsOf ((b.toList.map UInt8.toNat).take (i + 1))) = none := by
          rw [hs, bitsOf_snoc, rdBits_app, hbits]
          simp only [hb']
        rw [← List.take_append_drop (i + 1) (b.toList.map UInt8.toNat), bitsOf, List.flatMap_append, rdBits_app]
        unfold bitsOf at e'
        rw [e']
    · have hie : i = b.size := by omega
      subst hie
      refine next_baEnd hh ⟨o', pI.1, hc, hdt⟩ ph.1 (by simp) fun h2 he2 => ?_
      (try dsimp only)
      refine wpAny_execs_nil ?_
      rw [List.take_of_length_le (by simp)] at hbits
      have hne : ∀ c o, h₀.get? c = some o → c ≠ I := fun c o q hq => by rw [hq, pI.2.2] at q; cases q
      refine done st outs hbits h2 tk m' f tf hfl ⟨F'.ns.at' fun o e => he2 _ o (Ne.symm pI.2.1) e, fun c o q => he2 c o (hne c o q) (F'.keep c o q), F'.above⟩ e2 e3 fun q hq => ?_
      simp at hq
      subst hq
      exact ⟨he2 d _ (Ne.symm hd2) pd.1, pd.2⟩
  · obtain ⟨t1, e1⟩ := h1
    obtain ⟨t2, e2⟩ := h2
    exact ⟨0, s.heap, s.toks, m₀, 0, [], 0, oI, rfl, by omega, rfl, rfl, by decide, .inl rfl, F, ⟨t1, e1⟩, ⟨t2, e2⟩, h3, N, hI.1, hI.2⟩
end Mine
end

section
open PySem PySem.W PySem.Calls PyProof.Rows PySem.Spec PyProof.V
namespace Mine
set_option maxRecDepth 100000
set_option maxHeartbeats 8000000
abbrev sHuff : Str := Str.ofString "huffman_string"
theorem readRes_nil : readRes #[] = some [] := by decide +kernel
theorem frMore {h₀ h h' : Heap} {L : Addr} {m : Str → Option Value} (F : Fr h₀ L h m) (hk : ∀ b o, h.get? b = some o → h'.get? b = some o) : Fr h₀ L h' m := ⟨F.ns.at' fun o e => hk _ o e, fun a o e => hk a o (F.keep a o e), F.above⟩
theorem newsMore {h₀ h h' : Heap} {L : Addr} {m : Str → Option Value} {news : List (Addr × Obj)} {o : Obj} (F : Fr h₀ L h m) (N : News h₀ L h news) (hk : ∀ b o, h.get? b = some o → h'.get? b = some o) (ho : h'.get? h.objs.size = some o) : News h₀ L h' ((h.objs.size, o) :: news) := fun q hq => by
  rcases List.mem_cons.mp hq with rfl | hq
  · exact ⟨ho, Nat.ne_of_gt F.ns.lt, next_is_new F⟩
  · exact ⟨hk _ _ (N q hq).1, (N q hq).2⟩
theorem bodyD (w : World) {mean : ExcName → Option Value} {mg mb : Str → Option Value} (A : Around) (hu : A.units + 8 < cLine) (hh : A.handled = none) (h₀ h : Heap) (L : Addr) (s : Shared) (tk : Nat)
    (b : Array UInt8) (tb : Tok) (hsz : b.size ≤ 20) (E₁ : Value → Shared → Prop) (E₂ : Value → Shared → Prop)
    (X : (KL w.params).In h₀) (Y : Says w h₀) (T : Top qv (looseW qv looseN) mean mg mb h₀)
    (F : Fr h₀ L h (fun y => if y = sHuff then some (.bytes b tb) else none))
    (Q : Flow → Shared → Prop)
    (hOk : ∀ outs, readRes b = some outs → ∀ h' tk m' t, Fr h₀ L h' m' → Q (.ret (.bytes (outB outs) t)) { s with heap := h', toks := tk })
    (hBad : readRes b = none → ∀ hm m' tk' h' e vs, Fr h₀ L hm m' → Heap.MadeExcOf hm h' e (.ref 37) vs → wpAny (model PySem.Challenge.rw_ln0015_01.prog w) A («leaving» (eD L) (.ref e)) (fun _ s'' => E₁ (.ref e) s'') E₂ { s with heap := h', toks := tk' }) :
    wpS (model PySem.Challenge.rw_ln0015_01.prog w) A (execs bD.1 (eD L)) Q (fun e s' => wpAny (model PySem.Challenge.rw_ln0015_01.prog w) A («leaving» (eD L) e) (fun _ s'' => E₁ e s'') E₂ s') { s with heap := h, toks := tk } := by
  have N : News h₀ L h [] := fun _ hp => by cases hp
  have X' := X
  w_on
  revert X
  k_fill
  intro X
  dsimp only [bD, cD, eD]
  refine wpS_execs_cons (wpS_any ?_)
  iterate 5 walk1
  (try dsimp only)
  by_cases hb0 : b.size = 0
  · rw [if_pos (by simp [hb0])]
    iterate 4 walk1
    (try dsimp only)
    have e : b = #[] := Array.eq_empty_of_size_eq_zero hb0
    subst e
    exact hOk [] readRes_nil _ _ _ _ F
  · rw [if_neg (by simp only [bne, Bool.not_not, beq_iff_eq]; omega)]
    refine wpAny_execs_nil ?_
    (try dsimp only)
    refine wpS_execs_cons (wpS_any ?_)
    iterate 3 walk1
    (try dsimp only)
    refine wpS_execs_cons (wpS_any ?_)
    iterate 3 walk1
    (try dsimp only)
    refine wpS_execs_cons (wpS_Assign_Name (wpS_Call_Name ?_))
    walk1
    refine callWithS_type rfl (evalArgs_kw_nil rfl (wpAny_evalAll_nil ?_))
    (try dsimp only)
    rename Fr _ _ _ _ => F1
    rename News _ _ _ _ => N1
    refine call_ba0 fun h2 hk2 hd2 => ?_
    (try dsimp only)
    refine stN (frMore F1 hk2) (newsMore F1 N1 hk2 hd2) ?_ rfl rfl
    intro h3 F3 N3
    (try dsimp only)
    clear N1 F1
    refine wpS_execs_cons (wpS_Assign_Name (wpS_Call_Name ?_))
    walk1
    refine callWithS_type rfl (Calls.evalArgs_plain (Calls.spliced_cons ?_))
    iterate 2 walk1
    (try dsimp only)
    refine Calls.spliced_nil ?_
    rename Fr _ _ _ _ => F4
    rename News _ _ _ _ => N4
    have hlt := Heap.lt_size (N4 _ (.head _)).1
    refine call_ba1 (by rw [sizeLine_eq]; omega) fun h5 hk5 hd5 => ?_
    (try dsimp only)
    refine stN (frMore F4 hk5) (newsMore F4 N4 hk5 hd5) ?_ rfl rfl
    intro h6 F6 N6
    (try dsimp only)
    clear N4 F4
    refine wpS_execs_cons (wpS_For ?_)
    walk1
    (try dsimp only)
    refine pyIter_ba (N6 _ (.head _)).1 ?_
    (try dsimp only)
    have N7 := News.push F6 N6 { cls := .type "bytearray_iterator", data := .fields #[.ref h3.objs.size, .int 0 0] }
    have q1 := Heap.lt_size (N6 _ (.head _)).1
    have q2 := Heap.lt_size (N6 _ (.tail _ (.head _))).1
    refine loopD w A hu hh h₀ L _ _ _ _ { cls := .type "bytearray_iterator", data := .fields #[.ref h3.objs.size, .int 0 0] } _ b _ (fun e s' => wpAny (model PySem.Challenge.rw_ln0015_01.prog w) A («leaving» (eD L) e) (fun _ s'' => E₁ e s'') E₂ s') _ hsz X' Y T (F6.push _) (newsSub N7 fun q hq => by simp at hq ⊢; rcases hq with rfl | rfl | rfl <;> simp) (Nat.ne_of_gt hlt) (Nat.ne_of_gt q2) (Nat.ne_of_gt q1) ⟨rfl, rfl⟩ ⟨_, rfl⟩ ⟨_, rfl⟩ rfl (PassesOwn.leaving) ?_ ?_
    · intro st outs hbits h' tk' m' f tf hfl F' e2 e3 N'
      (try dsimp only)
      have F8 : ∃ d, News h₀ L h' [(d, baObj (outB outs))] ∧ Fr h₀ L h' (fun y => if y = sFlags then some (.int f tf) else if y = sDec then some (.ref d) else m' y) := ⟨_, N', Fr.to F' fun y => by
        by_cases a1 : y = sFlags
        · rw [if_pos a1, a1]; exact e2
        · rw [if_neg a1]
          by_cases a2 : y = sDec
          · rw [if_pos a2, a2]; exact e3
          · rw [if_neg a2]⟩
      clear F' N' N7 N6 F6
      obtain ⟨d, N8, F8⟩ := F8
      refine wpS_any ?_
      have hand : Builtin.bitAnd f 1 = (fin1 st : Int) := by
        rcases hfl with h | h | h
        · exact absurd h hb0
        · rw [h]; exact fin_and1 st
        · rw [h]; exact fin2_and1 st
      iterate 8 walk1
      (try dsimp only)
      rw [hand]
      rcases fin1_cases st with h0 | h1
      · rw [h0]
        iterate 14 walk1
        (try dsimp only)
        rename Fr _ _ _ _ => F9
        exact hBad (by unfold readRes; rw [hbits]; simp only [h0]; rfl) _ _ _ _ _ _ F9 (by assumption)
      · rw [h1]
        iterate 12 walk1
        (try dsimp only)
        have hlo := (rdBits_lt _ _ _ _ (by decide) hbits).2
        rw [bitsOf_len] at hlo
        refine call_bytes_ba (N8 _ (.head _)).1 (by rw [byteArr_size, List.length_map, sizeLine_eq]; simp at hlo; omega) ?_
        (try dsimp only)
        exact hOk outs (by unfold readRes; rw [hbits]; simp only [h1, if_true]) _ _ _ _ F8
    · intro hbits
      exact hBad (by unfold readRes; rw [hbits])
theorem KL_get46 (w : World) {h : Heap} (X : (KL w.params).In h) : h.get? 46 = some (ob46 w.params).1 := X _ _ (by rfl)
theorem KL_get45 (w : World) {h : Heap} (X : (KL w.params).In h) : h.get? 45 = some (ob45 w.params).1 := X _ _ (by rfl)
theorem lookup_huff {b : Array UInt8} {tb : Tok} (y : Str) : ([(sHuff, Value.bytes b tb)] : List (Str × Value)).reverse.lookup y = if y = sHuff then some (.bytes b tb) else none := by
  show List.lookup y [(sHuff, Value.bytes b tb)] = _
  by_cases e : y = sHuff
  · subst e; rfl
  · rw [if_neg e]
    have : (y == sHuff) = false := by simpa using e
    simp [List.lookup, this]
theorem ob46_data (w : World) : (ob46 w.params).1.data = .func (Calls.docDef (Str.ofString "decode_huffman") aD.1 bD.1 cD.1 (.str (Str.ofString "hpack.huffman_table") 225) (.ref 45) .none) := by kernel_rfl
end Mine
end

section
open PySem PySem.W PySem.Calls PyProof.Rows PySem.Spec PyProof.V
namespace Mine
set_option maxRecDepth 100000
set_option maxHeartbeats 8000000
theorem decodeC (w : World) {mean : ExcName → Option Value} {mg mb : Str → Option Value} (A : Around) (base : Heap) (outer : List Env) (hroom : A.depth < recursionLimit) (hu : A.units + 12 < cLine) (hh : A.handled = none) (s : Shared)
    (K : Below A base outer s.heap) (b : Array UInt8) (tb : Tok) (hlen : b.size ≤ 20)
    (X : (KL w.params).In s.heap) (Y : Says w s.heap) (T : Top qv (looseW qv looseN) mean mg mb s.heap)
    (Q E : Value → Shared → Prop)
    (hOk : ∀ outs, readRes b = some outs → ∀ h' tk t, (∀ a o, s.heap.get? a = some o → h'.get? a = some o) → Q (.bytes (outB outs) t) { s with heap := h', toks := tk })
    (hBad : readRes b = none → ∀ h' tk e t vs, RaisedK base outer e (.ref 37) t vs [] h' → s.heap.UpToSlots h' → Ctx0 e h' → E (.ref e) { s with heap := h', toks := tk }) :
    wpS (model PySem.Challenge.rw_ln0015_01.prog w) A (call (.ref 46) [.bytes b tb]) Q E s := by
  refine wpS_call (codeS_calls (fd := Calls.docDef (Str.ofString "decode_huffman") aD.1 bD.1 cD.1 (.str (Str.ofString "hpack.huffman_table") 225) (.ref 45) .none) (binds := [(sHuff, .bytes b tb)]) hroom (KL_get46 w X) (ob46_data w) ⟨rfl, rfl, rfl⟩ ⟨45, _, _, _, rfl, KL_get45 w X, rfl, rfl⟩ (by kernel_rfl) ?_)
  refine wpAny_newFunctionEnv (by decide +kernel) (locs rfl) (fun h₁ hns hsb => ⟨T.nolimit.fresh _ hsb, ?_⟩) rfl
  show codeS _ _ (.func bD.1 (eD s.heap.objs.size)) _ _
  have F : Fr s.heap s.heap.objs.size h₁ _ := ⟨hns, fun b o e => hsb.extBut b o (Nat.ne_of_lt (Heap.lt_size e)) (Heap.get?_push_of_some _ e), Nat.le_refl _⟩
  refine codeS_func (bodyD w (A.deeper _) (by show A.units + 3 + 8 < cLine; omega) hh s.heap h₁ s.heap.objs.size s _ b tb hlen _ _ X Y T (Fr.to F lookup_huff) _ ?_ ?_)
  · intro outs hr h' tk m' t F'
    exact hOk outs hr h' tk t F'.keep
  · intro hr hm m' tk' h' e vs F' hex
    obtain ⟨t0, q1, q2, q3⟩ := hex.there
    refine wpAny_mono (keepsAny (e := e) Keeps.leave ⟨_, _, q1, rfl, rfl⟩ (leave_raiseK (news := []) (Q := fun _ s'' => ∃ h'' t, s'' = { s with heap := h'', toks := tk' } ∧ RaisedK base outer e (.ref 37) t vs [] h'' ∧ s.heap.UpToSlots h'') K hex F' News.nil (fun h'' t R hsm => ⟨h'', t, rfl, R, hsm⟩))) (fun _ s'' x => ?_) (fun _ _ x => x.1)
    obtain ⟨⟨h'', t, rfl, R, hsm⟩, c⟩ := x
    exact hBad hr h'' tk' e t vs R hsm c
end Mine
end

section
open PySem PySem.W PySem.Calls PyProof.Rows PySem.Spec PyProof.V
namespace Mine
set_option maxRecDepth 100000
set_option linter.unusedVariables false
section
variable {M : Model} {A : Around} {E : Value → Shared → Prop} {s : Shared} {B : Heap} {env : Env} {l : List Env} {L e : Addr} {c v : Value} {Q : Unit → Shared → Prop}
/-- the moves of an exception in flight, each with its empty context handed on -/
theorem notedC (hl : A.frames = some (env :: l)) (hf : env.frame = some L) (fl : Heap.FlyingW B (env :: l) e c v s.heap) (c0 : Ctx0 e s.heap)
    (h : ∀ h', Heap.HeldW B (env :: l) e c v L h' → s.heap.UpToSlots h' → Ctx0 e h' → Q () { s with heap := h' }) : wpAny M A (noteFrame (.ref e) env) Q E s := by
  let R : Unit → Shared → Prop := fun _ s₂ => ∃ h', s₂ = { s with heap := h' } ∧ Heap.HeldW B (env :: l) e c v L h' ∧ s.heap.UpToSlots h'
  refine wpAny_mono (keepsAny Keeps.noteFrame c0 (wpAny_looks_onW (Q := R) hl hf fl fun h' a b => ⟨h', rfl, a, b⟩)) ?_ fun _ _ z => z.1
  rintro _ _ ⟨⟨h', rfl, a, b⟩, d⟩
  exact h h' a b d
theorem landsC (held : Heap.HeldW B l e c v L s.heap) (c0 : Ctx0 e s.heap) (h : ∀ h', Heap.FlyingW B l e c v h' → s.heap.UpToSlots h' → Ctx0 e h' → Q () { s with heap := h' }) : wpAny M A (setFlight (.ref e) none) Q E s := by
  let R : Unit → Shared → Prop := fun _ s₂ => ∃ h', s₂ = { s with heap := h' } ∧ Heap.FlyingW B l e c v h' ∧ s.heap.UpToSlots h'
  refine wpAny_mono (keepsAny Keeps.setFlight c0 (wpAny_landsW (Q := R) held fun h' a b => ⟨h', rfl, a, b⟩)) ?_ fun _ _ z => z.1
  rintro _ _ ⟨⟨h', rfl, a, b⟩, d⟩
  exact h h' a b d
theorem landsC2 (fl : Heap.FlyingW B l e c v s.heap) (c0 : Ctx0 e s.heap) (h : ∀ h', Heap.FlyingW B l e c v h' → s.heap.UpToSlots h' → Ctx0 e h' → Q () { s with heap := h' }) : wpAny M A (setFlight (.ref e) none) Q E s := by
  let R : Unit → Shared → Prop := fun _ s₂ => ∃ h', s₂ = { s with heap := h' } ∧ Heap.FlyingW B l e c v h' ∧ s.heap.UpToSlots h'
  refine wpAny_mono (keepsAny Keeps.setFlight c0 (lands_againW (Q := R) fl fun h' a b => ⟨h', rfl, a, b⟩)) ?_ fun _ _ z => z.1
  rintro _ _ ⟨⟨h', rfl, a, b⟩, d⟩
  exact h h' a b d
end
section
variable {prog p : Program} {w : World} {A₀ A : Around} {env : Env} {E : Value → Shared → Prop} {Q : Flow → Shared → Prop} {s : Shared} {h₀ h : Heap} {outer : List Env} {L a e t C : Addr} {m mg mb : Str → Option Value} {name x : Str} {scope : Scope} {cd : Value}
  {vs bases : List Value} {news : List (Addr × Obj)} {KF : Frag} {newId : String} {loose : List Str} {b₀ : Stmt} {suite : List Stmt} {rest : List ExceptHandler} {pos np : Pos}
/-- an exception of the program's own class, its context still empty, comes to a handler that names the class -/
theorem caughtC (eA : A = A₀.deeper env) (eEnv : env = envOf name scope L a cd) (K : Below A₀ h₀ outer h₀) (F : Fr h₀ L h m) (hsm : h.UpToSlots s.heap) (R : RaisedK h₀ (env :: outer) e (.ref C) t vs news s.heap) (c0 : Ctx0 e s.heap)
    (X : KF.In h₀) (T : TopRead p loose mg mb h₀) (known : nsIn KF mainGlobals x = some (some (.ref C))) (cls : excIn KF C bases newId = true) (base : bases.contains (.type "BaseException") = true)
    (kind : scope.kind = .function) (free : env.kindOf x = some .globalImplicit) (plain : (x == ("__debug__" : Str)) = false) (pass : PassesOwnAt (model prog w) (A.mark (some (.ref e))) A env E)
    (k : ∀ h', Fr h₀ L h' m → Ctx0 e h' → wpAny (model prog w) (A.mark (some (.ref e))) (execs (b₀ :: suite) env) Q E { s with heap := h' }) :
    toHandlers (model prog w) A env (.ExceptHandler (some (.Name x np)) none (b₀ :: suite) pos :: rest) Q E (.ref e) s := by
  subst eA eEnv
  obtain ⟨⟨B, stays, _, fl, _⟩, _⟩ := R
  refine notedC (Around.frames_deeper K.stack) rfl fl c0 fun h₁ held u₁ c₁ => landsC held c₁ fun h₂ fl₂ u₂ c₂ => ?_
  have up := hsm.trans (u₁.trans u₂)
  have low := flyingW_base stays fl₂
  have F₂ := F.of_stays low.1 up
  obtain ⟨oe, atE, isC⟩ := low.there
  obtain ⟨_, _, _, _, _, _, _, _, _, _, _, _, _, _, _, _, _, atC, _, _, tail⟩ := ((own_of_in X T known cls).keeps F₂.keep).obj
  refine wpAny_handleBy_cons (codeAny_handlers_test (name_K F₂ X T known ?_ kind free plain)) (by intro q; cases q)
  refine wpAny_excMatches_sub_self atC atE isC (tail.hasType base) (codeAny_handlers_suite (landsC2 fl₂ c₂ fun h₃ fl₃ u₃ c₃ => ?_))
  exact wpAny_passesOwnAt pass (k h₃ (F.of_stays (flyingW_base stays fl₃).1 (up.trans u₃)) c₃)
end
end Mine
end

section
open PySem PySem.W PySem.Calls PyProof.Rows PySem.Spec PyProof.V
namespace Mine
set_option maxRecDepth 100000
set_option maxHeartbeats 8000000
abbrev eL (L : Addr) : Env := envOf (Str.ofString "law") cL.1 L 4219 (.ref 4218)
abbrev sScript : Str := Str.ofString "script"
abbrev sTold : Str := Str.ofString "told"
def bL1 : {b : List Stmt // bL.1.drop 1 = b} := ⟨_, by dsimp only [bL]⟩
theorem KL_exc (w : World) : nsIn (KL w.params) mainGlobals (Str.ofString "HPACKDecodingError") = some (some (.ref 37)) := by kernel_rfl
theorem KL_excIn (w : World) : excIn (KL w.params) 37 [.type "Exception", .type "BaseException", .type "object"] "Exception.__new__" = true := by kernel_rfl
theorem Says.codes {w : World} {h₀ h : Heap} {L : Addr} {m : Str → Option Value} (Y : Says w h₀) (F : Fr h₀ L h m) : h.IsList 4206 (intsFrom Mine.codes 9737).toArray := ⟨_, F.keep _ _ (Y _ _ (tab_codes _)), rfl, 0, rfl⟩
theorem Says.lens {w : World} {h₀ h : Heap} {L : Addr} {m : Str → Option Value} (Y : Says w h₀) (F : Fr h₀ L h m) : h.IsList 4207 (intsFrom Mine.lens 9995).toArray := ⟨_, F.keep _ _ (Y _ _ (tab_lens _)), rfl, 0, rfl⟩
theorem tailL (w : World) {mean : ExcName → Option Value} {mg mb : Str → Option Value} (h₀ h : Heap) (L l : Addr) (b : Array UInt8) (tb : Tok) (hb : b.size ≤ 20) (s : Shared) (tk : Nat)
    (X : (KL w.params).In h₀) (Y : Says w h₀) (T : Top qv (looseW qv looseN) mean mg mb h₀)
    (F : Fr h₀ L h (fun y => if y = sOctets then some (.bytes b tb) else if y = sScript then some (.ref l) else none))
    (Q : Flow → Shared → Prop) (E₁ E₂ : Value → Shared → Prop)
    (hQ : ∀ h' tk' m', Fr h₀ L h' m' → Q (.ret (.bool true)) { s with heap := h', toks := tk' }) :
    wpS (model PySem.Challenge.rw_ln0015_01.prog w) (callerA.deeper (eL L)) (execs bL1.1 (eL L)) Q (fun e s' => wpAny (model PySem.Challenge.rw_ln0015_01.prog w) (callerA.deeper (eL L)) («leaving» (eL L) e) (fun _ s'' => E₁ e s'') E₂ s') { s with heap := h, toks := tk } := by
  have N : News h₀ L h [] := fun _ hp => by cases hp
  have X' := X
  w_on
  revert X
  k_fill
  intro X
  dsimp only [bL1, cL, eL]
  refine wpS_execs_cons (wpS_Try_except (wpS_execs_cons (wpS_Assign_Name (wpS_Call_Name ?_))))
  walk1
  refine callWithS_function (o := (ob46 w.params).1) (fd := Calls.docDef (Str.ofString "decode_huffman") aD.1 bD.1 cD.1 (.str (Str.ofString "hpack.huffman_table") 225) (.ref 45) .none) rfl (Calls.evalArgs_plain (Calls.spliced_cons ?_))
  iterate 2 walk1
  (try dsimp only)
  rename Fr _ _ _ _ => F1
  refine Calls.spliced_nil ⟨⟨F1.keep _ _ (KL_get46 w X'), ob46_data w⟩, ?_⟩
  refine decodeC w (callerA.deeper (eL L)) h₀ [eL L] (by show callerA.depth + 1 < recursionLimit; decide +kernel) (by show callerA.units + 3 + 12 < cLine; decide +kernel) rfl _ ((below_caller h₀).push F1 rfl) b tb hb (X'.keeps F1.keep) (fun a o e => F1.keep _ _ (Y a o e)) (T.keeps F1.keep) _ _ ?_ ?_
  · intro outs hr h2 tk2 t2 hk2
    (try dsimp only)
    refine stN (frMore F1 hk2) (News.nil (h := h2)) ?_ rfl rfl
    intro h3 F3 N3
    (try dsimp only)
    refine wpS_any (wpAny_execs_nil ?_)
    (try dsimp only)
    refine wpAny_execs_nil ?_
    (try dsimp only)
    refine wpS_any ?_
    clear F1
    iterate 11 walk1
    (try dsimp only)
    refine ⟨X'.keeps F3.keep, ?_⟩
    refine readC w (mean := mean) (mg := mg) (mb := mb) (callerA.deeper (eL L)) (by show callerA.depth + 1 < recursionLimit; decide +kernel) (by show callerA.units + 3 + 12 < cLine; decide +kernel) _ (.inl rfl) b tb hb (.inl rfl) ?x1 ?x2 ?x3 ?x4 _ _ ?x5
    case x1 => exact X'.keeps F3.keep
    case x2 => exact T.keeps F3.keep
    case x3 => exact Y.codes F3
    case x4 => exact Y.lens F3
    intro h4 tk4 t4 hk4
    (try dsimp only)
    rw [hr]
    dsimp only [resV]
    have F5 := frMore F3 hk4
    clear F3
    walk1
    rw [show ((outB outs).toList == (byteArr (List.map Int.ofNat outs)).toList) = true from beq_self_eq_true _]
    exact hQ _ _ _ F5
  · intro hr h2 tk2 e t2 vs2 R hsm c0
    (try dsimp only)
    refine caughtC (bases := [.type "Exception", .type "BaseException", .type "object"]) (newId := "Exception.__new__") rfl rfl (below_caller h₀) F1 hsm R c0 X' (topRead_of T) (KL_exc w) (KL_excIn w) rfl rfl rfl (by decide) PassesOwnAt.leaving ?_
    intro h3 F3 c3
    (try dsimp only)
    clear F1
    iterate 9 walk1
    (try dsimp only)
    obtain ⟨oc, wc, g1, g2, g3⟩ := c3
    refine ⟨X'.keeps F3.keep, ?_⟩
    refine readC w (mean := mean) (mg := mg) (mb := mb) ((callerA.deeper (eL L)).mark (some (.ref e))) (by show callerA.depth + 1 < recursionLimit; decide +kernel) (by show callerA.units + 3 + 12 < cLine; decide +kernel) _ ?y0 b tb hb (.inr hr) ?y1 ?y2 ?y3 ?y4 _ _ ?y5
    case y0 => exact .inr ⟨e, oc, wc, rfl, g1, g2, g3⟩
    case y1 => exact X'.keeps F3.keep
    case y2 => exact T.keeps F3.keep
    case y3 => exact Y.codes F3
    case y4 => exact Y.lens F3
    intro h4 tk4 t4 hk4
    (try dsimp only)
    rw [hr]
    dsimp only [resV]
    have F5 := frMore F3 hk4
    clear F3
    iterate 2 walk1
    exact hQ _ _ _ F5
theorem bodyL (w : World) {mean : ExcName → Option Value} {mg mb : Str → Option Value} (h₀ h : Heap) (L l : Addr) (vs : List Value) (ns : List Int) (s : Shared) (tk : Nat)
    (X : (KL w.params).In h₀) (Y : Says w h₀) (T : Top qv (looseW qv looseN) mean mg mb h₀) (hl : h₀.IsList l vs.toArray) (hi : IntsAre vs ns) (hn : ns.length ≤ 63)
    (F : Fr h₀ L h (fun y => if y = sScript then some (.ref l) else none))
    (Q : Flow → Shared → Prop) (E₁ E₂ : Value → Shared → Prop)
    (hQ : ∀ h' tk' m', Fr h₀ L h' m' → Q (.ret (.bool true)) { s with heap := h', toks := tk' }) :
    wpS (model PySem.Challenge.rw_ln0015_01.prog w) (callerA.deeper (eL L)) (execs bL.1 (eL L)) Q (fun e s' => wpAny (model PySem.Challenge.rw_ln0015_01.prog w) (callerA.deeper (eL L)) («leaving» (eL L) e) (fun _ s'' => E₁ e s'') E₂ s') { s with heap := h, toks := tk } := by
  have N : News h₀ L h [] := fun _ hp => by cases hp
  have X' := X
  w_on
  revert X
  k_fill
  intro X
  dsimp only [bL, cL, eL]
  refine wpS_execs_cons (wpS_any ?_)
  k_steps
  rename Fr _ _ _ _ => F1
  exact tailL w h₀ _ L l _ _ (by rw [byteArr_size, List.length_map, List.length_take]; omega) s _ X' Y T F1 Q E₁ E₂ hQ
end Mine
end

section
open PySem PySem.W PySem.Calls PyProof.Rows PySem.Spec PyProof.V
namespace Mine
set_option maxRecDepth 100000
set_option maxHeartbeats 8000000
theorem KL_get4219 (w : World) {h : Heap} (X : (KL w.params).In h) : h.get? 4219 = some (ob4219 w.params).1 := X _ _ (by rfl)
theorem KL_get4218 (w : World) {h : Heap} (X : (KL w.params).In h) : h.get? 4218 = some (ob4218 w.params).1 := X _ _ (by rfl)
theorem KL_get3 (w : World) {h : Heap} (X : (KL w.params).In h) : h.get? 3 = some (nsObj (nsF w.params) 52) := X _ _ (by rfl)
theorem ob4219_data (w : World) : (ob4219 w.params).1.data = .func (Calls.docDef (Str.ofString "law") aL.1 bL.1 cL.1 (.str (Str.ofString "law_ln0015_01") 10253) (.ref 4218) .none) := by kernel_rfl
theorem lookup_script {l : Addr} (y : Str) : ([(sScript, Value.ref l)] : List (Str × Value)).reverse.lookup y = if y = sScript then some (.ref l) else none := by
  show List.lookup y [(sScript, Value.ref l)] = _
  by_cases e : y = sScript
  · subst e; rfl
  · rw [if_neg e]
    have : (y == sScript) = false := by simpa using e
    simp [List.lookup, this]
theorem lawC (w : World) {mean : ExcName → Option Value} {mg mb : Str → Option Value} (s : Shared) (l : Addr) (vs : List Value) (ns : List Int)
    (X : (KL w.params).In s.heap) (Y : Says w s.heap) (T : Top qv (looseW qv looseN) mean mg mb s.heap) (hl : s.heap.IsList l vs.toArray) (hi : IntsAre vs ns) (hn : ns.length ≤ 63)
    (Q E : Value → Shared → Prop)
    (hQ : ∀ h' tk, (∀ a o, s.heap.get? a = some o → h'.get? a = some o) → Q (.bool true) { s with heap := h', toks := tk }) :
    wpS (model PySem.Challenge.rw_ln0015_01.prog w) callerA (call (.ref 4219) [.ref l]) Q E s := by
  refine wpS_call (codeS_calls (fd := Calls.docDef (Str.ofString "law") aL.1 bL.1 cL.1 (.str (Str.ofString "law_ln0015_01") 10253) (.ref 4218) .none) (binds := [(sScript, .ref l)]) (by decide +kernel) (KL_get4219 w X) (ob4219_data w) ⟨rfl, rfl, rfl⟩ ⟨4218, _, _, _, rfl, KL_get4218 w X, rfl, rfl⟩ (by kernel_rfl) ?_)
  refine wpAny_newFunctionEnv (by decide +kernel) (locs rfl) (fun h₁ hns hsb => ⟨T.nolimit.fresh _ hsb, ?_⟩) rfl
  show codeS _ _ (.func bL.1 (eL s.heap.objs.size)) _ _
  have F : Fr s.heap s.heap.objs.size h₁ _ := ⟨hns, fun b o e => hsb.extBut b o (Nat.ne_of_lt (Heap.lt_size e)) (Heap.get?_push_of_some _ e), Nat.le_refl _⟩
  refine codeS_func (bodyL w s.heap h₁ s.heap.objs.size l vs ns s _ X Y T hl hi hn (Fr.to F lookup_script) _ _ _ ?_)
  intro h' tk' m' F'
  exact hQ h' tk' F'.keep
end Mine
end

section
open PySem PySem.W PySem.Calls PyProof.Rows
namespace Mine
set_option maxRecDepth 100000
set_option maxHeartbeats 8000000
theorem postT (ns : List Int) : rwR.claim.post [ofPy (PyData.list (List.map PyData.int ns))] (.bool true) [ofPy (PyData.list (List.map PyData.int ns))] = true := by
  w_on
  wrow_post
theorem raisesT (ns : List Int) : ∀ cls, rwR.claim.raises [ofPy (PyData.list (List.map PyData.int ns))] cls = false := by
  intro cls; rfl
theorem KL_law (w : World) : nsIn (KL w.params) mainGlobals (Str.ofString "law") = some (some (.ref 4219)) := by kernel_rfl
noncomputable section
def dLk : DefRec × List (Str × Expr) := (defOf qv rwR.name).getD (⟨Str.empty, aL.1, [], cL.1, ⟨0, 0, 0, 0⟩⟩, [])
theorem h_def : defOf qv rwR.name = some (dLk.1, dLk.2) := by kernel_rfl
theorem h_theDef : rwR.prog.theDef rwR.name = some (dLk.1.params, dLk.1.body, dLk.1.scope) := by kernel_rfl
theorem h_kw : kwWritten? dLk.1.params.kwonlyargs dLk.1.params.kw_defaults = some dLk.2 := by kernel_rfl
theorem h_name : dLk.1.name = Str.ofString "law" := by kernel_rfl
theorem h_ok : (chainsOk qv && opensWell rwR.prog && (frees rwR.toRowW && rwR.within.isEmpty)) = true := by kernel_rfl
theorem h_writes : (!rwR.writes || List.isEmpty rwR.records) = true := by kernel_rfl
end
theorem walkC (w : World) (s₀ s₁ : Shared) (mg mb : Str → Option Value) (G : Ground qv looseN rwR.toRowW.records (XL qv []) w s₀ mg mb s₁.heap) (Y : hk.says w s₁.heap) (args : List WData) (vals : List Value) (as : List Addr)
    (hpre : rwR.toRowW.claim.pre args = true) (hlay : WData.layableAll args = true) (laid : Laid rwR.toRowW.records w s₀ s₁ args vals as) (low : sysModules < s₀.heap.objs.size) :
    wpAny (model rwR.toRowW.prog w) callerA (runG (.ref 4219) vals) (fun v s' => GoodWG rwR.toRowW.claim (classAt s₀.heap) (ExcName.means s₀.heap) args s₁ (.ok (.ret v)) s')
      (fun e s' => GoodWG rwR.toRowW.claim (classAt s₀.heap) (ExcName.means s₀.heap) args s₁ (.error e) s') s₁ := by
  have KX := KL_in _ _ Y
  have hg := laid.gens
  have hrd := laid.reads
  have hwl := laid.well
  have hlo := laid.low low
  clear laid low
  refine Ground.open G ?_
  intro T B D TE TW
  clear B D TE TW
  wrow_args hpre hlay hrd hwl hlo
  refine guarded_any (lawC w s₁ _ _ _ KX Y T (by assumption) (by assumption) (by omega) _ _ ?_) (wpAny_pure ?_)
  · intro h' tk hk
    exact GoodW.toG ⟨.inl ⟨.bool true, .bool true, [], rfl, raisesT _, .bool true, postT _, fun _ => ⟨List.nodup_nil, fun _ h => by cases h⟩⟩, hk, rfl, hg⟩
  · exact GoodW.toG ⟨.inl ⟨.bool true, .bool true, [], rfl, raisesT _, .bool true, postT _, fun _ => ⟨List.nodup_nil, fun _ h => by cases h⟩⟩, fun _ _ e => e, rfl, hg⟩
theorem h_bare : rwR.prog.bare := ⟨rfl, rfl, rfl, rfl, rfl, tables_whole⟩
theorem h_wit : rwR.toRowW.promised := by
  w_on
  w_witness2
theorem law_at {w : World} {s₀ : Shared} {mg mb : Str → Option Value} {h : Heap} (G : Ground qv looseN rwR.toRowW.records (XL qv []) w s₀ mg mb h) (Y : hk.says w h) : mg rwR.name = some (.ref 4219) := by
  refine Ground.open G ?_
  intro T B D TE TW
  exact mg_of (KL_in _ _ Y) T.g (KL_law w)
theorem holdsR (said : rwR.wellSaid = true) : rwR.Holds := by
  refine ⟨said, h_wit, guard_off (tree := callTree rwR.name) (other := fun _ => ret (.bool true)) ?_⟩
  refine open_anyG (r := rwR.toRowW) (run := runG) (tree := fun vs => guarded (callTree rwR.name vs) (ret (.bool true))) (N := 120000) left hk.of hk.keeps (fun s e => xl_of s (Bool.and_eq_true_iff.mp e).1) XL.keeps
    (fun s e => recFacts_of (Bool.and_eq_true_iff.mp e).2) h_writes h_ok h_bare h_wit (fun _ _ _ _ _ _ _ ns hf q => guarded_call ns hf q) (fun w s ns G n hn => ?_)
    fun w s₀ s₁ mg mb G Y args vs as hpre hlay laid low => ⟨_, law_at G Y, walkC w s₀ s₁ mg mb G Y args vs as hpre hlay laid low⟩
  have e : n = rwR.name := by split at hn <;> simp_all
  exact e ▸ pinned_of_view ns G h_def h_theDef h_kw
theorem fin : PySem.Challenge.rw_ln0015_01.Holds := by
  w_on
  exact holds_law h_said holdsR
end Mine
end

set_option maxRecDepth 100000 in
set_option maxHeartbeats 8000000 in
theorem PySem.Challenge.cw_ln0015_01_holds : PySem.Challenge.rw_ln0015_01.Holds :=
  Mine.fin
