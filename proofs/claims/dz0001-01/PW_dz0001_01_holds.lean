import PyProof.Rows.All
import Wide.All
import OpenK.AllK
import Wide.FinOn
import PySem.Challenge.RW_dz0001_01
set_option Elab.async false
set_option maxRecDepth 100000
set_option linter.unusedVariables false

namespace Mine
open PySem PySem.W PyProof.Rows PySem.Calls

/-! accessors: the program's pieces, taken out of the given row -/
def nthS : List Stmt → Nat → Stmt
  | s :: _, 0 => s
  | _ :: r, n + 1 => nthS r n
  | [], _ => .Pass ⟨0, 0, 0, 0⟩
def bodyS : Stmt → List Stmt
  | .FunctionDef (body := b) .. => b
  | .For (body := b) .. => b
  | .If (body := b) .. => b
  | _ => []
def elseS : Stmt → List Stmt
  | .If (orelse := b) .. => b
  | _ => []
def scopeS : Stmt → Scope
  | .FunctionDef (scope := b) .. => b
  | _ => default
def paramsS : Stmt → Arguments
  | .FunctionDef (args := b) .. => b
  | _ => default
def top : List Stmt := PySem.Challenge.pw_dz0001_01.main.body
def defR : Stmt := nthS top 2
def defS : Stmt := nthS top 3
def defO : Stmt := nthS top 5
def defL : Stmt := nthS top 6


abbrev Keep (h h' : Heap) : Prop := ∀ b o, h.get? b = some o → h'.get? b = some o
theorem Keep.trans {a b c : Heap} (x : Keep a b) (y : Keep b c) : Keep a c := fun p o e => y p o (x p o e)
theorem Keep.refl (a : Heap) : Keep a a := fun _ _ e => e
theorem Keep.push (h : Heap) (o : Obj) : Keep h (h.push o) := fun _ _ e => Heap.get?_push_of_some _ e

/-- what a def of the text is, at an address -/
def FnAt (h : Heap) (a : Addr) (st : Stmt) : Prop :=
  ∃ o name qual doc pm an cdv ct, h.get? a = some o ∧ o.data = .func (fnOf name qual (paramsS st) (bodyS st) (scopeS st) .none .none doc pm an cdv ct) ∧ h.CodeRec cdv qual
theorem FnAt.keeps {h h' : Heap} {a : Addr} {st : Stmt} (x : FnAt h a st) (k : Keep h h') : FnAt h' a st := by
  obtain ⟨o, n, q, doc, pm, an, cdv, ct, ho, hd, hc⟩ := x
  exact ⟨o, n, q, doc, pm, an, cdv, ct, k _ _ ho, hd, hc.keeps k⟩

/-- a local of the frame L -/
def Lv (h : Heap) (L : Addr) (x : Str) (v : Value) : Prop := ∃ m, h.Ns L m ∧ m x = some v
def Fm (h : Heap) (L : Addr) : Prop := ∃ m, h.Ns L m
theorem Lv.fm {h : Heap} {L : Addr} {x : Str} {v : Value} (l : Lv h L x v) : Fm h L := let ⟨m, a, _⟩ := l; ⟨m, a⟩
theorem Lv.keeps {h h' : Heap} {L : Addr} {x : Str} {v : Value} (l : Lv h L x v) (k : Keep h h') : Lv h' L x v := let ⟨m, a, b⟩ := l; ⟨m, a.keeps k, b⟩
theorem Lv.but {h h' : Heap} {L a : Addr} {x : Str} {v : Value} (l : Lv h L x v) (k : Heap.ExtBut a h h') (ne : L ≠ a) : Lv h' L x v := let ⟨m, p, b⟩ := l; ⟨m, p.extBut k ne, b⟩
theorem Fm.keeps {h h' : Heap} {L : Addr} (l : Fm h L) (k : Keep h h') : Fm h' L := let ⟨m, a⟩ := l; ⟨m, a.keeps k⟩
theorem Fm.but {h h' : Heap} {L a : Addr} (l : Fm h L) (k : Heap.ExtBut a h h') (ne : L ≠ a) : Fm h' L := let ⟨m, p⟩ := l; ⟨m, p.extBut k ne⟩

section
variable {M : Model} {A : Around} {E : Value → Shared → Prop} {s : Shared} {env : Env} {x : Str} {pos : Pos} {v : Value}
theorem e_local {Q : Value → Shared → Prop} (l : Lv s.heap env.locals x v) (h : Q v s) (hk : env.scope.kind = .function := by rfl) (hx : env.kindOf x = some .local := by rfl)
    (hd : (x == ("__debug__" : Str)) = false := by decide) : wpAny M A (eval (.Name x pos) env) Q E s :=
  let ⟨_, hn, hv⟩ := l; wpAny_Name (wpAny_loadName_local hk hx hn hv h) hd
theorem s_local {Q : Unit → Shared → Prop} (l : Fm s.heap env.locals)
    (h : ∀ h', Lv h' env.locals x v → (∀ y u, y ≠ x → Lv s.heap env.locals y u → Lv h' env.locals y u) → Heap.SameBut env.locals s.heap h' → Q () { s with heap := h', toks := s.toks + 1 })
    (hx : env.kindOf x = some .local := by rfl) (hp : (env.scope.kind == .class || (env.scope.kind == .module && env.locals != env.globals)) = false := by rfl) :
    wpAny M A (storeName env x v) Q E s := by
  obtain ⟨m, hn⟩ := l
  refine wpAny_storeName_local hx hn (fun h' hn' hs' => h h' ⟨_, hn', by simp⟩ (fun y u hy l => ?_) hs') hp
  obtain ⟨m', hm', hu⟩ := l
  obtain ⟨o, es, ep, ho, hd, hk, hf⟩ := hn
  obtain ⟨o₂, es₂, ep₂, ho₂, hd₂, hk₂, hf₂⟩ := hm'
  rw [ho] at ho₂; cases ho₂
  rw [hd] at hd₂; cases hd₂
  refine ⟨_, hn', ?_⟩
  show (if y = x then some v else m y) = some u
  rw [if_neg hy, ← hf y, hf₂ y, hu]
theorem e_cell {Q : Value → Shared → Prop} {c : Addr} (hc : env.cells.lookup x = some c) (hv : s.heap.IsCell c (some v)) (h : Q v s) (hk : env.scope.kind = .function := by rfl) (hx : env.kindOf x = some .cell := by rfl)
    (hd : (x == ("__debug__" : Str)) = false := by decide) : wpAny M A (eval (.Name x pos) env) Q E s :=
  wpAny_Name (wpAny_loadName_cell hk hx hc hv h) hd
theorem e_global {Q : Value → Shared → Prop} {mg : Str → Option Value} (hn : s.heap.Ns env.globals mg) (hv : mg x = some v) (h : Q v s)
    (hk : env.scope.kind = .function := by rfl) (hx : env.kindOf x = some .globalImplicit := by rfl) (hd : (x == ("__debug__" : Str)) = false := by decide) :
    wpAny M A (eval (.Name x pos) env) Q E s := Name_function_global hk hx (loadGlobal_global hn hv h) hd
theorem e_builtin {Q : Value → Shared → Prop} {mg mb : Str → Option Value} (hn : s.heap.Ns env.globals mg) (h0 : mg x = none) (hb : s.heap.Ns env.builtins mb) (hv : mb x = some v) (h : Q v s)
    (hk : env.scope.kind = .function := by rfl) (hx : env.kindOf x = some .globalImplicit := by rfl) (hd : (x == ("__debug__" : Str)) = false := by decide) :
    wpAny M A (eval (.Name x pos) env) Q E s := Name_function_global hk hx (loadGlobal_builtin hn h0 hb hv h) hd
end
end Mine

namespace Mine
open PySem PySem.W PyProof.Rows PySem.Calls

def T3 (h : Heap) (v : Value) (p : Str × Str × Str) : Prop := ∃ T t1 t2 t3, v = .ref T ∧ h.IsTuple T #[.str p.1 t1, .str p.2.1 t2, .str p.2.2 t3]
theorem T3.keeps {h h' : Heap} {v p} (x : T3 h v p) (k : Keep h h') : T3 h' v p := let ⟨T, a, b, c, e, i⟩ := x; ⟨T, a, b, c, e, i.at fun o e => k _ _ e⟩

def origOf : List (Str × Str × Str) → Str → List Str
  | [], _ => []
  | p :: r, n => if p.1 = n ∧ p.2.1 ≠ p.2.2 then [p.2.1] else origOf r n

def StrsL (h : Heap) (a : Addr) (xs : List Str) : Prop := ∃ vs : List Value, h.IsList a vs.toArray ∧ StrsAre vs xs
def SavL (h : Heap) (a : Addr) (xs : List (Str × Str × Str)) : Prop := ∃ vs : List Value, h.IsList a vs.toArray ∧ Paired (T3 h) vs xs

theorem paired_get {α β : Type} {F : α → β → Prop} : ∀ {l₁ : List α} {l₂ : List β}, Paired F l₁ l₂ → ∀ (i : Nat) b, l₂[i]? = some b → ∃ a, l₁[i]? = some a ∧ F a b
  | _, _, .nil, i, b, h => by simp at h
  | _, _, .cons h t, 0, b, e => by simp at e; subst e; exact ⟨_, rfl, h⟩
  | _, _, .cons h t, i + 1, b, e => by simpa using paired_get t i b (by simpa using e)

theorem sameBut_keep {h g h' : Heap} {a : Addr} (k : Keep h g) (hn : h.get? a = none) (hs : Heap.ExtBut a g h') : Keep h h' := fun b o e =>
  hs b o (fun q => by rw [q, hn] at e; cases e) (k b o e)
theorem none_at_size {h : Heap} {a : Addr} (ha : h.objs.size ≤ a) : h.get? a = none := by
  cases e : h.get? a with
  | none => rfl
  | some o => exact absurd (Heap.lt_size e) (Nat.not_lt.mpr ha)

section
variable {prog : Program} {w : World} {A : Around} {E : Value → Shared → Prop} {s : Shared}

abbrev cenv (st : Stmt) (n q : Str) (doc pm : Value) (an : Option Addr) (cdv ct : Value) (L fa : Addr) : Env :=
  callEnv (fnOf n q (paramsS st) (bodyS st) (scopeS st) .none .none doc pm an cdv ct) L fa

theorem call_fn {fa : Addr} {st : Stmt} {args : List Value} {binds : List (Str × Value)} {Q : Value → Shared → Prop} (hroom : A.depth < recursionLimit) (hlim : s.heap.NoLimit) (hf : FnAt s.heap fa st)
    (hbind : ∀ n q doc pm an cdv ct, bindArgs (fnOf n q (paramsS st) (bodyS st) (scopeS st) .none .none doc pm an cdv ct) ⟨args, []⟩ = pure binds)
    (hcell : ∀ x ∈ (scopeS st).names, x.2 ≠ .cell) (hloc : ∀ x ∈ binds, (scopeS st).names.lookup x.1 = some .local)
    (h : ∀ n q doc pm an cdv ct h₁, (h₁.Ns s.heap.objs.size fun x => binds.reverse.lookup x) → Keep s.heap h₁ →
      wpAny (model prog w) (A.deeper (cenv st n q doc pm an cdv ct s.heap.objs.size fa)) (execs (bodyS st) (cenv st n q doc pm an cdv ct s.heap.objs.size fa))
        (fun f s' => Q (match f with | .ret v => v | _ => .none) s') (fun _ _ => False) { s with heap := h₁, toks := s.toks + binds.length })
    (hco : (scopeS st).isCoroutine = false := by rfl) (hgen : (scopeS st).isGenerator = false := by rfl) (hk : (scopeS st).kind = .function := by rfl) :
    wpAny (model prog w) A (call (.ref fa) args) Q E s := by
  obtain ⟨o, n, q, doc, pm, an, cdv, ct, ho, hd, hc⟩ := hf
  refine wpAny_call (codeAny_call_def hroom ho hd hlim hc rfl (BindsTo.of_eq (hbind _ _ _ _ _ _ _)) hcell hloc (fun h₁ hns hk₁ => ?_) hco hgen hk)
  exact wpAny_mono (h n q doc pm an cdv ct h₁ hns hk₁) (fun _ _ x => x) (fun _ _ x => x.elim)

theorem ne_strD {x y : Str} {t u : Tok} {Q : Value → Shared → Prop} (h : Q (.bool (decide (x ≠ y))) s) : wpAny (model prog w) A (compareOp .NotEq (.str x t) (.str y u)) Q E s := by
  refine PyProof.Rows.ne_str ?_
  have e : (x != y) = decide (x ≠ y) := by
    by_cases hxy : x = y
    · subst hxy; simp
    · simp [bne, hxy]
  rw [e]; exact h
theorem eq_strD {x y : Str} {t u : Tok} {Q : Value → Shared → Prop} (h : Q (.bool (decide (x = y))) s) : wpAny (model prog w) A (compareOp .Eq (.str x t) (.str y u)) Q E s := by
  refine PyProof.Rows.eq_str ?_
  have e : (x == y) = decide (x = y) := by
    by_cases hxy : x = y
    · subst hxy; simp
    · simp [hxy]
  rw [e]; exact h

theorem spec_orig {fO aS : Addr} {nm : Str} {t : Tok} {saved : List (Str × Str × Str)} {Q : Value → Shared → Prop}
    (hroom : A.depth < recursionLimit) (hh : A.handled = none) (hlim : s.heap.NoLimit) (hf : FnAt s.heap fO defO) (hS : SavL s.heap aS saved)
    (h : ∀ D h' tk, Keep s.heap h' → s.heap.get? D = none → StrsL h' D (origOf saved nm) → Q (.ref D) { s with heap := h', toks := tk }) :
    wpAny (model prog w) A (call (.ref fO) [.ref aS, .str nm t]) Q E s := by
  obtain ⟨vs, hl, hp⟩ := hS
  refine call_fn (binds := [(Str.ofString "saved", .ref aS), (Str.ofString "name", .str nm t)]) hroom hlim hf (fun _ _ _ _ _ _ _ => rfl) (by decide) (locs rfl) fun n q doc pm an cdv ct h₁ hns hk₁ => ?_
  generalize hL : s.heap.objs.size = L at hns ⊢
  generalize hA' : A.deeper _ = A'
  have hh' : A'.handled = none := by rw [← hA']; exact hh
  have hlen := hp.length
  have hl₁ := hl.at fun o e => hk₁ _ o e
  have hLlt : L < h₁.objs.size := hns.lt
  have hLn : ∀ a, L ≤ a → s.heap.get? a = none := fun a ha => none_at_size (by omega)
  refine wpAny_execs_cons (wpAny_For (e_local ⟨_, hns, rfl⟩ (wpAny_pyIter_list hl₁ ?_)))
  generalize hI : h₁.objs.size = I
  have hLI : L ≠ I := by omega
  refine codeAny_forLoop_any
    (fun k s' => ∃ h' tk i, s' = { s with heap := h', toks := tk } ∧ Keep s.heap h' ∧ h'.IsListIter I aS i ∧ Fm h' L ∧ Lv h' L (Str.ofString "name") (.str nm t) ∧ i ≤ saved.length ∧ k = saved.length + 1 - i ∧
      origOf saved nm = origOf (saved.drop i) nm) ?_ (saved.length + 1)
    ⟨_, _, 0, rfl, (Keep.trans hk₁ (Keep.push _ _)), ⟨_, hI ▸ Heap.get?_push_size _ rfl, rfl, rfl⟩, ⟨_, hns.push _⟩, ⟨_, hns.push _, rfl⟩, Nat.zero_le _, rfl, rfl⟩
  rintro k s' ⟨h', tk, i, rfl, hk, hit, hfm, hnm, hi, rfl, ho⟩
  have hl' := hl.at fun o e => hk _ o e
  by_cases hlt : i < saved.length
  · obtain ⟨v, hv, T, t1, t2, t3, rfl, hT⟩ := paired_get hp i saved[i] (by simp [hlt])
    have hT' := hT.at fun o e => hk _ o e
    refine wpAny_pyNext_list_item hit hl' (x := .ref T) (by simpa using hv) fun h₂ hit₂ hs₂ => ?_
    have hI' : s.heap.get? I = none := hLn _ (by omega)
    have hk₂ := sameBut_keep hk hI' hs₂.extBut
    refine wpAny_letOwnedTupleGo_listiter hit₂ ?_
    refine PySem.wpAny_assign_Tuple hh' (hT.at fun o e => hk₂ _ o e) rfl rfl fun h₃ he₃ => ?_
    have hk₃ : Keep h₂ h₃ := fun b o e => he₃ b o (Nat.ne_of_lt (Heap.lt_size e)) e
    have fm₃ : Fm h₃ L := (hfm.but hs₂.extBut hLI).keeps hk₃
    have nm₃ : Lv h₃ L (Str.ofString "name") (.str nm t) := (hnm.but hs₂.extBut hLI).keeps hk₃
    have it₃ : h₃.IsListIter I aS (i + 1) := hit₂.at fun o e => hk₃ _ o e
    have k₃ := Keep.trans hk₂ hk₃
    clear hit hfm hnm hl' hT' hk hs₂ hit₂ hk₂ he₃ hk₃ hns hl₁
    refine assignInOrder_cons (wpAny_assign_Name (s_local fm₃ fun h₄ l₄ u₄ s₄ => ?_))
    refine assignInOrder_cons (wpAny_assign_Name (s_local l₄.fm fun h₅ l₅ u₅ s₅ => ?_))
    refine assignInOrder_cons (wpAny_assign_Name (s_local l₅.fm fun h₆ l₆ u₆ s₆ => ?_))
    refine assignInOrder_nil ?_
    have one := u₆ _ _ (by decide) (u₅ _ _ (by decide) l₄)
    have old := u₆ _ _ (by decide) l₅
    have nm₆ := u₆ _ _ (by decide) (u₅ _ _ (by decide) (u₄ _ _ (by decide) nm₃))
    have k₆ := sameBut_keep (sameBut_keep (sameBut_keep k₃ (hLn L (Nat.le_refl _)) s₄.extBut) (hLn L (Nat.le_refl _)) s₅.extBut) (hLn L (Nat.le_refl _)) s₆.extBut
    have it₆ : h₆.IsListIter I aS (i + 1) := ((it₃.at fun o e => s₄.extBut _ o (Ne.symm hLI) e).at fun o e => s₅.extBut _ o (Ne.symm hLI) e).at fun o e => s₆.extBut _ o (Ne.symm hLI) e
    clear u₄ u₅ u₆ s₄ s₅ s₆ it₃ k₃ nm₃ fm₃ l₄ l₅
    refine wpAny_execs_cons (wpAny_If (isTrue_and (wpAny_isTrue_Compare1 (e_local one (e_local nm₆ (eq_strD (wpAny_truthy_bool ?_)))))))
    have hdrop : saved.drop i = saved[i] :: saved.drop (i + 1) := by rw [List.drop_eq_getElem_cons hlt]
    have next : ∀ tk', ¬ (saved[i].1 = nm ∧ saved[i].2.1 ≠ saved[i].2.2) → ∃ m, m < saved.length + 1 - i ∧ ∃ h' tk i, ({ s with heap := h₆, toks := tk' } : Shared) = { s with heap := h', toks := tk } ∧ Keep s.heap h' ∧ h'.IsListIter I aS i ∧ Fm h' L ∧
        Lv h' L (Str.ofString "name") (.str nm t) ∧ i ≤ saved.length ∧ m = saved.length + 1 - i ∧ origOf saved nm = origOf (saved.drop i) nm := fun tk' hc =>
      ⟨saved.length + 1 - (i + 1), by omega, h₆, tk', i + 1, rfl, k₆, it₆, l₆.fm, nm₆, hlt, rfl, by rw [ho, hdrop, origOf, if_neg hc]⟩
    by_cases h1 : saved[i].1 = nm
    · rw [if_pos (by simpa using h1)]
      refine isTrue_and (wpAny_isTrue_Compare1 (e_local old (e_local l₆ (ne_strD (wpAny_truthy_bool ?_)))))
      by_cases h2 : saved[i].2.1 = saved[i].2.2
      · rw [if_neg (by simp [h2]), if_neg (by decide)]
        exact wpAny_execs_nil (wpAny_execs_nil (next _ fun c => c.2 h2))
      · rw [if_pos (by simpa using h2)]
        refine isTrue_and_nil ?_
        rw [if_pos rfl]
        refine wpAny_execs_cons (wpAny_Return_some (List_ (spliced_more (e_local old (spliced_none (wpAny_newObj_type ?_))))))
        refine h _ _ _ (Keep.trans k₆ (Keep.push _ _)) (none_at_size (Nat.le_of_lt (by rw [hL]; exact l₆.fm.choose_spec.lt))) ?_
        rw [ho, hdrop, origOf, if_pos ⟨h1, h2⟩]
        exact ⟨[.str saved[i].2.1 t2], ⟨_, Heap.get?_push_size _ rfl, rfl, _, rfl⟩, .cons _ _ .nil⟩
    · rw [if_neg (by simpa using h1), if_neg (by decide)]
      exact wpAny_execs_nil (wpAny_execs_nil (next _ fun c => h1 c.1))
  · have hin : i = saved.length := by omega
    refine wpAny_pyNext_list_end hh' hit hl' (by simp [hin, hlen]) fun h₂ he₂ => wpAny_execs_nil ?_
    have hk₂ := sameBut_keep hk (hLn I (by omega)) he₂
    refine wpAny_execs_cons (wpAny_Return_some (List_ (spliced_none (wpAny_newObj_type ?_))))
    refine h _ _ _ (Keep.trans hk₂ (Keep.push _ _)) (none_at_size (Nat.le_of_lt (by rw [hL]; exact (hfm.but he₂ hLI).choose_spec.lt))) ?_
    rw [ho, hin, List.drop_length]
    exact ⟨[], ⟨_, Heap.get?_push_size _ rfl, rfl, _, rfl⟩, .nil⟩
end
end Mine

namespace Mine
open PySem PySem.W PyProof.Rows PySem.Calls

def PRE : Str := Str.ofString "_OSX_SUPPORT_INITIAL_"
abbrev Tbl := List (Str × Str)
def look (d : Tbl) (k : Str) : Option Str := (d.find? fun p => decide (p.1 = k)).map (·.2)
def put (d : Tbl) (k v : Str) : Tbl := if d.any (fun p => decide (p.1 = k)) then d.map (fun p => if p.1 = k then (p.1, v) else p) else d ++ [(k, v)]
def saveD (d : Tbl) (nm new : Str) : Tbl :=
  put (if (look d nm).getD (Str.ofString "") ≠ new ∧ look d (PRE ++ nm) = none then put d (PRE ++ nm) ((look d nm).getD (Str.ofString "")) else d) nm new

def SV (kv : Str × Value) (p : Str × Str) : Prop := kv.1 = p.1 ∧ ∃ t, kv.2 = .str p.2 t
def SD (prog : Program) (w : World) (h : Heap) (a : Addr) (d : Tbl) : Prop := ∃ kvs, h.DictOf (PySem.strKind prog w) a kvs ∧ Paired SV kvs d

theorem put_length (d : Tbl) (k v : Str) : (put d k v).length ≤ d.length + 1 := by
  unfold put; split <;> simp

section
variable {prog : Program} {w : World}
theorem SD.keeps {h h' : Heap} {a d} (x : SD prog w h a d) (k : Keep h h') : SD prog w h' a d := let ⟨kvs, i, p⟩ := x; ⟨kvs, i.keep k, p⟩
theorem SD.but {h h' : Heap} {a b d} (x : SD prog w h a d) (k : Heap.ExtBut b h h') (ne : a ≠ b) : SD prog w h' a d := let ⟨kvs, i, p⟩ := x; ⟨kvs, i.extBut k ne, p⟩
theorem sv_look {k : Str} : ∀ {kvs : List (Str × Value)} {d : Tbl}, Paired SV kvs d → (valueAt kvs k = none ∧ look d k = none) ∨ ∃ y t, valueAt kvs k = some (.str y t) ∧ look d k = some y
  | _, _, .nil => .inl ⟨rfl, rfl⟩
  | (k₁, v₁) :: kvs, (k₂, y) :: d, .cons ⟨h1, t, h2⟩ r => by
    dsimp only at h1 h2
    subst h1; subst h2
    by_cases hk : k₁ = k
    · exact .inr ⟨y, t, by simp [valueAt, hk], by simp [look, hk]⟩
    · have := sv_look (k := k) r
      simp only [valueAt, look, List.find?_cons, hk, decide_false] at this ⊢
      exact this
theorem sv_any {k : Str} : ∀ {kvs : List (Str × Value)} {d : Tbl}, Paired SV kvs d → (kvs.any fun kv => decide (kv.1 = k)) = d.any fun p => decide (p.1 = k)
  | _, _, .nil => rfl
  | (k₁, v₁) :: kvs, (k₂, y) :: d, .cons ⟨h1, t, h2⟩ r => by
    dsimp only at h1
    subst h1
    simp only [List.any_cons, sv_any r]
theorem sv_map {k v : Str} {t : Tok} : ∀ {kvs : List (Str × Value)} {d : Tbl}, Paired SV kvs d →
    Paired SV (kvs.map fun kv => if kv.1 = k then (kv.1, .str v t) else kv) (d.map fun p => if p.1 = k then (p.1, v) else p)
  | _, _, .nil => .nil
  | (k₁, v₁) :: kvs, (k₂, y) :: d, .cons ⟨h1, t', h2⟩ r => by
    dsimp only at h1 h2
    subst h1; subst h2
    refine .cons ?_ (sv_map r)
    dsimp only
    split
    · exact ⟨rfl, t, rfl⟩
    · exact ⟨rfl, t', rfl⟩
theorem sv_stored {k v : Str} {t : Tok} {kvs : List (Str × Value)} {d : Tbl} (h : Paired SV kvs d) : Paired SV (stored kvs k (.str v t)) (put d k v) := by
  unfold stored put
  rw [sv_any h]
  split
  · exact sv_map h
  · exact h.snoc ⟨rfl, t, rfl⟩
end

structure Gl (h : Heap) (mg mb : Str → Option Value) (fR fS fO : Addr) : Prop where
  g : h.Ns mainGlobals mg
  b : h.Ns builtinsNs mb
  lim : h.NoLimit
  pre : ∃ t, mg (Str.ofString "_INITPRE") = some (.str PRE t)
  nR : mg (Str.ofString "_remove_original_values") = some (.ref fR)
  nS : mg (Str.ofString "_save_modified_value") = some (.ref fS)
  nO : mg (Str.ofString "_law_original") = some (.ref fO)
  aR : FnAt h fR defR
  aS : FnAt h fS defS
  aO : FnAt h fO defO
  list0 : mg (Str.ofString "list") = none
  list : mb (Str.ofString "list") = some (.type "list")
  len0 : mg (Str.ofString "len") = none
  len : mb (Str.ofString "len") = some (.builtin "len")
theorem Gl.keeps {h h' : Heap} {mg mb fR fS fO} (x : Gl h mg mb fR fS fO) (k : Keep h h') : Gl h' mg mb fR fS fO :=
  ⟨x.g.keeps k, x.b.keeps k, x.lim.keeps k, x.pre, x.nR, x.nS, x.nO, x.aR.keeps k, x.aS.keeps k, x.aO.keeps k, x.list0, x.list, x.len0, x.len⟩

section
variable {prog : Program} {w : World} {A : Around} {E : Value → Shared → Prop} {s : Shared} {g : Heap} {mg mb : Str → Option Value} {fR fS fO aT : Addr} {d : Tbl}

theorem m_getM {pl : Sem Bool} {Q : Value × List Value → Shared → Prop} (hT : SD prog w s.heap aT d) (h : Q (.builtin "dict.get", [.ref aT]) s) :
    wpAny (model prog w) A (getMethod (.ref aT) (Str.ofString "get") pl) Q E s := by
  obtain ⟨kvs, hD, hp⟩ := hT
  exact getMethod_builtin hD.typeIs PySem.F.plainAttrs_dict PySem.F.slot_dict_get PySem.F.type_dict_get hD.mapOf.noDict h
theorem m_get {k nm : Str} {t u : Tok} {Q : Value → Shared → Prop} (hlo : (aT == sysModules) = false) (hT : SD prog w s.heap aT d)
    (h : ∀ u tk, Q (.str ((look d nm).getD k) u) { s with toks := tk }) :
    wpAny (model prog w) A (call (.builtin "dict.get") ([.ref aT] ++ [.str nm t, .str k u])) Q E s := by
  obtain ⟨kvs, hD, hp⟩ := hT
  refine call_meetsIn (T := "dict") PySem.F.slot_dict_get hD.typeIs PySem.F.entry_dict_get (PySem.F.args_dict_get_3 _ _ _) (meets_dict_get_default (PySem.strKind prog w) aT (strKind_is _ _ _ _) hlo _) ⟨_, hD.mapOf, ?_⟩
  rcases sv_look (k := nm) hp with ⟨e1, e2⟩ | ⟨y, u, e1, e2⟩
  · rw [e1]; rw [e2] at h; exact h _ _
  · rw [e1]; rw [e2] at h; exact h _ _

theorem m_set {k v : Str} {t u : Tok} {Q : Unit → Shared → Prop} (hT : SD prog w s.heap aT d) (hlen : d.length ≤ 1000)
    (h : ∀ h' tk, SD prog w h' aT (put d k v) → Heap.SameBut aT s.heap h' → Q () { s with heap := h', toks := tk }) : wpAny (model prog w) A (setItem (.ref aT) (.str k t) (.str v u)) Q E s := by
  obtain ⟨kvs, hD, hp⟩ := hT
  have e := hp.length
  exact wpAny_setItem_pairs (knd := PySem.strKind prog w) (strKind_is _ _ _ _) hD (fun h' hd hs => h h' _ ⟨_, hd, sv_stored hp⟩ hs) (by rw [sizeLine_eq]; omega)

theorem m_notin {k : Str} {t : Tok} {Q : Value → Shared → Prop} (hlo : (aT == sysModules) = false) (hT : SD prog w s.heap aT d)
    (h : ∀ tk, Q (.bool (decide (look d k = none))) { s with toks := tk }) : wpAny (model prog w) A (compareOp .NotIn (.str k t) (.ref aT)) Q E s := by
  obtain ⟨kvs, hD, hp⟩ := hT
  refine wpAny_notIn_of (knd := PySem.strKind prog w) (strKind_is _ _ _ _) hlo hD.mapOf ?_
  rcases sv_look (k := k) hp with ⟨e1, e2⟩ | ⟨y, u, e1, e2⟩
  · rw [e1]; rw [e2] at h; exact h _
  · rw [e1]; rw [e2] at h; exact h _

theorem m_add {x y : Str} {t u : Tok} {Q : Value → Shared → Prop} (hx : x.length ≤ 1000) (hy : y.length ≤ 1000) (h : ∀ t' tk, Q (.str (x ++ y) t') { s with toks := tk }) :
    wpAny (model prog w) A (binaryOp .Add (.str x t) (.str y u)) Q E s := add_str h (by rw [sizeLine_eq]; omega)

theorem PRE_len : PRE.length = 21 := by decide +kernel

theorem spec_save {nm new : Str} {t u : Tok} {Q : Value → Shared → Prop} (hroom : A.depth < recursionLimit) (G : Gl g mg mb fR fS fO) (hg : Keep g s.heap) (hn : g.get? aT = none)
    (hT : SD prog w s.heap aT d) (hlo : (aT == sysModules) = false) (hlen : nm.length ≤ 100) (hdl : d.length ≤ 900)
    (h : ∀ h' tk, Heap.ExtBut aT s.heap h' → SD prog w h' aT (saveD d nm new) → Q .none { s with heap := h', toks := tk }) :
    wpAny (model prog w) A (call (.ref fS) [.ref aT, .str nm t, .str new u]) Q E s := by
  have Gs := G.keeps hg
  refine call_fn (binds := [(Str.ofString "_config_vars", .ref aT), (Str.ofString "cv", .str nm t), (Str.ofString "newvalue", .str new u)]) hroom Gs.lim Gs.aS (fun _ _ _ _ _ _ _ => rfl) (by decide) (locs rfl) fun n q doc pm an cdv ct h₁ hns hk₁ => ?_
  generalize hL : s.heap.objs.size = L at hns ⊢
  generalize hA' : A.deeper _ = A'
  have hLn : s.heap.get? L = none := none_at_size (by omega)
  have hTL : aT ≠ L := fun e => by obtain ⟨kvs, ⟨o, es, ep, ho, _⟩, _⟩ := hT; rw [e, hLn] at ho; cases ho
  have hT₁ := hT.keeps hk₁
  have cfg : Lv h₁ L (Str.ofString "_config_vars") (.ref aT) := ⟨_, hns, rfl⟩
  have cv : Lv h₁ L (Str.ofString "cv") (.str nm t) := ⟨_, hns, rfl⟩
  have nv : Lv h₁ L (Str.ofString "newvalue") (.str new u) := ⟨_, hns, rfl⟩
  refine wpAny_execs_cons (wpAny_Assign_Name (MethodCall_ (e_local cfg (m_getM hT₁ (callWith_method1 (spliced_more (e_local cv (spliced_more (wpAny_Constant_str (spliced_none (m_get hlo hT₁ fun u₀ tk₀ => ?_)))))))))))
  refine s_local cfg.fm fun h₂ l₂ u₂ s₂ => ?_
  have cfg₂ := u₂ _ _ (by decide) cfg
  have cv₂ := u₂ _ _ (by decide) cv
  have nv₂ := u₂ _ _ (by decide) nv
  have hT₂ := hT₁.but s₂.extBut hTL
  have k₂ : Keep s.heap h₂ := sameBut_keep hk₁ hLn s₂.extBut
  have G₂ : Gl h₂ mg mb fR fS fO := G.keeps (Keep.trans hg k₂)
  clear u₂ s₂ cfg cv nv hT₁ hk₁ hns
  have fin : ∀ d₁ h₃ tk₃, SD prog w h₃ aT d₁ → d₁.length ≤ 1000 → Heap.ExtBut aT s.heap h₃ → Lv h₃ L (Str.ofString "_config_vars") (.ref aT) → Lv h₃ L (Str.ofString "cv") (.str nm t) → Lv h₃ L (Str.ofString "newvalue") (.str new u) →
      put d₁ nm new = saveD d nm new →
      wpAny (model prog w) A' (execs ((bodyS defS).drop 2) (cenv defS n q doc pm an cdv ct L fS)) (fun f s' => Q (match f with | .ret v => v | _ => .none) s') (fun _ _ => False) { s with heap := h₃, toks := tk₃ } := by
    intro d₁ h₃ tk₃ hT₃ hd₁ e₃ c₃ v₃ n₃ eq
    refine wpAny_execs_cons (wpAny_Assign_Subscript (e_local n₃ (e_local c₃ (e_local v₃ (m_set hT₃ hd₁ fun h₄ tk₄ hT₄ s₄ => wpAny_execs_nil (h _ _ (fun b o hb e => s₄.extBut b o hb (e₃ b o hb e)) (eq ▸ hT₄)))))))
  obtain ⟨tp, hpre⟩ := G.pre
  refine wpAny_execs_cons (wpAny_If (isTrue_and (wpAny_isTrue_Compare1 (e_local l₂ (e_local nv₂ (ne_strD (wpAny_truthy_bool ?_)))))))
  by_cases h1 : (look d nm).getD (Str.ofString "") = new
  · rw [if_neg (by simp [h1]), if_neg (by decide)]
    refine wpAny_execs_nil (fin d h₂ _ hT₂ (by omega) (fun b o _ e => k₂ b o e) cfg₂ cv₂ nv₂ ?_)
    unfold saveD; rw [if_neg fun c => c.1 h1]
  · rw [if_pos (by simpa using h1)]
    refine isTrue_and (wpAny_isTrue_Compare1 (wpAny_BinOp (e_global G₂.g hpre (e_local cv₂ (m_add (by rw [PRE_len]; omega) (by omega) fun t₃ tk₃ => e_local cfg₂ (m_notin hlo hT₂ fun tk₄ => wpAny_truthy_bool ?_))))))
    by_cases h2 : look d (PRE ++ nm) = none
    · rw [if_pos (by simpa using h2)]
      refine isTrue_and_nil ?_
      rw [if_pos rfl]
      refine wpAny_execs_cons (wpAny_Assign_Subscript (e_local l₂ (e_local cfg₂ (wpAny_BinOp (e_global G₂.g hpre (e_local cv₂ (m_add (by rw [PRE_len]; omega) (by omega) fun t₅ tk₅ => m_set hT₂ (by omega) fun h₆ tk₆ hT₆ s₆ => wpAny_execs_nil ?_)))))))
      refine fin _ h₆ _ hT₆ (Nat.le_trans (put_length _ _ _) (by omega)) (fun b o hb e => s₆.extBut b o hb (k₂ b o e)) (cfg₂.but s₆.extBut (Ne.symm hTL)) (cv₂.but s₆.extBut (Ne.symm hTL)) (nv₂.but s₆.extBut (Ne.symm hTL)) ?_
      unfold saveD; rw [if_pos ⟨h1, h2⟩]
    · rw [if_neg (by simpa using h2), if_neg (by decide)]
      refine wpAny_execs_nil (fin d h₂ _ hT₂ (by omega) (fun b o _ e => k₂ b o e) cfg₂ cv₂ nv₂ ?_)
      unfold saveD; rw [if_neg fun c => h2 c.2]
end
end Mine

namespace Mine
open PySem PySem.W PyProof.Rows PySem.Calls

def np (k : Str) : Bool := !(Txt.startswith k PRE)

theorem isStrOf_shape {k : Str} {v : Value} {prog : Program} {w : World} (h : (PySem.strKind prog w).is k v = true) : ∃ t, v = .str k t := Value.isStrOf_shape h

theorem sv_filter {f : Str → Bool} : ∀ {kvs : List (Str × Value)} {d : Tbl}, Paired SV kvs d → Paired SV (kvs.filter fun p => f p.1) (d.filter fun p => f p.1)
  | _, _, .nil => .nil
  | (k₁, v₁) :: kvs, (k₂, y) :: d, .cons ⟨h1, t, h2⟩ r => by
    dsimp only at h1 h2
    subst h1
    simp only [List.filter_cons]
    split
    · exact .cons ⟨rfl, t, h2⟩ (sv_filter r)
    · exact sv_filter r

theorem nodup_drop {α β : Type} (f : α → β) (l : List α) (i : Nat) (hi : i < l.length) (hn : (l.map f).Nodup) :
    (∀ x ∈ l.take i, f x ≠ f l[i]) ∧ (∀ x ∈ l.drop (i + 1), f x ≠ f l[i]) := by
  have e : l = l.take i ++ l[i] :: l.drop (i + 1) := by rw [← List.drop_eq_getElem_cons hi, List.take_append_drop]
  rw [e, List.map_append, List.map_cons, List.nodup_append] at hn
  obtain ⟨_, h2, h3⟩ := hn
  rw [List.nodup_cons] at h2
  exact ⟨fun x hx q => h3 (f x) (List.mem_map_of_mem hx) (f l[i]) List.mem_cons_self q, fun x hx q => h2.1 (q ▸ List.mem_map_of_mem hx)⟩

theorem without_step {kvs : List (Str × Value)} {i : Nat} (hi : i < kvs.length) (hn : (kvs.map (·.1)).Nodup) (hp : np kvs[i].1 = false) :
    without ((kvs.take i).filter (fun p => np p.1) ++ kvs.drop i) kvs[i].1 = (kvs.take (i + 1)).filter (fun p => np p.1) ++ kvs.drop (i + 1) := by
  obtain ⟨h1, h2⟩ := nodup_drop (·.1) kvs i hi hn
  unfold without
  rw [List.filter_append, List.drop_eq_getElem_cons hi, List.filter_cons, List.take_succ_eq_append_getElem hi, List.filter_append]
  have e1 : ((kvs.take i).filter (fun p => np p.1)).filter (fun kv => decide (kv.1 ≠ kvs[i].1)) = (kvs.take i).filter (fun p => np p.1) := by
    refine List.filter_eq_self.mpr fun x hx => ?_
    exact decide_eq_true (h1 x (List.mem_filter.mp hx).1)
  have e2 : (kvs.drop (i + 1)).filter (fun kv => decide (kv.1 ≠ kvs[i].1)) = kvs.drop (i + 1) :=
    List.filter_eq_self.mpr fun x hx => decide_eq_true (h2 x hx)
  rw [e1, e2]
  simp [hp]
theorem keep_step {kvs : List (Str × Value)} {i : Nat} (hi : i < kvs.length) (hp : np kvs[i].1 = true) :
    (kvs.take i).filter (fun p => np p.1) ++ kvs.drop i = (kvs.take (i + 1)).filter (fun p => np p.1) ++ kvs.drop (i + 1) := by
  rw [List.drop_eq_getElem_cons hi, List.take_succ_eq_append_getElem hi, List.filter_append]
  simp [hp]
theorem there_step {kvs : List (Str × Value)} {i : Nat} (hi : i < kvs.length) : (valueAt ((kvs.take i).filter (fun p => np p.1) ++ kvs.drop i) kvs[i].1).isSome = true := by
  unfold valueAt
  rw [Option.isSome_map, List.find?_isSome]
  exact ⟨kvs[i], List.mem_append_right _ (by rw [List.drop_eq_getElem_cons hi]; exact List.mem_cons_self), by simp⟩

section
variable {prog : Program} {w : World} {A : Around} {E : Value → Shared → Prop} {s : Shared} {g : Heap} {mg mb : Str → Option Value} {fR fS fO aT : Addr} {d : Tbl}

theorem m_del {kvs : List (Str × Value)} {k : Str} {t : Tok} {Q : Unit → Shared → Prop} (hD : s.heap.DictOf (PySem.strKind prog w) aT kvs) (hlen : kvs.length ≤ 1000) (hs : (valueAt kvs k).isSome = true)
    (h : ∀ h' tk, h'.DictOf (PySem.strKind prog w) aT (without kvs k) → Heap.SameBut aT s.heap h' → Q () { s with heap := h', toks := tk }) :
    wpAny (model prog w) A (delItem (.ref aT) (.str k t)) Q E s := by
  unfold delItem
  try with_reducible refine wpAny_holding ?_
  refine wpAny_bind (wpAny_sequenceKey hD.typeIs (by decide) ?_)
  refine wpAny_bind (wpAny_callSpecial?_slot (name := Str.ofString "__delitem__") hD.typeIs PySem.F.slot_dict_delitem
    (call_meetsIn PySem.F.slot_dict_delitem hD.typeIs PySem.F.entry_dict_delitem (PySem.F.args_dict_delitem_2 _ _) (meets_dict_delitem_pairs (PySem.strKind prog w) aT (strKind_is _ _ _ _))
      ⟨kvs, hD, (by rw [sizeLine_eq]; omega), hs, fun h' hmm hs => wpAny_pure (h h' _ hmm hs)⟩))

theorem spec_remove {Q : Value → Shared → Prop} (hroom : A.depth < recursionLimit) (hh : A.handled = none) (G : Gl g mg mb fR fS fO) (hg : Keep g s.heap) (hn : g.get? aT = none)
    (hT : SD prog w s.heap aT d) (hlo : (aT == sysModules) = false) (hdl : d.length ≤ 900)
    (h : ∀ h' tk, Heap.ExtBut aT s.heap h' → SD prog w h' aT (d.filter fun p => np p.1) → Q .none { s with heap := h', toks := tk }) :
    wpAny (model prog w) A (call (.ref fR) [.ref aT]) Q E s := by
  have Gs := G.keeps hg
  refine call_fn (binds := [(Str.ofString "_config_vars", .ref aT)]) hroom Gs.lim Gs.aR (fun _ _ _ _ _ _ _ => rfl) (by decide) (locs rfl) fun n q doc pm an cdv ct h₁ hns hk₁ => ?_
  generalize hL : s.heap.objs.size = L at hns ⊢
  generalize hA' : A.deeper _ = A'
  have hh' : A'.handled = none := by rw [← hA']; exact hh
  have hLn : ∀ a, L ≤ a → s.heap.get? a = none := fun a ha => none_at_size (by omega)
  have hTlt : aT < L := by obtain ⟨kvs, ⟨o, es, ep, ho, _⟩, _⟩ := hT; rw [← hL]; exact Heap.lt_size ho
  obtain ⟨kvs, hD, hp⟩ := hT
  have hnd : (kvs.map (·.1)).Nodup := by obtain ⟨_, _, _, _, _, _, _, _, x⟩ := hD; exact x
  have hlen := hp.length
  have hD₁ := hD.keep hk₁
  obtain ⟨ep, hDA⟩ := hD₁.dictAt
  have cfg : Lv h₁ L (Str.ofString "_config_vars") (.ref aT) := ⟨_, hns, rfl⟩
  have G₁ := G.keeps (Keep.trans hg hk₁)
  refine wpAny_execs_cons (wpAny_For (wpAny_Call_Name_kw (e_builtin G₁.g G₁.list0 G₁.b G₁.list (PyProof.Rows.callWith_type1 (spliced_more (e_local cfg (spliced_none
    (kdl_call (kdl_dict (knd := PySem.strKind prog w) hlo) hh' hDA (by rw [sizeLine_eq]; omega) fun h₂ tk₂ acc c hk₂ hS items => ?_))))))))
  have hLS : L < h₁.objs.size := hns.lt
  dsimp only at hk₂ hS
  generalize hSe : h₁.objs.size = S at hS hLS ⊢
  have hlS : h₂.IsList S acc := ⟨_, hS, rfl, _, rfl⟩
  refine wpAny_pyIter_list hlS ?_
  dsimp only
  have hSI : S < h₂.objs.size := Heap.lt_size hS
  generalize hI : h₂.objs.size = I at hSI ⊢
  obtain ⟨hasz, hacc⟩ := items
  refine codeAny_forLoop
    (fun k s' => ∃ h' tk i, s' = { s with heap := h', toks := tk } ∧ Heap.ExtBut aT s.heap h' ∧ h'.IsListIter I S i ∧ h'.IsList S acc ∧ Lv h' L (Str.ofString "_config_vars") (.ref aT) ∧ i ≤ kvs.length ∧ k = kvs.length + 1 - i ∧
      h'.DictOf (PySem.strKind prog w) aT ((kvs.take i).filter (fun p => np p.1) ++ kvs.drop i)) ?_ (kvs.length + 1)
    ⟨_, _, 0, rfl, fun b o _ e => Heap.get?_push_of_some _ (hk₂ _ _ (hk₁ b o e)), ⟨_, hI ▸ Heap.get?_push_size _ rfl, rfl, rfl⟩, hlS.push _, (cfg.keeps hk₂).keeps (Keep.push _ _), Nat.zero_le _, rfl, by simpa using (hD₁.keep hk₂).push _⟩
  rintro k s' ⟨h', tk, i, rfl, hk, hit, hl', cfg', hi, rfl, hD'⟩
  have bI : s.heap.get? I = none := hLn _ (by omega)
  have bL : s.heap.get? L = none := hLn _ (by omega)
  have nLI : L ≠ I := by omega
  have nSI : S ≠ I := by omega
  have nSL : S ≠ L := by omega
  have nTI : aT ≠ I := by have : aT < L := hTlt; exact Nat.ne_of_lt (Nat.lt_trans this (by omega))
  have nTS : aT ≠ S := by have : aT < L := hTlt; exact Nat.ne_of_lt (Nat.lt_trans this (by omega))
  have nTL : aT ≠ L := Nat.ne_of_lt hTlt
  by_cases hlt : i < kvs.length
  · obtain ⟨k, x, hkx, hkv⟩ := hacc i acc[i] (by simp [hasz, hlt])
    obtain ⟨tv, hv⟩ := isStrOf_shape hkv
    have hki : kvs[i].1 = k := by rw [List.getElem?_eq_getElem hlt] at hkx; rw [Option.some.inj hkx]
    refine wpAny_pyNext_list_item hit hl' (x := .str k tv) (by rw [Array.getElem?_eq_getElem (by omega), hv]) fun h₃ it₃ s₃ => ?_
    refine wpAny_assign_Name (s_local (cfg'.fm.but s₃.extBut nLI) fun h₄ l₄ u₄ s₄ => ?_)
    have cfg₄ := u₄ _ _ (by decide) (cfg'.but s₃.extBut nLI)
    have hk₄ : Heap.ExtBut aT s.heap h₄ := fun b o hb e => s₄.extBut b o (fun q => by have q' : b = L := q; rw [q', bL] at e; cases e) (s₃.extBut b o (fun q => by rw [q, bI] at e; cases e) (hk b o hb e))
    have it₄ : h₄.IsListIter I S (i + 1) := it₃.at fun o e => s₄.extBut _ o (Ne.symm nLI) e
    have l4 : h₄.IsList S acc := (hl'.extBut s₃.extBut nSI).extBut s₄.extBut nSL
    have D₄ := (hD'.extBut s₃.extBut nTI).extBut s₄.extBut nTL
    have G₄ : Gl h₄ mg mb fR fS fO := G.keeps fun b o e => hk₄ b o (fun q => by rw [q, hn] at e; cases e) (hg b o e)
    clear s₃ s₄ u₄ it₃ hit hl' cfg' hk
    obtain ⟨tp, hpre⟩ := G.pre
    refine wpAny_execs_cons (wpAny_If (isTrue_plain (MethodCall_ (e_local l₄ (PySem.GM.startswith (callWith_method1 (spliced_more (e_global G₄.g hpre (spliced_none (PySem.SC.startswith (wpAny_truthy_bool ?_)))))))))))
    cases hst : Txt.startswith k PRE with
    | false =>
      rw [if_neg (by decide)]
      refine wpAny_execs_nil (wpAny_execs_nil ⟨kvs.length + 1 - (i + 1), by omega, h₄, _, i + 1, rfl, hk₄, it₄, l4, cfg₄, hlt, rfl, ?_⟩)
      rw [← keep_step hlt (by rw [hki, np, hst]; rfl)]; exact D₄
    | true =>
      rw [if_pos rfl]
      have hk' : np kvs[i].1 = false := by rw [hki, np, hst]; rfl
      refine wpAny_execs_cons (wpAny_Delete (wpAny_deleteEach_cons (delete_Subscript (e_local cfg₄ (e_local l₄ (m_del D₄ ?_ (by rw [← hki]; exact there_step hlt) fun h₅ tk₅ D₅ s₅ => wpAny_deleteEach_nil (wpAny_execs_nil (wpAny_execs_nil
        ⟨kvs.length + 1 - (i + 1), by omega, h₅, _, i + 1, rfl, fun b o hb e => s₅.extBut b o hb (hk₄ b o hb e), it₄.at fun o e => s₅.extBut _ o (Ne.symm nTI) e, l4.extBut s₅.extBut (Ne.symm nTS), cfg₄.but s₅.extBut (Ne.symm nTL), hlt, rfl, ?_⟩))))))))
      · have := List.length_filter_le (fun p : Str × Value => np p.1) (kvs.take i)
        simp only [List.length_append, List.length_drop, List.length_take] at this ⊢
        omega
      · rw [← without_step hlt hnd hk', hki]; exact D₅
  · have hin : i = kvs.length := by omega
    refine wpAny_pyNext_list_end hh' hit hl' (by simp [hin, hasz]) fun h₃ he₃ => wpAny_execs_nil (wpAny_execs_nil ?_)
    refine h h₃ _ (fun b o hb e => he₃ b o (fun q => by rw [q, bI] at e; cases e) (hk b o hb e)) ⟨_, ?_, sv_filter hp⟩
    have := hD'.extBut he₃ nTI
    rw [hin, List.take_length, List.drop_length, List.append_nil] at this
    exact this
end
end Mine

namespace Mine
open PySem PySem.W PyProof.Rows PySem.Calls

def NoTup (o : Obj) : Prop := ∀ xs n, o.cls = .type "tuple" → o.data = .seq xs n → False
abbrev KeepT (h h' : Heap) : Prop := ∀ b o xs n, h.get? b = some o → o.cls = .type "tuple" → o.data = .seq xs n → h'.get? b = some o
theorem Keep.t {h h' : Heap} (k : Keep h h') : KeepT h h' := fun b o _ _ e _ _ => k b o e
theorem KeepT.trans {a b c : Heap} (x : KeepT a b) (y : KeepT b c) : KeepT a c := fun p o xs n e c d => y p o xs n (x p o xs n e c d) c d
theorem keepT_but {h h' : Heap} {a : Addr} (k : Heap.ExtBut a h h') (ha : ∀ o, h.get? a = some o → NoTup o) : KeepT h h' := fun b o xs n e c d =>
  k b o (fun q => ha o (q ▸ e) xs n c d) e
theorem Fm.noTup {h : Heap} {L : Addr} (x : Fm h L) : ∀ o, h.get? L = some o → NoTup o := fun o e xs n c d => by
  obtain ⟨m, o', es, ep, ho, hd, _⟩ := x
  rw [e] at ho; cases ho; rw [d] at hd; cases hd
theorem plain_noTup {h : Heap} {L : Addr} {ys : Array Value} (x : h.PlainList L ys) : ∀ o, h.get? L = some o → NoTup o := fun o e xs n c d => by
  obtain ⟨k, ho⟩ := x
  rw [e] at ho; cases ho; exact absurd (show Value.type "list" = Value.type "tuple" from c) (by decide)

section
variable {M : Model} {A : Around} {E : Value → Shared → Prop} {s : Shared} {env : Env}
theorem tests_nil {Q : Bool → Shared → Prop} (h : Q true s) : wpAny M A (forIn ([] : List Expr) true fun c r => if r = true then do let ok ← isTrue c env (eval c env); pure (ForInStep.yield ok) else pure (ForInStep.yield r)) Q E s := by
  rw [List.forIn_nil]; exact wpAny_pure h
theorem tests_one {c : Expr} {Q : Bool → Shared → Prop} (h : wpAny M A (isTrue c env (eval c env)) Q E s) :
    wpAny M A (forIn [c] true fun c r => if r = true then do let ok ← isTrue c env (eval c env); pure (ForInStep.yield ok) else pure (ForInStep.yield r)) Q E s := by
  rw [List.forIn_cons]
  refine wpAny_bind ?_
  rw [if_pos rfl]
  refine wpAny_bind (wpAny_mono h (fun ok s₁ h₁ => ?_) fun _ _ e => e)
  refine wpAny_pure ?_
  dsimp only
  rw [List.forIn_nil]
  exact wpAny_pure h₁
end

theorem Keeps.refl (s : Shared) : Keeps s s := ⟨s.heap, s.toks, rfl, fun _ _ e => e⟩
theorem Keeps.of {s : Shared} {h' : Heap} {tk : Nat} (k : Keep s.heap h') : Keeps s { s with heap := h', toks := tk } := ⟨h', tk, rfl, k⟩

section
variable {prog : Program} {w : World} {A : Around} {E : Value → Shared → Prop} {s : Shared} {env : Env}

def CompAt (prog : Program) (w : World) (A : Around) (env : Env) (scope : Scope) (cl : List (Str × Addr)) (x : Str) (ifs : List Expr) (elt : Expr) (ks : List Str) (p : Str → Bool) (F : Heap → Str → Value → Prop)
    (RR : Value → Addr → Result → Shared → Prop) (it : Value) (s₂ : Shared) : Prop :=
  ∃ I fp P St, it = .ref I ∧ Walks prog w A I fp [I] ks.length P St ∧ (∀ i v, P i v → ∃ k t, ks[i]? = some k ∧ v = .str k t) ∧ (∀ i h, St i h → ∀ o, h.get? I = some o → NoTup o) ∧ St 0 s₂.heap ∧ (∀ b ∈ fp, b < s₂.heap.objs.size) ∧
    (∀ C k t s₃ E', s₂.heap.objs.size ≤ C → k ∈ ks → Lv s₃.heap C x (.str k t) → Heap.ExtBut I s₂.heap s₃.heap →
      wpAny (model prog w) A (forIn ifs true fun c r => if r = true then do let ok ← isTrue c (compEnvC scope cl C env) (eval c (compEnvC scope cl C env)); pure (ForInStep.yield ok) else pure (ForInStep.yield r))
        (fun ok s₄ => ok = p k ∧ Keeps s₃ s₄) E' s₃) ∧
    (∀ C k t s₃ E', s₂.heap.objs.size ≤ C → k ∈ ks → p k = true → Lv s₃.heap C x (.str k t) → Heap.ExtBut I s₂.heap s₃.heap →
      wpAny (model prog w) A (eval elt (compEnvC scope cl C env)) (fun y s₄ => F s₄.heap k y ∧ Keeps s₃ s₄) E' s₃) ∧
    (∀ D C h' tk ys, s₂.heap.get? D = none → s₂.heap.get? C = none → D ≠ C → Fm h' C → h'.PlainList D ys → Paired (F h') (ks.filter p) ys.toList → Heap.ExtBut I s₂.heap h' → RR (.ref D) C (.ok .next) { s₂ with heap := h', toks := tk })

theorem comp_block {elt iter : Expr} {x : Str} {px : Pos} {ifs : List Expr} {scope : Scope} {cl : List (Str × Addr)} {pos : Pos} {RR : Value → Addr → Result → Shared → Prop} {ks : List Str} {p : Str → Bool} {F : Heap → Str → Value → Prop} {it : Value} {s₂ : Shared}
    (hF : ∀ h h' k y, KeepT h h' → F h k y → F h' k y) (hlen : ks.length ≤ 1000)
    (hcell : ∀ y ∈ scope.names, y.2 ≠ .cell) (hkind : scope.kind = .function) (hx : scope.names.lookup x = some .local) (h₂ : CompAt prog w A env scope cl x ifs elt ks p F RR it s₂) :
    wpAny (model prog w) A (newList []) (fun acc s₃ => wpAny (model prog w) A (newFunctionEnv scope env.globals cl [] env.qual none .none (some env)) (fun cenv s₄ =>
      codeAny (model prog w) A (.compStart (.ListComp elt [⟨.Name x px, iter, ifs, 0⟩] scope pos) 0 it acc { cenv with scope := relabel scope env }) (RR acc cenv.locals) s₄) E s₃) E s₂ := by
  obtain ⟨I, fp, P, St, rfl, W, hP, hlive, hst, hfp, ht, he, hQ⟩ := h₂
  refine wpAny_newObj_type (wpAny_newFunctionEnv hcell (by intro y hy; simp at hy) (fun h₁ hns₁ hsb₁ => ?_) hkind)
  dsimp only at hns₁ hsb₁ ⊢
  generalize hH2 : s₂.heap.push { cls := .type "list", dict := none, data := .seq ([] : List Value).toArray } = H2 at hns₁ hsb₁ ⊢
  generalize hD : s₂.heap.objs.size = D
  generalize hC : H2.objs.size = C at hns₁ hsb₁ ⊢
  have hCD : C = D + 1 := by rw [← hC, ← hH2, Heap.size_push, hD]
  have hfp' : ∀ b ∈ fp, @LT.lt Nat instLTNat b D := fun b hb => hD ▸ hfp b hb
  have lt' : ∀ b o, s₂.heap.get? b = some o → @LT.lt Nat instLTNat b D := fun b o e => hD ▸ Heap.lt_size e
  have old : Keep s₂.heap h₁ := fun b o e => hsb₁.extBut b o (Nat.ne_of_lt (by have := lt' _ _ e; omega)) (Heap.get?_push_of_some _ (hH2 ▸ Heap.get?_push_of_some _ e))
  have hacc : h₁.PlainList D #[] := ⟨_, hsb₁.extBut _ _ (Nat.ne_of_lt (by omega)) (Heap.get?_push_of_some _ (hH2 ▸ hD ▸ Heap.get?_push_size _ rfl))⟩
  have nID : I ≠ D := Nat.ne_of_lt (by have := hfp' I (W.sub _ List.mem_cons_self); omega)
  have nIC : I ≠ C := Nat.ne_of_lt (by have := hfp' I (W.sub _ List.mem_cons_self); omega)
  have nDC : D ≠ C := by omega
  have fD : D ∉ fp := fun q => absurd (hfp' _ q) (by omega)
  have fC : C ∉ fp := fun q => absurd (hfp' _ q) (by omega)
  have bD : s₂.heap.get? D = none := none_at_size (by omega)
  have bC : s₂.heap.get? C = none := none_at_size (by omega)
  have hst₁ : St 0 h₁ := W.frame _ _ _ hst fun b _ o e => old b o e
  have kindX : (compEnvC scope cl C env).kindOf x = some .local := lookup_relabel_local hx
  have kindP : ((compEnvC scope cl C env).scope.kind == .class || ((compEnvC scope cl C env).scope.kind == .module && (compEnvC scope cl C env).locals != (compEnvC scope cl C env).globals)) = false := by
    simp [compEnvC, relabel, hkind]
  have loop : codeAny (model prog w) A (.compLoop (.ListComp elt [⟨.Name x px, iter, ifs, 0⟩] scope pos) 0 (.ref I) (.ref D) (compEnvC scope cl C env))
        (RR (.ref D) C) { s₂ with heap := h₁, toks := s₂.toks + ([] : List (Str × Value)).length } := by
    refine codeAny_compLoop_tests
      (fun n s' => ∃ h' tk i ys, s' = { s₂ with heap := h', toks := tk } ∧ St i h' ∧ h'.PlainList D ys ∧ Fm h' C ∧ Paired (F h') ((ks.take i).filter p) ys.toList ∧ i ≤ ks.length ∧ n = ks.length + 1 - i ∧
        Heap.ExtBut I s₂.heap h') ?_ (ks.length + 1)
      ⟨h₁, _, 0, #[], rfl, hst₁, hacc, ⟨_, hns₁⟩, by simpa using Paired.nil, Nat.zero_le _, rfl, fun b o _ e => old b o e⟩
    rintro n s' ⟨h', tk, i, ys, rfl, st', pl', fm', pr', hi, rfl, ext'⟩
    have bI : ∀ {b : Addr}, b ≠ I → b ∉ [I] := fun hb hm => hb (List.mem_singleton.mp hm)
    by_cases hlt : i < ks.length
    · refine W.item i _ _ _ hlt st' fun v h₂ tk₂ hPv st₂ hk₂ => ?_
      obtain ⟨k, t, hki, rfl⟩ := hP i v hPv
      have hkm : k ∈ ks := List.mem_of_getElem? hki
      have e₂ : Heap.ExtBut I h' h₂ := fun b o hb e => hk₂ b o (bI hb) e
      refine wpAny_assign_Name (s_local (fm'.but e₂ (Ne.symm nIC)) (fun h₃ l₃ u₃ s₃ => ?_) kindX kindP)
      have ext₃ : Heap.ExtBut I s₂.heap h₃ := fun b o hb e => s₃.extBut b o (fun q => by have q' : b = C := q; rw [q', bC] at e; cases e) (e₂ b o hb (ext' b o hb e))
      have st₃ : St (i + 1) h₃ := W.frame _ _ _ st₂ fun b hb o e => s₃.extBut b o (fun q => fC ((show b = C from q) ▸ hb)) e
      have pl₃ : h₃.PlainList D ys := (pl'.at fun o e => e₂ _ o (Ne.symm nID) e).at fun o e => s₃.extBut _ o nDC e
      have kt₃ : KeepT h' h₃ := (keepT_but e₂ (hlive _ _ st')).trans (keepT_but s₃.extBut (fm'.but e₂ (Ne.symm nIC)).noTup)
      refine wpAny_mono (ht C k t _ _ (by omega) hkm l₃ ext₃) (fun ok s₄ h₄ => ?_) fun _ _ e => e
      obtain ⟨rfl, h₄, tk₄, rfl, k₄⟩ := h₄
      have hdrop : ks.take (i + 1) = ks.take i ++ [k] := by rw [List.take_add_one, hki]; rfl
      cases hpk : p k with
      | false =>
        rw [if_neg (by decide)]
        refine ⟨ks.length + 1 - (i + 1), by omega, h₄, tk₄, i + 1, ys, rfl, W.frame _ _ _ st₃ fun b _ o e => k₄ b o e, pl₃.at fun o e => k₄ _ o e, l₃.fm.keeps k₄, ?_, hlt, rfl, fun b o hb e => k₄ b o (ext₃ b o hb e)⟩
        rw [hdrop, List.filter_append]
        simpa [hpk] using pr'.mono fun a b x => hF _ _ _ _ (kt₃.trans (Keep.t k₄)) x
      | true =>
        rw [if_pos rfl]
        refine wpAny_mono (he C k t _ _ (by omega) hkm hpk (l₃.keeps k₄) (fun b o hb e => k₄ b o (ext₃ b o hb e))) (fun y s₅ h₅ => ?_) fun _ _ e => e
        obtain ⟨hy, h₅, tk₅, rfl, k₅⟩ := h₅
        dsimp only at hy k₅ k₄
        have hys : ys.size ≤ sizeLine := by
          have e1 := pr'.length
          have e2 : ((ks.take i).filter p).length ≤ (ks.take i).length := List.length_filter_le _ _
          have e3 : (ks.take i).length ≤ ks.length := by rw [List.length_take]; omega
          have e4 : ys.toList.length = ys.size := by simp
          rw [sizeLine_eq]; omega
        refine wpAny_list_append_plain (hsz := hys) (items := ys) ((pl₃.at fun o e => k₄ _ o e).at fun o e => k₅ _ o e) fun h₆ pl₆ s₆ => ?_
        have kt₆ : KeepT h₅ h₆ := keepT_but s₆.extBut (plain_noTup ((pl₃.at fun o e => k₄ _ o e).at fun o e => k₅ _ o e))
        refine ⟨ks.length + 1 - (i + 1), by omega, h₆, tk₅, i + 1, ys.push y, rfl, W.frame _ _ _ st₃ fun b hb o e => s₆.extBut b o (fun q => fD (q ▸ hb)) (k₅ _ _ (k₄ b o e)), pl₆, ((l₃.fm.keeps k₄).keeps k₅).but s₆.extBut (Ne.symm nDC), ?_, hlt, rfl,
          fun b o hb e => s₆.extBut b o (fun q => by rw [q, bD] at e; cases e) (k₅ _ _ (k₄ b o (ext₃ b o hb e)))⟩
        rw [hdrop, List.filter_append]
        have := (pr'.mono fun a b x => hF _ _ _ _ (((kt₃.trans (Keep.t k₄)).trans (Keep.t k₅)).trans kt₆) x).snoc (hF _ _ _ _ kt₆ hy)
        simpa [hpk] using this
    · have hin : i = ks.length := by omega
      refine W.done _ _ _ (hin ▸ st') fun h₂ tk₂ hk₂ => ?_
      have e₂ : Heap.ExtBut I h' h₂ := fun b o hb e => hk₂ b o (bI hb) e
      have fm₂ := fm'.but e₂ (Ne.symm nIC)
      have pl₂ : h₂.PlainList D ys := pl'.at fun o e => e₂ _ o (Ne.symm nID) e
      refine hQ D C h₂ tk₂ ys bD bC nDC fm₂ pl₂ ?_ fun b o hb e => e₂ b o hb (ext' b o hb e)
      have := pr'.mono fun a b x => hF _ _ _ _ (keepT_but e₂ (hlive _ _ st')) x
      rw [hin, List.take_length] at this
      exact this
  exact codeAny_compStart_list loop (W.self 0 _ _ _ hst₁ loop)

theorem comp_rule {elt iter : Expr} {x : Str} {px : Pos} {ifs : List Expr} {scope : Scope} {cl : List (Str × Addr)} {pos : Pos} {Q : Value → Shared → Prop} (ks : List Str) (p : Str → Bool) (F : Heap → Str → Value → Prop)
    (hF : ∀ h h' k y, KeepT h h' → F h k y → F h' k y) (hlen : ks.length ≤ 1000)
    (hclos : closureFor scope env = pure cl) (hcell : ∀ y ∈ scope.names, y.2 ≠ .cell) (hkind : scope.kind = .function)
    (hnames : ∀ y ∈ scope.names, y.2 = .local → scope.names.lookup y.1 = some .local) (hx : scope.names.lookup x = some .local)
    (h : wpAny (model prog w) A (eval iter env) (fun xv s₁ => wpAny (model prog w) A (pyIter xv) (fun it s₂ => CompAt prog w A env scope cl x ifs elt ks p F (compPost (model prog w) A E none Q) it s₂) E s₁) E s)
    (hs : ∀ x, foldedSetIterable iter env x = pure x := by intro _; rfl) :
    wpAny (model prog w) A (eval (.ListComp elt [⟨.Name x px, iter, ifs, 0⟩] scope pos) env) Q E s := by
  rw [eval_ListComp]
  exact wpAny_comprehension_free (use := none) rfl hs hclos hkind hnames (wpAny_mono h (fun xv s₁ h₁ => wpAny_mono h₁ (fun it s₂ h₂ => comp_block hF hlen hcell hkind hx h₂) fun _ _ e => e) fun _ _ e => e)

theorem comp_assign {elt iter : Expr} {x y : Str} {px py : Pos} {ifs : List Expr} {scope : Scope} {cl : List (Str × Addr)} {pos spos : Pos} {Q : Flow → Shared → Prop} (ks : List Str) (p : Str → Bool) (F : Heap → Str → Value → Prop)
    (hF : ∀ h h' k y, KeepT h h' → F h k y → F h' k y) (hlen : ks.length ≤ 1000)
    (hsw : swapsWith (.ListComp elt [⟨.Name x px, iter, ifs, 0⟩] scope pos) (some (.Name y py)) spos.line env = pure true)
    (hclos : closureFor scope env = pure cl) (hcell : ∀ y ∈ scope.names, y.2 ≠ .cell) (hkind : scope.kind = .function)
    (hnames : ∀ y ∈ scope.names, y.2 = .local → scope.names.lookup y.1 = some .local) (hx : scope.names.lookup x = some .local)
    (h : wpAny (model prog w) A (eval iter env) (fun xv s₁ => wpAny (model prog w) A (pyIter xv) (fun it s₂ => CompAt prog w A env scope cl x ifs elt ks p F (compPost (model prog w) A E (some (assign (.Name y py) env)) (fun _ s' => Q .next s')) it s₂) E s₁) E s)
    (hs : ∀ x, foldedSetIterable iter env x = pure x := by intro _; rfl) :
    wpAny (model prog w) A (exec (.Assign [.Name y py] (.ListComp elt [⟨.Name x px, iter, ifs, 0⟩] scope pos) spos) env) Q E s := by
  rw [exec_Assign_Name_used _ _ _ _ hsw]
  refine wpAny_bind (wpAny_standAt (wpAny_bind ?_))
  show wpAny _ A (do let _ ← comprehension (.ListComp elt [⟨.Name x px, iter, ifs, 0⟩] scope pos) scope env _ (newList []) false (eval iter env) (some (assign (.Name y py) env))) _ _ s
  exact wpAny_bind (wpAny_mono (wpAny_comprehension_free (use := some (assign (.Name y py) env)) (Q := fun _ s' => Q .next s') rfl hs hclos hkind hnames
    (wpAny_mono h (fun xv s₁ h₁ => wpAny_mono h₁ (fun it s₂ h₂ => comp_block hF hlen hcell hkind hx h₂) fun _ _ e => e) fun _ _ e => e)) (fun _ s' hq => wpAny_pure (wpAny_pure hq)) fun _ _ e => e)
end
end Mine

namespace Mine
open PySem PySem.W PyProof.Rows PySem.Calls

theorem sv_keys : ∀ {kvs : List (Str × Value)} {d : Tbl}, Paired SV kvs d → kvs.map (·.1) = d.map (·.1)
  | _, _, .nil => rfl
  | (k₁, v₁) :: kvs, (k₂, y) :: d, .cons ⟨h1, t, h2⟩ r => by
    dsimp only at h1
    subst h1
    simp only [List.map_cons, sv_keys r]

section
variable {prog : Program} {w : World} {A : Around} {E : Value → Shared → Prop} {s : Shared} {env : Env}

/-- what a comprehension over texts asks of its test and its element, and hands on -/
structure CompOn (prog : Program) (w : World) (A : Around) (env : Env) (scope : Scope) (cl : List (Str × Addr)) (x : Str) (ifs : List Expr) (elt : Expr) (ks : List Str) (p : Str → Bool) (F : Heap → Str → Value → Prop)
    (RR : Value → Addr → Result → Shared → Prop) (s : Shared) : Prop where
  test : ∀ C k t s₃ E', k ∈ ks → Lv s₃.heap C x (.str k t) → Keep s.heap s₃.heap →
      wpAny (model prog w) A (forIn ifs true fun c r => if r = true then do let ok ← isTrue c (compEnvC scope cl C env) (eval c (compEnvC scope cl C env)); pure (ForInStep.yield ok) else pure (ForInStep.yield r))
        (fun ok s₄ => ok = p k ∧ Keeps s₃ s₄) E' s₃
  elt : ∀ C k t s₃ E', k ∈ ks → p k = true → Lv s₃.heap C x (.str k t) → Keep s.heap s₃.heap →
      wpAny (model prog w) A (eval elt (compEnvC scope cl C env)) (fun y s₄ => F s₄.heap k y ∧ Keeps s₃ s₄) E' s₃
  post : ∀ D C h' tk ys, s.heap.get? D = none → s.heap.get? C = none → D ≠ C → Fm h' C → h'.PlainList D ys → Paired (F h') (ks.filter p) ys.toList → Keep s.heap h' → RR (.ref D) C (.ok .next) { s with heap := h', toks := tk }

theorem src_dict {aT : Addr} {d : Tbl} {scope : Scope} {cl : List (Str × Addr)} {x : Str} {ifs : List Expr} {elt : Expr} {p : Str → Bool} {F : Heap → Str → Value → Prop} {RR : Value → Addr → Result → Shared → Prop}
    (hh : A.handled = none) (hlo : (aT == sysModules) = false) (hT : SD prog w s.heap aT d) (h : CompOn prog w A env scope cl x ifs elt (d.map (·.1)) p F RR s) :
    wpAny (model prog w) A (pyIter (.ref aT)) (fun it s₂ => CompAt prog w A env scope cl x ifs elt (d.map (·.1)) p F RR it s₂) E s := by
  obtain ⟨kvs, hD, hp⟩ := hT
  obtain ⟨ep, hDA⟩ := hD.dictAt
  have hks := sv_keys hp
  have hlen : (d.map (·.1)).length = kvs.length := by rw [← hks, List.length_map]
  have hlt := hDA.lt_size
  refine wpAny_pyIter_dict hlo hDA ?_
  have bI : s.heap.get? s.heap.objs.size = none := none_at_size (Nat.le_refl _)
  have nn : ∀ {a : Addr} {o : Obj}, (s.heap.push o).get? a = none → s.heap.get? a = none := fun {a} {o'} h0 => by
    cases e : s.heap.get? a with
    | none => rfl
    | some o => rw [Heap.get?_push_of_some _ e] at h0; cases h0
  have up : ∀ {h' : Heap} {o : Obj}, Heap.ExtBut s.heap.objs.size (s.heap.push o) h' → Keep s.heap h' := fun {h'} {o'} he => sameBut_keep (Keep.push _ _) bI he
  refine ⟨s.heap.objs.size, [s.heap.objs.size, aT], (fun i v => ∃ k x, kvs[i]? = some (k, x) ∧ (PySem.strKind prog w).is k v = true), (fun i h => h.IsKeyIter s.heap.objs.size aT i kvs.length ep ∧ h.DictAt (PySem.strKind prog w) aT kvs ep), rfl,
    by rw [hlen]; exact Walks.dictKeys (knd := PySem.strKind prog w) hh s.heap.objs.size aT (Nat.ne_of_lt hlt) kvs ep, ?_, ?_, ⟨⟨_, Heap.get?_push_size _ rfl, rfl, rfl⟩, hDA.push _⟩, ?_, ?_, ?_, ?_⟩
  · rintro i v ⟨k, x, hkx, hv⟩
    obtain ⟨t, rfl⟩ := isStrOf_shape hv
    exact ⟨k, t, by rw [← hks, List.getElem?_map, hkx]; rfl, rfl⟩
  · rintro i h ⟨⟨o', ho', hc, hd⟩, _⟩ o e xs n c dd
    rw [e] at ho'; cases ho'; rw [hd] at dd; cases dd
  · intro b hb
    rw [Heap.size_push]
    rcases List.mem_cons.mp hb with rfl | hb
    · exact Nat.lt_succ_self _
    · rw [List.mem_singleton.mp hb]; exact Nat.lt_succ_of_lt hlt
  · intro C k t s₃ E' _ hk hl he
    exact h.test C k t s₃ E' hk hl (up he)
  · intro C k t s₃ E' _ hk hpk hl he
    exact h.elt C k t s₃ E' hk hpk hl (up he)
  · intro D C h' tk ys hD' hC' hDC hfm hl hpr he
    refine h.post D C h' tk ys (nn hD') (nn hC') hDC hfm hl hpr (up he)

theorem src_list {aT : Addr} {ks : List Str} {scope : Scope} {cl : List (Str × Addr)} {x : Str} {ifs : List Expr} {elt : Expr} {p : Str → Bool} {F : Heap → Str → Value → Prop} {RR : Value → Addr → Result → Shared → Prop}
    (hh : A.handled = none) (hT : StrsL s.heap aT ks) (h : CompOn prog w A env scope cl x ifs elt ks p F RR s) :
    wpAny (model prog w) A (pyIter (.ref aT)) (fun it s₂ => CompAt prog w A env scope cl x ifs elt ks p F RR it s₂) E s := by
  obtain ⟨vs, hl, hs⟩ := hT
  have hlen : ks.length = vs.toArray.size := by rw [List.size_toArray, hs.length]
  have hlt : aT < s.heap.objs.size := by obtain ⟨o, ho, _⟩ := hl; exact Heap.lt_size ho
  refine wpAny_pyIter_list hl ?_
  have bI : s.heap.get? s.heap.objs.size = none := none_at_size (Nat.le_refl _)
  have nn : ∀ {a : Addr} {o : Obj}, (s.heap.push o).get? a = none → s.heap.get? a = none := fun {a} {o'} h0 => by
    cases e : s.heap.get? a with
    | none => rfl
    | some o => rw [Heap.get?_push_of_some _ e] at h0; cases h0
  have up : ∀ {h' : Heap} {o : Obj}, Heap.ExtBut s.heap.objs.size (s.heap.push o) h' → Keep s.heap h' := fun {h'} {o'} he => sameBut_keep (Keep.push _ _) bI he
  refine ⟨s.heap.objs.size, [s.heap.objs.size, aT], (fun i v => vs.toArray[i]? = some v), (fun i h => h.IsListIter s.heap.objs.size aT i ∧ h.IsList aT vs.toArray), rfl, by rw [hlen]; exact Walks.list hh s.heap.objs.size aT (Nat.ne_of_lt hlt) vs.toArray, ?_, ?_, ⟨⟨_, Heap.get?_push_size _ rfl, rfl, rfl⟩, hl.push _⟩, ?_, ?_, ?_, ?_⟩
  · intro i v hv
    have hi : i < ks.length := by
      have : i < vs.toArray.size := (Array.getElem?_eq_some_iff.mp hv).1
      omega
    obtain ⟨t, e⟩ := hs.get i ks[i] (by simp [hi])
    refine ⟨ks[i], t, by simp [hi], ?_⟩
    have hv' : vs[i]? = some v := by simpa using hv
    rw [e] at hv'; exact (Option.some.inj hv').symm
  · rintro i h ⟨⟨o', ho', hc, hd⟩, _⟩ o e xs n c dd
    rw [e] at ho'; cases ho'; rw [hd] at dd; cases dd
  · intro b hb
    rw [Heap.size_push]
    rcases List.mem_cons.mp hb with rfl | hb
    · exact Nat.lt_succ_self _
    · rw [List.mem_singleton.mp hb]; exact Nat.lt_succ_of_lt hlt
  · intro C k t s₃ E' _ hk hl he
    exact h.test C k t s₃ E' hk hl (up he)
  · intro C k t s₃ E' _ hk hpk hl he
    exact h.elt C k t s₃ E' hk hpk hl (up he)
  · intro D C h' tk ys hD' hC' hDC hfm hl hpr he
    refine h.post D C h' tk ys (nn hD') (nn hC') hDC hfm hl hpr (up he)

theorem on_eval {scope : Scope} {cl : List (Str × Addr)} {x : Str} {ifs : List Expr} {elt : Expr} {ks : List Str} {p : Str → Bool} {F : Heap → Str → Value → Prop} {Q : Value → Shared → Prop} (hF : ∀ h h' k y, KeepT h h' → F h k y → F h' k y)
    (test : ∀ C k t s₃ E', k ∈ ks → Lv s₃.heap C x (.str k t) → Keep s.heap s₃.heap →
      wpAny (model prog w) A (forIn ifs true fun c r => if r = true then do let ok ← isTrue c (compEnvC scope cl C env) (eval c (compEnvC scope cl C env)); pure (ForInStep.yield ok) else pure (ForInStep.yield r))
        (fun ok s₄ => ok = p k ∧ Keeps s₃ s₄) E' s₃)
    (elt' : ∀ C k t s₃ E', k ∈ ks → p k = true → Lv s₃.heap C x (.str k t) → Keep s.heap s₃.heap →
      wpAny (model prog w) A (eval elt (compEnvC scope cl C env)) (fun y s₄ => F s₄.heap k y ∧ Keeps s₃ s₄) E' s₃)
    (post : ∀ D h' tk ys, s.heap.get? D = none → h'.IsList D ys → Paired (F h') (ks.filter p) ys.toList → Keep s.heap h' → Q (.ref D) { s with heap := h', toks := tk }) :
    CompOn prog w A env scope cl x ifs elt ks p F (compPost (model prog w) A E none Q) s := by
  refine ⟨test, elt', fun D C h' tk ys hD hC hDC hfm hl hpr hk => ?_⟩
  obtain ⟨m, hm⟩ := hfm
  refine ⟨m, hm, fun h₂ s₂ => post D h₂ tk ys hD (hl.at fun o e => s₂.extBut _ o hDC e).isList ?_ (sameBut_keep hk hC s₂.extBut)⟩
  exact hpr.mono fun _ _ y => hF _ _ _ _ (keepT_but s₂.extBut (Fm.noTup ⟨m, hm⟩)) y

theorem on_assign {scope : Scope} {cl : List (Str × Addr)} {x y : Str} {py : Pos} {ifs : List Expr} {elt : Expr} {ks : List Str} {p : Str → Bool} {F : Heap → Str → Value → Prop} {Q : Flow → Shared → Prop} (hF : ∀ h h' k y, KeepT h h' → F h k y → F h' k y)
    (fmL : Fm s.heap env.locals) (hy : env.kindOf y = some .local) (hp : (env.scope.kind == .class || (env.scope.kind == .module && env.locals != env.globals)) = false)
    (test : ∀ C k t s₃ E', k ∈ ks → Lv s₃.heap C x (.str k t) → Keep s.heap s₃.heap →
      wpAny (model prog w) A (forIn ifs true fun c r => if r = true then do let ok ← isTrue c (compEnvC scope cl C env) (eval c (compEnvC scope cl C env)); pure (ForInStep.yield ok) else pure (ForInStep.yield r))
        (fun ok s₄ => ok = p k ∧ Keeps s₃ s₄) E' s₃)
    (elt' : ∀ C k t s₃ E', k ∈ ks → p k = true → Lv s₃.heap C x (.str k t) → Keep s.heap s₃.heap →
      wpAny (model prog w) A (eval elt (compEnvC scope cl C env)) (fun y s₄ => F s₄.heap k y ∧ Keeps s₃ s₄) E' s₃)
    (post : ∀ D h' tk ys, s.heap.get? D = none → h'.IsList D ys → Paired (F h') (ks.filter p) ys.toList → Lv h' env.locals y (.ref D) → (∀ z v, z ≠ y → Lv s.heap env.locals z v → Lv h' env.locals z v) → Heap.ExtBut env.locals s.heap h' →
      Q .next { s with heap := h', toks := tk }) :
    CompOn prog w A env scope cl x ifs elt ks p F (compPost (model prog w) A E (some (assign (.Name y py) env)) (fun _ s' => Q .next s')) s := by
  refine ⟨test, elt', fun D C h' tk ys hD hC hDC hfm hl hpr hk => ?_⟩
  have hLC : env.locals ≠ C := by rintro rfl; obtain ⟨m, o, _, _, ho, _⟩ := fmL; rw [hC] at ho; cases ho
  have hLD : env.locals ≠ D := by rintro rfl; obtain ⟨m, o, _, _, ho, _⟩ := fmL; rw [hD] at ho; cases ho
  show wpAny _ A (assign (.Name y py) env (.ref D)) _ _ _
  refine wpAny_assign_Name (s_local (fmL.keeps hk) (fun h₂ l₂ u₂ s₂ => ?_) hy hp)
  obtain ⟨m, hm⟩ := hfm.but s₂.extBut (Ne.symm hLC)
  refine ⟨m, hm, fun h₃ s₃ => ?_⟩
  refine post D h₃ _ ys hD ((hl.at fun o e => s₂.extBut _ o (Ne.symm hLD) e).at fun o e => s₃.extBut _ o hDC e).isList ?_ (l₂.but s₃.extBut hLC) (fun z v hz l => (u₂ z v hz (l.keeps hk)).but s₃.extBut hLC) ?_
  · exact hpr.mono fun _ _ y => hF _ _ _ _ ((keepT_but s₂.extBut (fmL.keeps hk).noTup).trans (keepT_but s₃.extBut (Fm.noTup ⟨m, hm⟩))) y
  · intro b o hb e
    exact s₃.extBut b o (fun q => by rw [q, hC] at e; cases e) (s₂.extBut b o hb (hk b o e))
end
end Mine

namespace Mine
open PySem PySem.W PyProof.Rows PySem.Calls PySem.Spec

def T2 (h : Heap) (v : Value) (p : Str × Str) : Prop := ∃ T t1 t2, v = .ref T ∧ h.IsTuple T #[.str p.1 t1, .str p.2 t2]
theorem T2.t {h h' : Heap} {v p} (k : KeepT h h') (x : T2 h v p) : T2 h' v p := by
  obtain ⟨T, a, b, e, o, ho, hc, n, hd⟩ := x
  exact ⟨T, a, b, e, o, k _ _ _ _ ho hc hd, hc, n, hd⟩
def PairsL (h : Heap) (a : Addr) (xs : List (Str × Str)) : Prop := ∃ vs : List Value, h.IsList a vs.toArray ∧ Paired (T2 h) vs xs

theorem StrsL.keeps {h h' : Heap} {a xs} (x : StrsL h a xs) (k : Keep h h') : StrsL h' a xs := let ⟨vs, i, p⟩ := x; ⟨vs, i.at fun o e => k _ o e, p⟩
theorem SavL.keeps {h h' : Heap} {a xs} (x : SavL h a xs) (k : Keep h h') : SavL h' a xs := let ⟨vs, i, p⟩ := x; ⟨vs, i.at fun o e => k _ o e, p.mono fun _ _ y => y.keeps k⟩
theorem PairsL.keeps {h h' : Heap} {a xs} (x : PairsL h a xs) (k : Keep h h') : PairsL h' a xs := let ⟨vs, i, p⟩ := x; ⟨vs, i.at fun o e => k _ o e, p.mono fun _ _ y => y.t (Keep.t k)⟩

/-! what a change of an object that is no sequence leaves -/
def NoSeq (o : Obj) : Prop := ∀ xs n, o.data = .seq xs n → False
abbrev KeepS (h h' : Heap) : Prop := ∀ b o xs n, h.get? b = some o → o.data = .seq xs n → h'.get? b = some o
theorem Keep.s {h h' : Heap} (k : Keep h h') : KeepS h h' := fun b o _ _ e _ => k b o e
theorem keepS_but {h h' : Heap} {a : Addr} (k : Heap.ExtBut a h h') (ha : ∀ o, h.get? a = some o → NoSeq o) : KeepS h h' := fun b o xs n e d => k b o (fun q => ha o (q ▸ e) xs n d) e
theorem StrsL.s {h h' : Heap} {a xs} (x : StrsL h a xs) (k : KeepS h h') : StrsL h' a xs := by
  obtain ⟨vs, ⟨o, ho, hc, n, hd⟩, p⟩ := x
  exact ⟨vs, ⟨o, k _ _ _ _ ho hd, hc, n, hd⟩, p⟩
theorem T3.s {h h' : Heap} {v p} (k : KeepS h h') (x : T3 h v p) : T3 h' v p := by
  obtain ⟨T, a, b, c, e, o, ho, hc, n, hd⟩ := x
  exact ⟨T, a, b, c, e, o, k _ _ _ _ ho hd, hc, n, hd⟩
theorem SavL.s {h h' : Heap} {a xs} (x : SavL h a xs) (k : KeepS h h') : SavL h' a xs := by
  obtain ⟨vs, ⟨o, ho, hc, n, hd⟩, p⟩ := x
  exact ⟨vs, ⟨o, k _ _ _ _ ho hd, hc, n, hd⟩, p.mono fun _ _ y => T3.s k y⟩
theorem T2.s {h h' : Heap} {v p} (k : KeepS h h') (x : T2 h v p) : T2 h' v p := by
  obtain ⟨T, a, b, e, o, ho, hc, n, hd⟩ := x
  exact ⟨T, a, b, e, o, k _ _ _ _ ho hd, hc, n, hd⟩
theorem PairsL.s {h h' : Heap} {a xs} (x : PairsL h a xs) (k : KeepS h h') : PairsL h' a xs := by
  obtain ⟨vs, ⟨o, ho, hc, n, hd⟩, p⟩ := x
  exact ⟨vs, ⟨o, k _ _ _ _ ho hd, hc, n, hd⟩, p.mono fun _ _ y => T2.s k y⟩
theorem Fm.noSeq {h : Heap} {L : Addr} (x : Fm h L) : ∀ o, h.get? L = some o → NoSeq o := fun o e xs n d => by
  obtain ⟨m, o', es, ep, ho, hd, _⟩ := x
  rw [e] at ho; cases ho; rw [d] at hd; cases hd
theorem cell_noSeq {h : Heap} {c : Addr} {v : Option Value} (x : h.IsCell c v) : ∀ o, h.get? c = some o → NoSeq o := fun o e xs n d => by
  obtain ⟨o', ho, hd⟩ := x
  rw [e] at ho; cases ho; rw [d] at hd; cases hd
theorem SD.noSeq {prog : Program} {w : World} {h : Heap} {a : Addr} {d : Tbl} (x : SD prog w h a d) : ∀ o, h.get? a = some o → NoSeq o := fun o e xs n dd => by
  obtain ⟨kvs, ⟨o', es, ep, ho, _, hd, _⟩, _⟩ := x
  rw [e] at ho; cases ho; rw [dd] at hd; cases hd

/-! data -/
abbrev sOk (x : Str) : Prop := (PyData.str x).canLay0 = true
theorem strs_readsAll {h : Heap} : ∀ {vs : List Value} {xs : List Str}, StrsAre vs xs → ∃ as, ReadsAll h vs (xs.map PyData.str) as
  | _, _, .nil => ⟨[], .nil⟩
  | _, _, .cons y t r => let ⟨as, q⟩ := strs_readsAll r; ⟨_, .cons (.str y t) q⟩
theorem strsL_reads {h : Heap} {a xs} (x : StrsL h a xs) : ∃ as, Reads h (.ref a) (.list (xs.map PyData.str)) as := by
  obtain ⟨vs, ⟨o, ho, hc, n, hd⟩, p⟩ := x
  obtain ⟨as, q⟩ := strs_readsAll (h := h) p
  exact ⟨_, .list ho hc hd (by simpa using q)⟩
def dat2 (p : Str × Str) : PyData := .tuple [.str p.1, .str p.2]
theorem t2_reads {h : Heap} {v p} (x : T2 h v p) : ∃ as, Reads h v (dat2 p) as := by
  obtain ⟨T, t1, t2, rfl, o, ho, hc, n, hd⟩ := x
  exact ⟨_, .tuple ho hc hd (.cons (.str _ _) (.cons (.str _ _) .nil))⟩
theorem pairs_readsAll {h : Heap} : ∀ {vs : List Value} {xs : List (Str × Str)}, Paired (T2 h) vs xs → ∃ as, ReadsAll h vs (xs.map dat2) as
  | _, _, .nil => ⟨[], .nil⟩
  | _, _, .cons y r => let ⟨_, q⟩ := pairs_readsAll r; let ⟨_, z⟩ := t2_reads y; ⟨_, .cons z q⟩
theorem pairsL_reads {h : Heap} {a xs} (x : PairsL h a xs) : ∃ as, Reads h (.ref a) (.list (xs.map dat2)) as := by
  obtain ⟨vs, ⟨o, ho, hc, n, hd⟩, p⟩ := x
  obtain ⟨as, q⟩ := pairs_readsAll (h := h) p
  exact ⟨_, .list ho hc hd (by simpa using q)⟩
theorem strs_lay : ∀ (xs : List Str), (∀ x ∈ xs, sOk x) → PyData.canLayAll0 (xs.map PyData.str) = true
  | [], _ => rfl
  | x :: xs, h => by
    show ((PyData.str x).canLay0 && PyData.canLayAll0 (xs.map PyData.str)) = true
    rw [h x List.mem_cons_self, strs_lay xs fun y hy => h y (List.mem_cons_of_mem _ hy)]; rfl
theorem pairs_lay : ∀ (xs : List (Str × Str)), (∀ x ∈ xs, sOk x.1 ∧ sOk x.2) → PyData.canLayAll0 (xs.map dat2) = true
  | [], _ => rfl
  | x :: xs, h => by
    show (((PyData.str x.1).canLay0 && ((PyData.str x.2).canLay0 && true)) && PyData.canLayAll0 (xs.map dat2)) = true
    rw [(h x List.mem_cons_self).1, (h x List.mem_cons_self).2, pairs_lay xs fun y hy => h y (List.mem_cons_of_mem _ hy)]; rfl
theorem strs_depth : ∀ (xs : List Str), PyData.depthAll (xs.map PyData.str) = 0
  | [] => rfl
  | x :: xs => by show max 0 (PyData.depthAll (xs.map PyData.str)) = 0; rw [strs_depth xs]; rfl
theorem pairs_depth : ∀ (xs : List (Str × Str)), PyData.depthAll (xs.map dat2) ≤ 1
  | [] => by decide
  | x :: xs => by show max 1 (PyData.depthAll (xs.map dat2)) ≤ 1; have := pairs_depth xs; omega
theorem strs_eqv : ∀ (xs ys : List Str), PyData.eqvAll (xs.map PyData.str) (ys.map PyData.str) = decide (xs = ys)
  | [], [] => by simp [PyData.eqvAll]
  | [], _ :: _ => by simp [PyData.eqvAll]
  | _ :: _, [] => by simp [PyData.eqvAll]
  | a :: r, b :: t => by
    simp only [List.map_cons, PyData.eqvAll, PyData.eqv, strs_eqv r t]
    by_cases h : a = b <;> by_cases h' : r = t <;> simp [h, h']
theorem pairs_eqv : ∀ (xs ys : List (Str × Str)), PyData.eqvAll (xs.map dat2) (ys.map dat2) = decide (xs = ys)
  | [], [] => by simp [PyData.eqvAll]
  | [], _ :: _ => by simp [PyData.eqvAll]
  | _ :: _, [] => by simp [PyData.eqvAll]
  | (a, a') :: r, (b, b') :: t => by
    simp only [List.map_cons, PyData.eqvAll, dat2, PyData.eqv, pairs_eqv r t]
    have := pairs_eqv r t
    by_cases h : a = b <;> by_cases h2 : a' = b' <;> by_cases h' : r = t <;> simp_all

section
variable {prog : Program} {w : World} {A : Around} {E : Value → Shared → Prop} {s : Shared} {aT : Addr} {d : Tbl}

theorem m_ne_strs {a b : Addr} {xs ys : List Str} {Q : Value → Shared → Prop} (hu : A.units ≤ 1000) (ha : StrsL s.heap a xs) (hb : StrsL s.heap b ys) (ox : ∀ x ∈ xs, sOk x) (oy : ∀ x ∈ ys, sOk x)
    (h : Q (.bool (decide (xs ≠ ys))) s) : wpAny (model prog w) A (compareOp .NotEq (.ref a) (.ref b)) Q E s := by
  obtain ⟨_, ra⟩ := strsL_reads ha
  obtain ⟨_, rb⟩ := strsL_reads hb
  refine SeqAt.compareNe_reads ra rb (strs_lay _ ox) (strs_lay _ oy) ?_ ?_
  · show A.units + min (PyData.depthAll _ + 1) (PyData.depthAll _ + 1) < cLine
    rw [strs_depth, strs_depth, show cLine = 9900 from rfl]; omega
  · show Q (.bool (!PyData.eqvAll _ _)) s
    rw [strs_eqv]; simpa using h
theorem m_ne_pairs {a b : Addr} {xs ys : List (Str × Str)} {Q : Value → Shared → Prop} (hu : A.units ≤ 1000) (ha : PairsL s.heap a xs) (hb : PairsL s.heap b ys) (ox : ∀ x ∈ xs, sOk x.1 ∧ sOk x.2) (oy : ∀ x ∈ ys, sOk x.1 ∧ sOk x.2)
    (h : Q (.bool (decide (xs ≠ ys))) s) : wpAny (model prog w) A (compareOp .NotEq (.ref a) (.ref b)) Q E s := by
  obtain ⟨_, ra⟩ := pairsL_reads ha
  obtain ⟨_, rb⟩ := pairsL_reads hb
  refine SeqAt.compareNe_reads ra rb (pairs_lay _ ox) (pairs_lay _ oy) ?_ ?_
  · show A.units + min (PyData.depthAll _ + 1) (PyData.depthAll _ + 1) < cLine
    have e1 := pairs_depth xs
    have e2 := pairs_depth ys
    rw [show cLine = 9900 from rfl]; omega
  · show Q (.bool (!PyData.eqvAll _ _)) s
    rw [pairs_eqv]; simpa using h
theorem m_notin_list {a : Addr} {xs : List Str} {x : Str} {t : Tok} {Q : Value → Shared → Prop} (hu : A.units ≤ 1000) (ha : StrsL s.heap a xs) (ox : ∀ x ∈ xs, sOk x) (oy : sOk x)
    (h : Q (.bool (decide (x ∉ xs))) s) : wpAny (model prog w) A (compareOp .NotIn (.str x t) (.ref a)) Q E s := by
  obtain ⟨_, ra⟩ := strsL_reads ha
  refine SeqAt.notIn_list_reads ra (.str x t) (strs_lay _ ox) oy ?_ ?_
  · rw [strs_depth, show cLine = 9900 from rfl]; omega
  · have e : ((xs.map PyData.str).any fun y => PyData.eqv y (.str x)) = decide (x ∈ xs) := by
      rw [List.any_map]
      by_cases hx : x ∈ xs
      · rw [decide_eq_true hx, List.any_eq_true]
        exact ⟨x, hx, by simp [PyData.eqv]⟩
      · rw [decide_eq_false hx, List.any_eq_false]
        intro y hy
        have : y ≠ x := fun q => hx (q ▸ hy)
        simp [PyData.eqv, this]
    rw [e]; simpa using h
theorem m_cat {l b : Addr} {vs ws : List Value} {Q : Value → Shared → Prop} (hl : s.heap.IsList l vs.toArray) (hb : s.heap.IsList b ws.toArray) (hsz : vs.length + ws.length ≤ 10000)
    (h : Q (.ref s.heap.objs.size) { s with heap := s.heap.push { cls := .type "list", data := .seq (vs ++ ws).toArray } }) : wpAny (model prog w) A (binaryOp .Add (.ref l) (.ref b)) Q E s := by
  obtain ⟨⟨cls, dd, data, sl⟩, ho, hc, n, hd⟩ := id hl
  obtain ⟨⟨cls2, dd2, data2, sl2⟩, ho2, hc2, n2, hd2⟩ := id hb
  simp only at hc hd hc2 hd2
  subst hc hd hc2 hd2
  have e : vs.toArray ++ ws.toArray = (vs ++ ws).toArray := by simp
  refine concat_meets ⟨_, ho, rfl⟩ ⟨_, ho2, rfl⟩ noFill_list_add seq_list_add PySem.F.slot_list_add PySem.F.entry_list_add (PySem.F.args_list_add_2 _ _) (list_addW l b vs.toArray ws.toArray n n2 dd dd2 sl sl2 (by rw [sizeLine_eq]; simp only [List.size_toArray]; omega)) ⟨ho, ho2, ?_⟩
  rw [e]; exact h
theorem m_len_dict {Q : Value → Shared → Prop} (hlo : (aT == sysModules) = false) (hT : SD prog w s.heap aT d) (hd : d.length ≤ 1000) (h : ∀ t tk, Q (.int d.length t) { s with toks := tk }) :
    wpAny (model prog w) A (call (.builtin "len") [.ref aT]) Q E s := by
  obtain ⟨kvs, hD, hp⟩ := hT
  have e := hp.length
  exact call_len_dict hlo hD (by omega) (by rw [e]; exact h _ _)
theorem m_len_list {a : Addr} {ys : Array Value} {Q : Value → Shared → Prop} (ha : s.heap.IsList a ys) (hd : ys.size ≤ 1000) (h : ∀ t tk, Q (.int ys.size t) { s with toks := tk }) :
    wpAny (model prog w) A (call (.builtin "len") [.ref a]) Q E s := len_list ha (by omega) (h _ _)
end
end Mine

namespace Mine
open PySem PySem.W PyProof.Rows PySem.Calls PySem.Spec

def loopS : Stmt := nthS (bodyS defL) 5
def loopB : List Stmt := bodyS loopS
abbrev lenv (q : Str) (L fa : Addr) (cd : Value) : Env := envOfC q (scopeS defL) L fa cd

def NAMES : List Str := [Str.ofString "CC", Str.ofString "CFLAGS", Str.ofString "LDFLAGS", Str.ofString "A", Str.ofString ""]
def VALS : List Str := [Str.ofString "gcc", Str.ofString "clang", Str.ofString "", Str.ofString "-g"]

section
variable {M : Model} {A : Around} {E : Value → Shared → Prop} {s : Shared} {env : Env}
theorem callWith_fn {pos : Pos} {fa : Addr} {st : Stmt} {e : Expr} {rest : List Expr} {Q : Value → Shared → Prop} (hf : FnAt s.heap fa st)
    (h : wpAny M A (spliced (backTo pos (starEach (e :: rest) env))) (fun vs s₁ => Keep s.heap s₁.heap ∧ wpAny M A (call (.ref fa) vs) Q E s₁) E s)
    (he : starEach (e :: rest) env = (false, eval e env) :: starEach rest env := by rfl) :
    wpAny M A (callWith pos (.ref fa) [] (backTo pos (starEach (e :: rest) env)) []) Q E s := by
  obtain ⟨o, n, q, doc, pm, an, cdv, ct, ho, hd, hc⟩ := hf
  rw [he] at h ⊢
  exact Calls.callWith_function (o := o) (evalArgs_plain (wpAny_mono h (fun vs s₁ h₁ => ⟨⟨h₁.1 _ _ ho, hd⟩, h₁.2⟩) fun _ _ e => e))
end

/-- the law's data: the table, the plain table, the order, what was saved -/
structure Sg where
  tab : Tbl
  pl : Tbl
  ord : List Str
  sav : List (Str × Str × Str)

structure Fix (g : Heap) (L aT aP : Addr) : Prop where
  nL : g.get? L = none
  n1 : g.get? (L + 1) = none
  n2 : g.get? (L + 1 + 1) = none
  n3 : g.get? (L + 1 + 1 + 1) = none
  n4 : g.get? (L + 1 + 1 + 1 + 1) = none
  nT : g.get? aT = none
  nP : g.get? aP = none
  dTP : aT ≠ aP
  lT : L + 1 + 1 + 1 + 1 < aT
  lP : L + 1 + 1 + 1 + 1 < aP
  oT : (aT == sysModules) = false
  oP : (aP == sysModules) = false

structure St (prog : Program) (w : World) (g : Heap) (L aN aT aP : Addr) (σ : Sg) (h : Heap) : Prop where
  keep : Keep g h
  names : Lv h L (Str.ofString "names") (.ref aN)
  namesL : StrsL h aN NAMES
  ord : ∃ aO, Lv h L (Str.ofString "order") (.ref aO) ∧ StrsL h aO σ.ord
  cT : h.IsCell (L + 1) (some (.ref aT))
  cP : h.IsCell (L + 1 + 1) (some (.ref aP))
  cS : ∃ aS, h.IsCell (L + 1 + 1 + 1) (some (.ref aS)) ∧ SavL h aS σ.sav
  cN : ∃ v, h.IsCell (L + 1 + 1 + 1 + 1) v
  tab : SD prog w h aT σ.tab
  pl : SD prog w h aP σ.pl

section
variable {prog : Program} {w : World} {g h h' : Heap} {L aN aT aP : Addr} {σ : Sg}

theorem keep_but {a : Addr} (k : Keep g h) (hn : g.get? a = none) (e : Heap.ExtBut a h h') : Keep g h' := sameBut_keep k hn e

theorem St.keeps (x : St prog w g L aN aT aP σ h) (k : Keep h h') : St prog w g L aN aT aP σ h' :=
  ⟨Keep.trans x.keep k, x.names.keeps k, x.namesL.keeps k, let ⟨a, b, c⟩ := x.ord; ⟨a, b.keeps k, c.keeps k⟩, x.cT.keeps k, x.cP.keeps k, let ⟨a, b, c⟩ := x.cS; ⟨a, b.keeps k, c.keeps k⟩,
    let ⟨v, c⟩ := x.cN; ⟨v, c.keeps k⟩, x.tab.keeps k, x.pl.keeps k⟩

theorem cell_but {a c : Addr} {v : Option Value} (x : h.IsCell c v) (e : Heap.ExtBut a h h') (ne : c ≠ a) : h'.IsCell c v := let ⟨o, ho, hd⟩ := x; ⟨o, e c o ne ho, hd⟩

/-- a local other than names and order is stored -/
theorem St.loc (x : St prog w g L aN aT aP σ h) (X : Fix g L aT aP) {y : Str} (u : ∀ z v, z ≠ y → Lv h L z v → Lv h' L z v) (e : Heap.ExtBut L h h') (y1 : Str.ofString "names" ≠ y) (y2 : Str.ofString "order" ≠ y) : St prog w g L aN aT aP σ h' := by
  have ks := keepS_but e x.names.fm.noSeq
  have hL : ∀ k : Nat, 0 < k → @Ne Nat (L + k) L := fun k hk => by omega
  exact ⟨keep_but x.keep X.nL e, u _ _ y1 x.names, x.namesL.s ks, let ⟨a, b, c⟩ := x.ord; ⟨a, u _ _ y2 b, c.s ks⟩, cell_but x.cT e (hL 1 (by decide)), cell_but x.cP e (hL 2 (by decide)),
    let ⟨a, b, c⟩ := x.cS; ⟨a, cell_but b e (hL 3 (by decide)), c.s ks⟩, let ⟨v, c⟩ := x.cN; ⟨v, cell_but c e (hL 4 (by decide))⟩,
    x.tab.but e (Nat.ne_of_gt (Nat.lt_trans (by omega) X.lT)), x.pl.but e (Nat.ne_of_gt (Nat.lt_trans (by omega) X.lP))⟩
/-- order is stored anew -/
theorem St.order (x : St prog w g L aN aT aP σ h) (X : Fix g L aT aP) {aO : Addr} {od : List Str} (l : Lv h' L (Str.ofString "order") (.ref aO)) (hO : StrsL h aO od) (u : ∀ z v, z ≠ Str.ofString "order" → Lv h L z v → Lv h' L z v) (e : Heap.SameBut L h h') :
    St prog w g L aN aT aP { σ with ord := od } h' := by
  have ks := keepS_but e.extBut x.names.fm.noSeq
  have hL : ∀ k : Nat, 0 < k → @Ne Nat (L + k) L := fun k hk => by omega
  exact ⟨keep_but x.keep X.nL e.extBut, u _ _ (by decide) x.names, x.namesL.s ks, ⟨aO, l, hO.s ks⟩, cell_but x.cT e.extBut (hL 1 (by decide)), cell_but x.cP e.extBut (hL 2 (by decide)),
    let ⟨a, b, c⟩ := x.cS; ⟨a, cell_but b e.extBut (hL 3 (by decide)), c.s ks⟩, let ⟨v, c⟩ := x.cN; ⟨v, cell_but c e.extBut (hL 4 (by decide))⟩,
    x.tab.but e.extBut (Nat.ne_of_gt (Nat.lt_trans (by omega) X.lT)), x.pl.but e.extBut (Nat.ne_of_gt (Nat.lt_trans (by omega) X.lP))⟩
/-- the cell of name is stored -/
theorem St.nameC (x : St prog w g L aN aT aP σ h) (X : Fix g L aT aP) {v : Option Value} (c : h'.IsCell (L + 1 + 1 + 1 + 1) v) (e : Heap.SameBut (L + 1 + 1 + 1 + 1) h h') : St prog w g L aN aT aP σ h' := by
  obtain ⟨v₀, c₀⟩ := x.cN
  have ks := keepS_but e.extBut (cell_noSeq c₀)
  have hL : ∀ k : Nat, k < 4 → @Ne Nat (L + k) (L + 1 + 1 + 1 + 1) := fun k hk => by omega
  exact ⟨keep_but x.keep X.n4 e.extBut, x.names.but e.extBut (hL 0 (by decide)), x.namesL.s ks, let ⟨a, b, c⟩ := x.ord; ⟨a, b.but e.extBut (hL 0 (by decide)), c.s ks⟩, cell_but x.cT e.extBut (hL 1 (by decide)), cell_but x.cP e.extBut (hL 2 (by decide)),
    let ⟨a, b, c⟩ := x.cS; ⟨a, cell_but b e.extBut (hL 3 (by decide)), c.s ks⟩, ⟨v, c⟩,
    x.tab.but e.extBut (Nat.ne_of_gt X.lT), x.pl.but e.extBut (Nat.ne_of_gt X.lP)⟩
/-- saved is stored anew -/
theorem St.savC (x : St prog w g L aN aT aP σ h) (X : Fix g L aT aP) {aS : Addr} {sv : List (Str × Str × Str)} (c : h'.IsCell (L + 1 + 1 + 1) (some (.ref aS))) (hS : SavL h aS sv) (e : Heap.SameBut (L + 1 + 1 + 1) h h') :
    St prog w g L aN aT aP { σ with sav := sv } h' := by
  obtain ⟨a₀, c₀, _⟩ := x.cS
  have ks := keepS_but e.extBut (cell_noSeq c₀)
  have hL : ∀ k : Nat, k < 3 → @Ne Nat (L + k) (L + 1 + 1 + 1) := fun k hk => by omega
  exact ⟨keep_but x.keep X.n3 e.extBut, x.names.but e.extBut (hL 0 (by decide)), x.namesL.s ks, let ⟨a, b, c⟩ := x.ord; ⟨a, b.but e.extBut (hL 0 (by decide)), c.s ks⟩, cell_but x.cT e.extBut (hL 1 (by decide)), cell_but x.cP e.extBut (hL 2 (by decide)),
    ⟨aS, c, hS.s ks⟩, let ⟨v, c⟩ := x.cN; ⟨v, cell_but c e.extBut (show @Ne Nat (L + 1 + 1 + 1 + 1) (L + 1 + 1 + 1) by omega)⟩,
    x.tab.but e.extBut (Nat.ne_of_gt (Nat.lt_trans (by omega) X.lT)), x.pl.but e.extBut (Nat.ne_of_gt (Nat.lt_trans (by omega) X.lP))⟩
/-- the table is changed -/
theorem St.tabD (x : St prog w g L aN aT aP σ h) (X : Fix g L aT aP) {d : Tbl} (t : SD prog w h' aT d) (e : Heap.ExtBut aT h h') : St prog w g L aN aT aP { σ with tab := d } h' := by
  have ks := keepS_but e x.tab.noSeq
  have hL : ∀ k : Nat, k < 5 → (L + k : Nat) ≠ aT := fun k hk => Nat.ne_of_lt (Nat.lt_of_le_of_lt (by omega) X.lT)
  exact ⟨keep_but x.keep X.nT e, x.names.but e (hL 0 (by decide)), x.namesL.s ks, let ⟨a, b, c⟩ := x.ord; ⟨a, b.but e (hL 0 (by decide)), c.s ks⟩, cell_but x.cT e (hL 1 (by decide)), cell_but x.cP e (hL 2 (by decide)),
    let ⟨a, b, c⟩ := x.cS; ⟨a, cell_but b e (hL 3 (by decide)), c.s ks⟩, let ⟨v, c⟩ := x.cN; ⟨v, cell_but c e (hL 4 (by decide))⟩, t, x.pl.but e (Ne.symm X.dTP)⟩
/-- the plain table is changed -/
theorem St.plD (x : St prog w g L aN aT aP σ h) (X : Fix g L aT aP) {d : Tbl} (t : SD prog w h' aP d) (e : Heap.ExtBut aP h h') : St prog w g L aN aT aP { σ with pl := d } h' := by
  have ks := keepS_but e x.pl.noSeq
  have hL : ∀ k : Nat, k < 5 → (L + k : Nat) ≠ aP := fun k hk => Nat.ne_of_lt (Nat.lt_of_le_of_lt (by omega) X.lP)
  exact ⟨keep_but x.keep X.nP e, x.names.but e (hL 0 (by decide)), x.namesL.s ks, let ⟨a, b, c⟩ := x.ord; ⟨a, b.but e (hL 0 (by decide)), c.s ks⟩, cell_but x.cT e (hL 1 (by decide)), cell_but x.cP e (hL 2 (by decide)),
    let ⟨a, b, c⟩ := x.cS; ⟨a, cell_but b e (hL 3 (by decide)), c.s ks⟩, let ⟨v, c⟩ := x.cN; ⟨v, cell_but c e (hL 4 (by decide))⟩, x.tab.but e X.dTP, t⟩
end
end Mine

namespace Mine
open PySem PySem.W PyProof.Rows PySem.Calls PySem.Spec

def stepR (σ : Sg) : Sg := { σ with tab := σ.tab.filter (fun p => np p.1), sav := [] }
def stepS (σ : Sg) (nm nw : Str) : Sg :=
  { tab := saveD σ.tab nm nw, pl := put σ.pl nm nw, ord := if nm ∈ σ.ord then σ.ord else σ.ord ++ [nm], sav := σ.sav ++ [(nm, (look σ.pl nm).getD (Str.ofString ""), nw)] }

section
variable {prog : Program} {w : World} {A : Around} {E : Value → Shared → Prop} {s : Shared} {g : Heap} {mg mb : Str → Option Value} {fR fS fO L aN aT aP : Addr} {σ : Sg} {q : Str} {fa : Addr} {cd : Value}

theorem deed_rm {Q : Flow → Shared → Prop} (hroom : A.depth < recursionLimit) (hh : A.handled = none) (G : Gl g mg mb fR fS fO) (X : Fix g L aT aP) (x : St prog w g L aN aT aP σ s.heap) (hlen : σ.tab.length ≤ 900)
    (h : ∀ h' tk, St prog w g L aN aT aP (stepR σ) h' → Lv h' L (Str.ofString "answer") .none → Q .next { s with heap := h', toks := tk }) :
    wpAny (model prog w) A (execs (bodyS (nthS loopB 1)) (lenv q L fa cd)) Q E s := by
  have Gs := G.keeps x.keep
  refine wpAny_execs_cons (wpAny_Assign_Name (wpAny_Call_Name_kw (e_global Gs.g Gs.nR (callWith_fn Gs.aR (spliced_more (e_cell rfl x.cT (spliced_none ⟨Keep.refl _, spec_remove hroom hh G x.keep X.nT x.tab X.oT hlen fun h₁ tk₁ e₁ t₁ => ?_⟩)))))))
  have x₁ := x.tabD X t₁ e₁
  refine s_local x₁.names.fm fun h₂ l₂ u₂ s₂ => ?_
  have x₂ := x₁.loc X u₂ s₂.extBut (by decide) (by decide)
  obtain ⟨aS, cS, _⟩ := x₂.cS
  refine wpAny_execs_cons (wpAny_Assign_Name (List_ (spliced_none (wpAny_newObj_type (wpAny_storeName_cell rfl rfl rfl (cS.keeps (Keep.push _ _)) fun h₃ c₃ s₃ => wpAny_execs_nil ?_)))))
  have x₃ := (x₂.keeps (Keep.push _ _)).savC X (sv := []) c₃ ⟨[], ⟨_, Heap.get?_push_size _ rfl, rfl, _, rfl⟩, .nil⟩ s₃
  exact h _ _ x₃ ((l₂.keeps (Keep.push _ _)).but s₃.extBut (show @Ne Nat L (L + 1 + 1 + 1) by omega))

theorem m_item {value slice : Expr} {l : Addr} {vs : List Value} {ws : List Str} {i : Int} {u : Tok} {Q : Value → Shared → Prop} (hl : s.heap.IsList l vs.toArray) (hw : StrsAre vs ws) (h0 : 0 ≤ i) (h1 : i < ws.length) (hfit : ws.length ≤ 1000)
    (h : ∀ t' y, y ∈ ws → Q (.str y t') s)
    (hs : subscripted slice false (.ref l) (.int i u) = operate [.ref l, .int i u] (getItem (.ref l) (.int i u)) := by with_unfolding_all rfl) :
    wpAny (model prog w) A (subscriptTail value slice (.ref l) (.int i u)) Q E s :=
  KTb.item_list hl hw h0 h1 (by omega) (fun t hlt => h t _ (by rw [List.getD_eq_getElem?_getD, List.getElem?_eq_getElem hlt]; exact List.getElem_mem hlt)) hs

def els : List Stmt := elseS (nthS loopB 1)

theorem sv_a {Q : Flow → Shared → Prop} {nm nw : Str} {tn tw : Tok} (X : Fix g L aT aP) (x : St prog w g L aN aT aP σ s.heap)
    (hn : s.heap.IsCell (L + 1 + 1 + 1 + 1) (some (.str nm tn))) (hw : Lv s.heap L (Str.ofString "new") (.str nw tw)) (hsv : σ.sav.length ≤ 900)
    (h : ∀ h' tk, St prog w g L aN aT aP { σ with sav := σ.sav ++ [(nm, (look σ.pl nm).getD (Str.ofString ""), nw)] } h' → h'.IsCell (L + 1 + 1 + 1 + 1) (some (.str nm tn)) → Lv h' L (Str.ofString "new") (.str nw tw) → Q .next { s with heap := h', toks := tk }) :
    wpAny (model prog w) A (exec (nthS els 2) (lenv q L fa cd)) Q E s := by
  obtain ⟨aS, cS, vs, hl, hp⟩ := x.cS
  refine wpAny_Assign_Name (wpAny_BinOp (e_cell rfl cS (List_ (spliced_more (Tuple_ (spliced_more (e_cell rfl hn (spliced_more (MethodCall_ (e_cell rfl x.cP (m_getM x.pl ?_)))))))))))
  refine callWith_method1 (spliced_more (e_cell rfl hn (spliced_more (wpAny_Constant_str (spliced_none (m_get X.oP x.pl fun u₁ tk₁ => ?_))))))
  refine spliced_more (e_local hw (spliced_none (wpAny_newObj_type (spliced_none (wpAny_newObj_type ?_)))))
  have k₁ := Keep.trans (Keep.push s.heap { cls := Value.type "tuple", data := Data.seq #[Value.str nm tn, Value.str ((look σ.pl nm).getD (Str.ofString "")) u₁, Value.str nw tw] }) (Keep.push _ { cls := Value.type "list", data := Data.seq #[Value.ref s.heap.objs.size] })
  refine m_cat (ws := [Value.ref s.heap.objs.size]) (hl.at fun o e => k₁ _ o e) ⟨_, Heap.get?_push_size _ rfl, rfl, _, rfl⟩ (by have := hp.length; simp only [List.length_singleton]; omega) ?_
  have k₂ := Keep.trans k₁ (Keep.push _ { cls := Value.type "list", data := Data.seq (vs ++ [Value.ref s.heap.objs.size]).toArray })
  refine wpAny_storeName_cell rfl rfl rfl (cS.keeps k₂) fun h₃ c₃ s₃ => ?_
  refine h _ _ ((x.keeps k₂).savC X c₃ ⟨_, ⟨_, Heap.get?_push_size _ rfl, rfl, _, rfl⟩, (hp.mono fun _ _ y => y.keeps k₂).snoc ⟨s.heap.objs.size, tn, u₁, tw, rfl, ⟨_, Keep.trans (Keep.push _ _) (Keep.push _ _) _ _ (Heap.get?_push_size _ rfl), rfl, _, rfl⟩⟩⟩ s₃)
    (cell_but (hn.keeps k₂) s₃.extBut (show @Ne Nat (L + 1 + 1 + 1 + 1) (L + 1 + 1 + 1) by omega)) ((hw.keeps k₂).but s₃.extBut (show @Ne Nat L (L + 1 + 1 + 1) by omega))

theorem sv_b {Q : Flow → Shared → Prop} {nm nw : Str} {tn tw : Tok} (G : Gl g mg mb fR fS fO) (X : Fix g L aT aP) (x : St prog w g L aN aT aP σ s.heap)
    (hn : s.heap.IsCell (L + 1 + 1 + 1 + 1) (some (.str nm tn))) (hw : Lv s.heap L (Str.ofString "new") (.str nw tw)) (hpl : σ.pl.length ≤ 900)
    (h : ∀ h' tk, St prog w g L aN aT aP { σ with pl := put σ.pl nm nw } h' → h'.IsCell (L + 1 + 1 + 1 + 1) (some (.str nm tn)) → Lv h' L (Str.ofString "new") (.str nw tw) → Q .next { s with heap := h', toks := tk }) :
    wpAny (model prog w) A (exec (nthS els 3) (lenv q L fa cd)) Q E s := by
  obtain ⟨kvs, hD, hp⟩ := id x.pl
  have hlim := G.lim.keeps x.keep
  have bD : s.heap.get? s.heap.objs.size = none := none_at_size (Nat.le_refl _)
  have nDP : aP ≠ s.heap.objs.size := by obtain ⟨o, es, ep, ho, _⟩ := hD; exact Nat.ne_of_lt (Heap.lt_size ho)
  have oD : (s.heap.objs.size == sysModules) = false := by
    have := modules_low hlim
    exact beq_eq_false_iff_ne.mpr (Nat.ne_of_gt this)
  have k₁ : Keep s.heap (s.heap.push { cls := .type "dict", data := .dict #[] }) := Keep.push _ _
  refine wpAny_Expr_any (MethodCall_ (e_cell rfl x.cP (getMethod_builtin hD.typeIs PySem.F.plainAttrs_dict PySem.F.slot_dict_update PySem.F.type_dict_update hD.mapOf.noDict ?_)))
  refine callWith_method1 (spliced_more (wpAny_Dict_walk (knd := PySem.strKind prog w) rfl rfl (by simp) (by decide) ?_))
  refine evalPairs_cons (e_cell rfl (hn.keeps k₁) (wpAny_bind (e_local (hw.keeps k₁) (wpAny_bind (wpAny_standAt (wpAny_pure (evalPairs_nil ?_)))))))
  refine ⟨[(nm, .str nw tw)], ⟨strKind_is _ _ _ _, rfl, trivial⟩, Heap.DictOf.new _, fun h₂ d₂ s₂ => spliced_none ?_⟩
  have k₂ : Keep s.heap h₂ := sameBut_keep k₁ bD s₂.extBut
  have hD₂ := hD.keep k₂
  refine call_meetsIn (T := "dict") PySem.F.slot_dict_update hD₂.typeIs PySem.F.entry_dict_update (PySem.F.args_dict_update_2 _ _) (meets_dict_update (PySem.strKind prog w) aP s.heap.objs.size nDP oD) ⟨kvs, _, hD₂, d₂, ?_, fun h₃ a₃ _ s₃ => ?_⟩
  · have := hp.length
    show kvs.length + 1 ≤ sizeLine
    rw [sizeLine_eq]; omega
  · have x₃ := (x.keeps k₂).plD X ⟨_, a₃, sv_stored hp⟩ s₃.extBut
    exact h _ _ x₃ (cell_but (hn.keeps k₂) s₃.extBut (Nat.ne_of_lt X.lP)) ((hw.keeps k₂).but s₃.extBut (Nat.ne_of_lt (Nat.lt_trans (by omega) X.lP)))

theorem sv_c {Q : Flow → Shared → Prop} {nm nw : Str} {tn tw : Tok} (hu : A.units ≤ 1000) (X : Fix g L aT aP) (x : St prog w g L aN aT aP σ s.heap)
    (hn : s.heap.IsCell (L + 1 + 1 + 1 + 1) (some (.str nm tn))) (hw : Lv s.heap L (Str.ofString "new") (.str nw tw)) (hor : σ.ord.length ≤ 900) (oko : ∀ y ∈ σ.ord, sOk y) (okn : sOk nm)
    (h : ∀ h' tk, St prog w g L aN aT aP { σ with ord := if nm ∈ σ.ord then σ.ord else σ.ord ++ [nm] } h' → h'.IsCell (L + 1 + 1 + 1 + 1) (some (.str nm tn)) → Lv h' L (Str.ofString "new") (.str nw tw) → Q .next { s with heap := h', toks := tk }) :
    wpAny (model prog w) A (exec (nthS els 4) (lenv q L fa cd)) Q E s := by
  obtain ⟨aO, lO, hO⟩ := x.ord
  refine wpAny_If (wpAny_isTrue_Compare1 (e_cell rfl hn (e_local lO (m_notin_list hu hO oko okn (wpAny_truthy_bool ?_)))))
  by_cases hm : nm ∈ σ.ord
  · rw [if_neg (by simpa using hm)]
    refine wpAny_execs_nil (h s.heap _ ?_ hn hw)
    rw [if_pos hm]; exact x
  · rw [if_pos (by simpa using hm)]
    obtain ⟨vs, hl, hs⟩ := hO
    refine wpAny_execs_cons (wpAny_Assign_Name (wpAny_BinOp (e_local lO (List_ (spliced_more (e_cell rfl hn (spliced_none (wpAny_newObj_type ?_))))))))
    have k₁ := Keep.push s.heap { cls := Value.type "list", data := Data.seq #[Value.str nm tn] }
    refine m_cat (ws := [Value.str nm tn]) (hl.at fun o e => k₁ _ o e) ⟨_, Heap.get?_push_size _ rfl, rfl, _, rfl⟩ (by have := hs.length; simp only [List.length_singleton]; omega) ?_
    have k₂ := Keep.trans k₁ (Keep.push _ { cls := Value.type "list", data := Data.seq (vs ++ [Value.str nm tn]).toArray })
    refine s_local (x.names.fm.keeps k₂) fun h₃ l₃ u₃ s₃ => wpAny_execs_nil ?_
    refine h _ _ ?_ (cell_but (hn.keeps k₂) s₃.extBut (show @Ne Nat (L + 1 + 1 + 1 + 1) L by omega)) (u₃ _ _ (by decide) (hw.keeps k₂))
    rw [if_neg hm]
    exact (x.keeps k₂).order X l₃ ⟨_, ⟨_, Heap.get?_push_size _ rfl, rfl, _, rfl⟩, StrsAre.append' hs (.cons _ _ .nil)⟩ u₃ s₃

theorem sv_d {Q : Flow → Shared → Prop} {nm nw : Str} {tn tw : Tok} (hroom : A.depth < recursionLimit) (G : Gl g mg mb fR fS fO) (X : Fix g L aT aP) (x : St prog w g L aN aT aP σ s.heap)
    (hn : s.heap.IsCell (L + 1 + 1 + 1 + 1) (some (.str nm tn))) (hw : Lv s.heap L (Str.ofString "new") (.str nw tw)) (hlen : σ.tab.length ≤ 900) (hnl : nm.length ≤ 100)
    (h : ∀ h' tk, St prog w g L aN aT aP { σ with tab := saveD σ.tab nm nw } h' → Lv h' L (Str.ofString "answer") .none → Q .next { s with heap := h', toks := tk }) :
    wpAny (model prog w) A (exec (nthS els 5) (lenv q L fa cd)) Q E s := by
  have Gs := G.keeps x.keep
  refine wpAny_Assign_Name (wpAny_Call_Name_kw (e_global Gs.g Gs.nS (callWith_fn Gs.aS (spliced_more (e_cell rfl x.cT (spliced_more (e_cell rfl hn (spliced_more (e_local hw (spliced_none ⟨Keep.refl _, spec_save hroom G x.keep X.nT x.tab X.oT hnl hlen fun h₁ tk₁ e₁ t₁ => ?_⟩))))))))))
  have x₁ := x.tabD X t₁ e₁
  refine s_local x₁.names.fm fun h₂ l₂ u₂ s₂ => ?_
  exact h _ _ (x₁.loc X u₂ s₂.extBut (by decide) (by decide)) l₂

theorem names_facts : ∀ n ∈ NAMES, sOk n ∧ n.length ≤ 100 := by decide +kernel

theorem deed_sv2 {Q : Flow → Shared → Prop} {nm nw : Str} {tn tw : Tok} (hu : A.units ≤ 1000) (hroom : A.depth < recursionLimit) (hh : A.handled = none) (G : Gl g mg mb fR fS fO) (X : Fix g L aT aP) (x : St prog w g L aN aT aP σ s.heap)
    (hnm : nm ∈ NAMES) (hn : s.heap.IsCell (L + 1 + 1 + 1 + 1) (some (.str nm tn))) (hw : Lv s.heap L (Str.ofString "new") (.str nw tw)) (hlen : σ.tab.length ≤ 900) (hpl : σ.pl.length ≤ 900) (hsv : σ.sav.length ≤ 900) (hor : σ.ord.length ≤ 900) (oko : ∀ y ∈ σ.ord, sOk y)
    (h : ∀ h' tk, St prog w g L aN aT aP (stepS σ nm nw) h' → Lv h' L (Str.ofString "answer") .none → Q .next { s with heap := h', toks := tk }) :
    wpAny (model prog w) A (execs (els.drop 2) (lenv q L fa cd)) Q E s := by
  obtain ⟨okn, nl⟩ := names_facts nm hnm
  refine wpAny_execs_cons (sv_a X x hn hw hsv fun h₁ tk₁ x₁ n₁ w₁ => ?_)
  refine wpAny_execs_cons (sv_b G X x₁ n₁ w₁ hpl fun h₂ tk₂ x₂ n₂ w₂ => ?_)
  refine wpAny_execs_cons (sv_c hu X x₂ n₂ w₂ hor oko okn fun h₃ tk₃ x₃ n₃ w₃ => ?_)
  refine wpAny_execs_cons (sv_d hroom G X x₃ n₃ w₃ hlen nl fun h₄ tk₄ x₄ l₄ => ?_)
  exact wpAny_execs_nil (h _ _ x₄ l₄)

theorem deed_sv {Q : Flow → Shared → Prop} {r : Int} {tr : Tok} (hu : A.units ≤ 1000) (hroom : A.depth < recursionLimit) (hh : A.handled = none) (G : Gl g mg mb fR fS fO) (X : Fix g L aT aP) (x : St prog w g L aN aT aP σ s.heap)
    (hr : Lv s.heap L (Str.ofString "rest") (.int r tr)) (hlen : σ.tab.length ≤ 900) (hpl : σ.pl.length ≤ 900) (hsv : σ.sav.length ≤ 900) (hor : σ.ord.length ≤ 900) (oko : ∀ y ∈ σ.ord, sOk y)
    (h : ∀ h' tk nm nw, nm ∈ NAMES → nw ∈ VALS → St prog w g L aN aT aP (stepS σ nm nw) h' → Lv h' L (Str.ofString "answer") .none → Q .next { s with heap := h', toks := tk }) :
    wpAny (model prog w) A (execs (elseS (nthS loopB 1)) (lenv q L fa cd)) Q E s := by
  obtain ⟨nvs, hN, hNs⟩ := x.namesL
  have b5 : 0 ≤ Int.fmod r 5 ∧ Int.fmod r 5 < 5 := ⟨Int.fmod_nonneg_of_pos _ (by decide), Int.fmod_lt_of_pos _ (by decide)⟩
  refine wpAny_execs_cons (wpAny_Assign_Name (Subscript_ (e_local x.names (wpAny_BinOp (e_local hr (wpAny_Constant_int (mod_int' (by decide) (m_item hN hNs b5.1 (by exact b5.2) (by decide) fun tn nm hnm => ?_))))))))
  obtain ⟨v₀, c₀⟩ := x.cN
  refine wpAny_storeName_cell rfl rfl rfl c₀ fun h₁ c₁ s₁ => ?_
  have x₁ := x.nameC X c₁ s₁
  have r₁ := hr.but s₁.extBut (show @Ne Nat L (L + 1 + 1 + 1 + 1) by omega)
  have b4 : 0 ≤ Int.fmod (Int.fdiv r 5) 4 ∧ Int.fmod (Int.fdiv r 5) 4 < 4 := ⟨Int.fmod_nonneg_of_pos _ (by decide), Int.fmod_lt_of_pos _ (by decide)⟩
  refine wpAny_execs_cons (wpAny_Assign_Name (Subscript_ (List_ ?_)))
  refine spliced_more (wpAny_Constant_str ?_)
  refine spliced_more (wpAny_Constant_str ?_)
  refine spliced_more (wpAny_Constant_str ?_)
  refine spliced_more (wpAny_Constant_str ?_)
  refine spliced_none (wpAny_newObj_type ?_)
  refine wpAny_BinOp (wpAny_BinOp (e_local (r₁.keeps (Keep.push _ _)) ?_))
  refine wpAny_Constant_int (floordiv_int (by decide) ?_)
  refine wpAny_Constant_int (mod_int' (by decide) ?_)
  refine m_item (ws := VALS) ⟨_, Heap.get?_push_size _ rfl, rfl, _, rfl⟩ (.cons _ _ (.cons _ _ (.cons _ _ (.cons _ _ .nil)))) b4.1 (by exact b4.2) (by decide) fun tw nw hnw => ?_
  refine s_local (x₁.names.fm.keeps (Keep.push _ _)) fun h₃ l₃ u₃ s₃ => ?_
  exact deed_sv2 hu hroom hh G X (x := (x₁.keeps (Keep.push _ _)).loc X u₃ s₃.extBut (by decide) (by decide)) hnm (cell_but (c₁.keeps (Keep.push _ _)) s₃.extBut (show @Ne Nat (L + 1 + 1 + 1 + 1) L by omega)) l₃ hlen hpl hsv hor oko
    fun h' tk x' l' => h h' tk nm nw hnm hnw x' l'
end
end Mine

namespace Mine
open PySem PySem.W PyProof.Rows PySem.Calls PySem.Spec

theorem it_t {P Q : Prop} (h : P) : if true = true then P else Q := h
theorem it_f {P Q : Prop} (h : Q) : if false = true then P else Q := h

section
variable {prog : Program} {w : World} {A : Around} {E : Value → Shared → Prop} {s : Shared} {g : Heap} {mg mb : Str → Option Value} {fR fS fO L aN aT aP : Addr} {σ : Sg} {q : Str} {fa : Addr} {cd : Value}

def Step (σ σ' : Sg) : Prop := σ' = stepR σ ∨ ∃ nm nw, nm ∈ NAMES ∧ nw ∈ VALS ∧ σ' = stepS σ nm nw

set_option maxHeartbeats 1000000 in
theorem deed {Q : Flow → Shared → Prop} {v : Int} {tv : Tok} (hu : A.units ≤ 1000) (hroom : A.depth < recursionLimit) (hh : A.handled = none) (G : Gl g mg mb fR fS fO) (X : Fix g L aT aP) (x : St prog w g L aN aT aP σ s.heap)
    (hv : Lv s.heap L (Str.ofString "v") (.int v tv)) (hlen : σ.tab.length ≤ 900) (hpl : σ.pl.length ≤ 900) (hsv : σ.sav.length ≤ 900) (hor : σ.ord.length ≤ 900) (oko : ∀ y ∈ σ.ord, sOk y)
    (h : ∀ h' tk σ', Step σ σ' → St prog w g L aN aT aP σ' h' → Lv h' L (Str.ofString "answer") .none → wpAny (model prog w) A (execs (loopB.drop 2) (lenv q L fa cd)) Q E { s with heap := h', toks := tk }) :
    wpAny (model prog w) A (execs loopB (lenv q L fa cd)) Q E s := by
  refine wpAny_execs_cons (wpAny_Assign_Name (wpAny_BinOp (e_local hv (wpAny_Constant_int (floordiv_int (by decide) ?_)))))
  refine s_local x.names.fm fun h₁ l₁ u₁ s₁ => ?_
  have x₁ := x.loc X u₁ s₁.extBut (by decide) (by decide)
  have v₁ := u₁ _ _ (by decide) hv
  refine wpAny_execs_cons (wpAny_If (isTrue_and (wpAny_isTrue_Compare1 (wpAny_BinOp (e_local v₁ (wpAny_Constant_int (mod_int' (by decide) (wpAny_Constant_int (eq_int (wpAny_truthy_bool ?_))))))))))
  have sv : ∀ tk, wpAny (model prog w) A (execs els (lenv q L fa cd)) (fun f s' => match f with | .next => wpAny (model prog w) A (execs (loopB.drop 2) (lenv q L fa cd)) Q E s' | f => Q f s') E { s with heap := h₁, toks := tk } := fun tk =>
    deed_sv hu hroom hh G X x₁ l₁ hlen hpl hsv hor oko fun h' tk' nm nw hn hw x' l' => h _ _ _ (.inr ⟨nm, nw, hn, hw, rfl⟩) x' l'
  cases hc : (Int.fmod v 4 == 3) with
  | false =>
    exact it_f (it_f (sv _))
  | true =>
    refine it_t (isTrue_and (wpAny_isTrue_Compare1 (wpAny_BinOp (e_local l₁ (wpAny_Constant_int (mod_int' (by decide) (wpAny_Constant_int (eq_int (wpAny_truthy_bool ?_)))))))))
    cases hc2 : (Int.fmod (Int.fdiv v 4) 3 == 0) with
    | false =>
      exact it_f (it_f (sv _))
    | true =>
      refine it_t (isTrue_and_nil (it_t ?_))
      exact deed_rm hroom hh G X x₁ hlen fun h' tk' x' l' => h _ _ _ (.inl rfl) x' l'
end
end Mine

namespace Mine
open PySem PySem.W PyProof.Rows PySem.Calls PySem.Spec

def sl (x : Str) : Str := if ((slicePicked x none (some (21, 0)) none).length == x.length) = true then x else ⟨((slicePicked x none (some (21, 0)) none).filterMap (x.cps[·]?)).toArray⟩
theorem slice21 {x : Str} {t tu : Tok} {Q : Value → Shared → Prop} {s : Shared} (hl : (sl x).length ≤ 200) (h : ∀ t' tk, Q (.str (sl x) t') { s with toks := tk }) : (sliceMade x t none (some (21, tu)) none).post Q s := by
  have e : slicePicked x none (some (21, tu)) none = slicePicked x none (some (21, 0)) none := rfl
  unfold sliceMade
  unfold sl at h hl
  rw [e]
  by_cases hc : ((slicePicked x none (some (21, 0)) none).length == x.length) = true
  · rw [if_pos hc] at h
    rw [if_pos (by rw [hc]; rfl)]
    exact h _ _
  · rw [if_neg hc] at h
    rw [if_neg hc] at hl
    rw [if_neg (by rw [Bool.not_eq_true] at hc; rw [hc]; decide)]
    exact ⟨by rw [sizeLine_eq]; omega, h _ _⟩
def KEYS : List Str := NAMES ++ NAMES.map (PRE ++ ·)
theorem keys_slice : ∀ k ∈ KEYS, decide (sl k ≠ PRE) = np k := by decide +kernel
theorem keys_ok : ∀ k ∈ KEYS, sOk k ∧ k.length ≤ 200 ∧ (sl k).length ≤ 200 := by decide +kernel
theorem vals_ok : ∀ k ∈ VALS, sOk k := by decide +kernel
theorem names_np : ∀ k ∈ NAMES, np k = true ∧ np (PRE ++ k) = false := by decide +kernel
theorem pre_inj : ∀ k ∈ NAMES, ∀ j ∈ NAMES, PRE ++ k = PRE ++ j → k = j := by decide +kernel

section
variable {prog : Program} {w : World} {A : Around} {E : Value → Shared → Prop} {s : Shared} {g : Heap} {mg mb : Str → Option Value} {fR fS fO L aN aT aP : Addr} {σ : Sg} {q : Str} {fa : Addr} {cd : Value} {d : Tbl}

theorem m_getitem {k y : Str} {t : Tok} {value slice : Expr} {Q : Value → Shared → Prop} (hT : SD prog w s.heap aT d) (hy : look d k = some y) (h : ∀ t' tk, Q (.str y t') { s with toks := tk })
    (hs : subscripted slice false (.ref aT) (.str k t) = operate [.ref aT, .str k t] (getItem (.ref aT) (.str k t)) := by with_unfolding_all rfl) :
    wpAny (model prog w) A (subscriptTail value slice (.ref aT) (.str k t)) Q E s := by
  obtain ⟨kvs, hD, hp⟩ := hT
  rcases sv_look (k := k) hp with ⟨e1, e2⟩ | ⟨y', u, e1, e2⟩
  · rw [e2] at hy; cases hy
  · rw [e2] at hy; cases hy
    exact tail_any hD.typeIs slot_dict_getitem.lookup (wpAny_getItem_of (knd := PySem.strKind prog w) (strKind_is _ _ _ _) hD.mapOf e1 (h _ _)) hs

def valOf (d : Tbl) (k : Str) : Str := (look d k).getD (Str.ofString "")
theorem look_mem : ∀ {d : Tbl} {k : Str}, k ∈ d.map (·.1) → look d k = some (valOf d k)
  | (k₁, v) :: d, k, h => by
    by_cases e : k₁ = k
    · simp [look, valOf, e]
    · have : k ∈ d.map (·.1) := by simpa [Ne.symm e] using h
      have := look_mem this
      simp only [valOf, look, List.find?_cons, e, decide_false] at this ⊢
      exact this

def keptOf (d : Tbl) : List (Str × Str) := ((d.map (·.1)).filter np).map fun k => (k, valOf d k)

theorem paired_map {F : Str → Value → Prop} {G : Value → (Str × Str) → Prop} {f : Str → Str × Str} (hm : ∀ k y, F k y → G y (f k)) : ∀ {ks : List Str} {ys : List Value}, Paired F ks ys → Paired G ys (ks.map f)
  | _, _, .nil => .nil
  | _, _, .cons h r => .cons (hm _ _ h) (paired_map hm r)

theorem c_kept {Q : Flow → Shared → Prop} {v : Value} (hh : A.handled = none) (X : Fix g L aT aP) (x : St prog w g L aN aT aP σ s.heap) (ha : Lv s.heap L (Str.ofString "answer") v) (hlen : σ.tab.length ≤ 900) (hK : ∀ k ∈ σ.tab.map (·.1), k ∈ KEYS)
    (h : ∀ D h' tk, St prog w g L aN aT aP σ h' → Lv h' L (Str.ofString "answer") v → Lv h' L (Str.ofString "kept") (.ref D) → PairsL h' D (keptOf σ.tab) → Q .next { s with heap := h', toks := tk }) :
    wpAny (model prog w) A (exec (nthS loopB 2) (lenv q L fa cd)) Q E s := by
  refine comp_assign (cl := [(Str.ofString "table", L + 1)]) (σ.tab.map (·.1)) np (fun h k y => T2 h y (k, valOf σ.tab k)) (fun _ _ _ _ k y => T2.t k y) (by rw [List.length_map]; omega) rfl rfl (by decide) rfl (by decide) rfl
    (e_cell rfl x.cT (src_dict hh X.oT x.tab ?_))
  refine on_assign (fun _ _ _ _ k y => T2.t k y) x.names.fm rfl rfl ?_ ?_ ?_
  · intro C k t s₃ E' hk l₃ k₃
    obtain ⟨_, _, hsl⟩ := keys_ok k (hK k hk)
    refine tests_one (wpAny_isTrue_Compare1 (wpAny_Subscript_str_slice (e_local l₃ (wpAny_evalPart_none (wpAny_evalPart_some (wpAny_Constant_int ⟨k, t, none, some (21, _), rfl, rfl, rfl, slice21 hsl fun t' tk' => ?_⟩))))))
    refine wpAny_Constant_str (ne_strD (wpAny_truthy_bool ⟨keys_slice k (hK k hk), ?_⟩))
    exact Keeps.of (Keep.push _ _)
  · intro C k t s₃ E' hk hp l₃ k₃
    refine Tuple_ (spliced_more (e_local l₃ (spliced_more (Subscript_ (e_cell (c := L + 1) rfl (x.cT.keeps k₃) (e_local l₃ (m_getitem (x.tab.keeps k₃) (look_mem hk) fun t' tk' => ?_)))))))
    exact spliced_none (wpAny_newObj_type ⟨⟨_, t, t', rfl, ⟨_, Heap.get?_push_size _ rfl, rfl, _, rfl⟩⟩, Keeps.of (Keep.push _ _)⟩)
  · intro D h' tk ys hD hl hp lD u e
    refine h D h' _ (x.loc X u e (by decide) (by decide)) (u _ _ (by decide) ha) lD ?_
    exact ⟨ys.toList, by simpa using hl, paired_map (fun _ _ y => y) hp⟩
end
end Mine

namespace Mine
open PySem PySem.W PyProof.Rows PySem.Calls PySem.Spec

section
variable {prog : Program} {w : World} {A : Around} {E : Value → Shared → Prop} {s : Shared} {g : Heap} {mg mb : Str → Option Value} {fR fS fO L aN aT aP : Addr} {σ : Sg} {q : Str} {fa : Addr} {cd : Value} {d : Tbl}

def plOf (σ : Sg) : List (Str × Str) := σ.ord.map fun k => (k, valOf σ.pl k)

theorem c_first {Q : Flow → Shared → Prop} {D : Addr} (hu : A.units ≤ 1000) (hh : A.handled = none) (X : Fix g L aT aP) (x : St prog w g L aN aT aP σ s.heap) (ha : Lv s.heap L (Str.ofString "answer") .none) (hk : Lv s.heap L (Str.ofString "kept") (.ref D))
    (hD : PairsL s.heap D (keptOf σ.tab)) (hor : σ.ord.length ≤ 900) (hO : ∀ k ∈ σ.ord, k ∈ σ.pl.map (·.1)) (hEq : keptOf σ.tab = plOf σ) (okp : ∀ p ∈ plOf σ, sOk p.1 ∧ sOk p.2)
    (h : ∀ h' tk, St prog w g L aN aT aP σ h' → Q .next { s with heap := h', toks := tk }) :
    wpAny (model prog w) A (exec (nthS loopB 3) (lenv q L fa cd)) Q E s := by
  refine wpAny_If (isTrue_or (wpAny_isTrue_Compare1 (e_local ha (wpAny_Constant_none (isnot_none_gen (wpAny_truthy_bool (it_f ?_)))))))
  refine isTrue_or (wpAny_isTrue_Compare1 (e_local hk ?_))
  obtain ⟨aO, lO, hOl⟩ := x.ord
  refine comp_rule (cl := [(Str.ofString "plain", L + 1 + 1)]) σ.ord (fun _ => true) (fun h k y => T2 h y (k, valOf σ.pl k)) (fun _ _ _ _ k y => T2.t k y) (by omega) rfl (by decide) rfl (by decide) rfl
    (e_local lO (src_list hh hOl ?_))
  refine on_eval (fun _ _ _ _ k y => T2.t k y) ?_ ?_ ?_
  · intro C k t s₃ E' hk l₃ k₃
    exact tests_nil ⟨rfl, Keeps.refl _⟩
  · intro C k t s₃ E' hk hp l₃ k₃
    refine Tuple_ (spliced_more (e_local l₃ (spliced_more (Subscript_ (e_cell (c := L + 1 + 1) rfl (x.cP.keeps k₃) (e_local l₃ (m_getitem (x.pl.keeps k₃) (look_mem (hO k hk)) fun t' tk' => ?_)))))))
    exact spliced_none (wpAny_newObj_type ⟨⟨_, t, t', rfl, ⟨_, Heap.get?_push_size _ rfl, rfl, _, rfl⟩⟩, Keeps.of (Keep.push _ _)⟩)
  · intro D' h' tk ys hD' hl hp hk'
    have pl : PairsL h' D' (plOf σ) := by
      refine ⟨ys.toList, by simpa using hl, ?_⟩
      have := paired_map (F := fun k y => T2 h' y (k, valOf σ.pl k)) (G := T2 h') (f := fun k => (k, valOf σ.pl k)) (fun _ _ y => y) hp
      rw [List.filter_eq_self.mpr (fun _ _ => rfl)] at this
      exact this
    refine m_ne_pairs hu (hD.keeps hk') pl (hEq ▸ okp) okp (wpAny_truthy_bool ?_)
    rw [show decide (keptOf σ.tab ≠ plOf σ) = false by simp [hEq]]
    exact it_f (isTrue_or_nil (it_f (wpAny_execs_nil (h _ _ (x.keeps hk')))))

def inB : List Stmt := bodyS (nthS loopB 4)
def origT (d : Tbl) (nm : Str) : List Str := ((d.map (·.1)).filter fun k => decide (k = PRE ++ nm)).map (valOf d)

theorem paired_strs {G : Str → Value → Prop} {f : Str → Str} (hm : ∀ k y, G k y → ∃ t, y = .str (f k) t) : ∀ {ks : List Str} {ys : List Value}, Paired G ks ys → StrsAre ys (ks.map f)
  | _, _, .nil => .nil
  | _, _, .cons h r => by
    obtain ⟨t, rfl⟩ := hm _ _ h
    exact .cons _ _ (paired_strs hm r)

theorem c_orig {Q : Flow → Shared → Prop} {nm : Str} {tn : Tok} (hh : A.handled = none) (X : Fix g L aT aP) (x : St prog w g L aN aT aP σ s.heap) (hn : s.heap.IsCell (L + 1 + 1 + 1 + 1) (some (.str nm tn))) (hlen : σ.tab.length ≤ 900) (hnl : nm.length ≤ 100)
    (h : ∀ D h' tk, St prog w g L aN aT aP σ h' → h'.IsCell (L + 1 + 1 + 1 + 1) (some (.str nm tn)) → Lv h' L (Str.ofString "original") (.ref D) → StrsL h' D (origT σ.tab nm) → Q .next { s with heap := h', toks := tk }) :
    wpAny (model prog w) A (exec (nthS inB 0) (lenv q L fa cd)) Q E s := by
  refine comp_assign (σ.tab.map (·.1)) (fun k => decide (k = PRE ++ nm)) (fun h k y => ∃ t, y = .str (valOf σ.tab k) t) (fun _ _ _ _ _ y => y) (by rw [List.length_map]; omega) rfl rfl (by decide) rfl (by decide) rfl
    (e_cell rfl x.cT (src_dict hh X.oT x.tab ?_))
  refine on_assign (fun _ _ _ _ _ y => y) x.names.fm rfl rfl ?_ ?_ ?_
  · intro C k t s₃ E' hk l₃ k₃
    refine tests_one (wpAny_isTrue_Compare1 (e_local l₃ (wpAny_BinOp (wpAny_Constant_str (e_cell (c := L + 1 + 1 + 1 + 1) rfl (hn.keeps k₃) ?_)))))
    exact m_add (x := PRE) (by rw [PRE_len]; omega) (by omega) fun t' tk' => eq_strD (wpAny_truthy_bool ⟨rfl, Keeps.of (Keep.refl _)⟩)
  · intro C k t s₃ E' hk hp l₃ k₃
    exact Subscript_ (e_cell (c := L + 1) rfl (x.cT.keeps k₃) (e_local l₃ (m_getitem (x.tab.keeps k₃) (look_mem hk) fun t' tk' => ⟨⟨t', rfl⟩, Keeps.of (Keep.refl _)⟩)))
  · intro D h' tk ys hD hl hp lD u e
    refine h D h' _ (x.loc X u e (by decide) (by decide)) (cell_but hn e (show @Ne Nat (L + 1 + 1 + 1 + 1) L by omega)) lD ?_
    exact ⟨ys.toList, by simpa using hl, paired_strs (fun _ _ y => y) hp⟩

theorem c_cmp {Q : Flow → Shared → Prop} {nm : Str} {tn : Tok} {D : Addr} (hu : A.units ≤ 1000) (hroom : A.depth < recursionLimit) (hh : A.handled = none) (G : Gl g mg mb fR fS fO) (x : St prog w g L aN aT aP σ s.heap)
    (hn : s.heap.IsCell (L + 1 + 1 + 1 + 1) (some (.str nm tn))) (lD : Lv s.heap L (Str.ofString "original") (.ref D)) (hD : StrsL s.heap D (origT σ.tab nm)) (hEq : origT σ.tab nm = origOf σ.sav nm) (ok : ∀ y ∈ origOf σ.sav nm, sOk y)
    (h : ∀ h' tk, St prog w g L aN aT aP σ h' → Q .next { s with heap := h', toks := tk }) :
    wpAny (model prog w) A (exec (nthS inB 1) (lenv q L fa cd)) Q E s := by
  have Gs := G.keeps x.keep
  obtain ⟨aS, cS, hS⟩ := x.cS
  refine wpAny_If (wpAny_isTrue_Compare1 (e_local lD (wpAny_Call_Name_kw (e_global Gs.g Gs.nO (callWith_fn Gs.aO (spliced_more (e_cell rfl cS (spliced_more (e_cell rfl hn (spliced_none ⟨Keep.refl _, spec_orig hroom hh Gs.lim Gs.aO hS fun D' h' tk' k' _ hO => ?_⟩))))))))))
  refine m_ne_strs hu (hD.keeps k') hO (hEq ▸ ok) ok (wpAny_truthy_bool ?_)
  rw [show decide (origT σ.tab nm ≠ origOf σ.sav nm) = false by simp [hEq]]
  exact it_f (wpAny_execs_nil (h _ _ (x.keeps k')))
end
end Mine

namespace Mine
open PySem PySem.W PyProof.Rows PySem.Calls PySem.Spec

def muts (L aT aP : Addr) : List Addr := [L, L + 1, L + 1 + 1, L + 1 + 1 + 1, L + 1 + 1 + 1 + 1, aT, aP]

section
variable {prog : Program} {w : World} {A : Around} {E : Value → Shared → Prop} {s : Shared} {g g' h h' : Heap} {mg mb : Str → Option Value} {fR fS fO L aN aT aP : Addr} {σ : Sg} {q : Str} {fa : Addr} {cd : Value} {d : Tbl}

theorem St.base (x : St prog w g' L aN aT aP σ h) (k : Keep g g') : St prog w g L aN aT aP σ h := { x with keep := Keep.trans k x.keep }

theorem Fix.not (X : Fix g L aT aP) : ∀ b o, g.get? b = some o → b ∉ muts L aT aP := by
  intro b o e hb
  simp only [muts, List.mem_cons, List.not_mem_nil, or_false] at hb
  rcases hb with rfl | rfl | rfl | rfl | rfl | rfl | rfl
  · rw [X.nL] at e; cases e
  · rw [X.n1] at e; cases e
  · rw [X.n2] at e; cases e
  · rw [X.n3] at e; cases e
  · rw [X.n4] at e; cases e
  · rw [X.nT] at e; cases e
  · rw [X.nP] at e; cases e

theorem St.lt (x : St prog w g L aN aT aP σ h) : ∀ b ∈ muts L aT aP, b < h.objs.size := by
  intro b hb
  simp only [muts, List.mem_cons, List.not_mem_nil, or_false] at hb
  rcases hb with rfl | rfl | rfl | rfl | rfl | rfl | rfl
  · obtain ⟨m, hm⟩ := x.names.fm; exact hm.lt
  · exact x.cT.lt
  · exact x.cP.lt
  · obtain ⟨_, c, _⟩ := x.cS; exact c.lt
  · obtain ⟨_, c⟩ := x.cN; exact c.lt
  · obtain ⟨_, ⟨o, _, _, ho, _⟩, _⟩ := x.tab; exact Heap.lt_size ho
  · obtain ⟨_, ⟨o, _, _, ho, _⟩, _⟩ := x.pl; exact Heap.lt_size ho

theorem rebase (X : Fix g L aT aP) (x : St prog w g L aN aT aP σ h) :
    Fix (hideAll h (muts L aT aP)) L aT aP ∧ St prog w (hideAll h (muts L aT aP)) L aN aT aP σ h ∧ Keep g (hideAll h (muts L aT aP)) ∧ (∀ b o, b ∉ muts L aT aP → h.get? b = some o → (hideAll h (muts L aT aP)).get? b = some o) := by
  have none' : ∀ b ∈ muts L aT aP, (hideAll h (muts L aT aP)).get? b = none := fun b hb => hideAll_none _ hb
  refine ⟨⟨none' _ (by simp [muts]), none' _ (by simp [muts]), none' _ (by simp [muts]), none' _ (by simp [muts]), none' _ (by simp [muts]), none' _ (by simp [muts]), none' _ (by simp [muts]), X.dTP, X.lT, X.lP, X.oT, X.oP⟩,
    { x with keep := fun b o e => of_hideAll _ e }, fun b o e => hideAll_get _ (x.keep b o e) (X.not b o e), fun b o hb e => hideAll_get _ e hb⟩

/-- an object outside, that is no sequence, is changed -/
theorem St.out (x : St prog w g L aN aT aP σ h) {I : Addr} (hI : I ∉ muts L aT aP) (hg : g.get? I = none) (ns : ∀ o, h.get? I = some o → NoSeq o) (e : Heap.ExtBut I h h') : St prog w g L aN aT aP σ h' := by
  have ks := keepS_but e ns
  have ne : ∀ b ∈ muts L aT aP, b ≠ I := fun b hb q => hI (q ▸ hb)
  have nL := ne L (by simp [muts])
  exact ⟨keep_but x.keep hg e, x.names.but e nL, x.namesL.s ks, let ⟨a, b, c⟩ := x.ord; ⟨a, b.but e nL, c.s ks⟩, cell_but x.cT e (ne _ (by simp [muts])), cell_but x.cP e (ne _ (by simp [muts])),
    let ⟨a, b, c⟩ := x.cS; ⟨a, cell_but b e (ne _ (by simp [muts])), c.s ks⟩, let ⟨v, c⟩ := x.cN; ⟨v, cell_but c e (ne _ (by simp [muts]))⟩, x.tab.but e (ne _ (by simp [muts])), x.pl.but e (ne _ (by simp [muts]))⟩

theorem St.noSeq (x : St prog w g L aN aT aP σ h) : ∀ b ∈ muts L aT aP, ∀ o, h.get? b = some o → NoSeq o := by
  intro b hb
  simp only [muts, List.mem_cons, List.not_mem_nil, or_false] at hb
  rcases hb with rfl | rfl | rfl | rfl | rfl | rfl | rfl
  · exact x.names.fm.noSeq
  · exact cell_noSeq x.cT
  · exact cell_noSeq x.cP
  · obtain ⟨_, c, _⟩ := x.cS; exact cell_noSeq c
  · obtain ⟨_, c⟩ := x.cN; exact cell_noSeq c
  · exact x.tab.noSeq
  · exact x.pl.noSeq
theorem St.keepS {σ' : Sg} (x : St prog w g L aN aT aP σ h) (x' : St prog w (hideAll h (muts L aT aP)) L aN aT aP σ' h') : KeepS h h' := fun b o xs n e d =>
  x'.keep _ _ (hideAll_get _ e fun hb => x.noSeq b hb o e xs n d)
theorem list_s {a : Addr} {items : Array Value} (x : h.IsList a items) (k : KeepS h h') : h'.IsList a items := by
  obtain ⟨o, ho, hc, n, hd⟩ := x
  exact ⟨o, k _ _ _ _ ho hd, hc, n, hd⟩

theorem iter_noSeq {I l : Addr} {i : Nat} (x : h.IsListIter I l i) : ∀ o, h.get? I = some o → NoSeq o := fun o e xs n d => by
  obtain ⟨o', ho, _, hd⟩ := x
  rw [e] at ho; cases ho; rw [d] at hd; cases hd

/-- what the tests of a turn ask of the data -/
structure Good (σ : Sg) : Prop where
  keys : ∀ k ∈ σ.tab.map (·.1), k ∈ KEYS
  ordIn : ∀ k ∈ σ.ord, k ∈ σ.pl.map (·.1)
  kept : keptOf σ.tab = plOf σ
  okp : ∀ p ∈ plOf σ, sOk p.1 ∧ sOk p.2
  orig : ∀ nm ∈ NAMES, origT σ.tab nm = origOf σ.sav nm
  oks : ∀ nm ∈ NAMES, ∀ y ∈ origOf σ.sav nm, sOk y
  len : σ.tab.length = σ.ord.length + (NAMES.filter fun n => !(origOf σ.sav n).isEmpty).length
  lt : σ.tab.length ≤ 900
  lo : σ.ord.length ≤ 900

theorem c_loop {Q : Flow → Shared → Prop} (hu : A.units ≤ 1000) (hroom : A.depth < recursionLimit) (hh : A.handled = none) (G : Gl g mg mb fR fS fO) (X : Fix g L aT aP) (x : St prog w g L aN aT aP σ s.heap) (Y : Good σ)
    (h : ∀ h' tk, St prog w g L aN aT aP σ h' → Q .next { s with heap := h', toks := tk }) :
    wpAny (model prog w) A (exec (nthS loopB 4) (lenv q L fa cd)) Q E s := by
  obtain ⟨vs, hN, hNs⟩ := x.namesL
  refine wpAny_For (e_local x.names (wpAny_pyIter_list hN ?_))
  have hIm : s.heap.objs.size ∉ muts L aT aP := fun hm => absurd (x.lt _ hm) (Nat.lt_irrefl _)
  have bI : s.heap.get? s.heap.objs.size = none := none_at_size (Nat.le_refl _)
  have gI : g.get? s.heap.objs.size = none := by
    cases e : g.get? s.heap.objs.size with
    | none => rfl
    | some o => rw [x.keep _ _ e] at bI; cases bI
  have nN : aN ≠ s.heap.objs.size := by obtain ⟨o, ho, _⟩ := hN; exact Nat.ne_of_lt (Heap.lt_size ho)
  have hlen : vs.length = 5 := hNs.length
  refine codeAny_forLoop (fun k s' => ∃ h' tk i, s' = { s with heap := h', toks := tk } ∧ St prog w g L aN aT aP σ h' ∧ h'.IsListIter s.heap.objs.size aN i ∧ h'.IsList aN vs.toArray ∧ i ≤ 5 ∧ k = 6 - i) ?_ 6
    ⟨_, _, 0, rfl, x.keeps (Keep.push _ _), ⟨_, Heap.get?_push_size _ rfl, rfl, rfl⟩, hN.push _, Nat.zero_le _, rfl⟩
  rintro k s' ⟨h', tk, i, rfl, x', it', hN', hi, rfl⟩
  by_cases hlt : i < 5
  · obtain ⟨t, ht⟩ := hNs.get i (NAMES[i]'hlt) (List.getElem?_eq_getElem _)
    have hnm : NAMES[i]'hlt ∈ NAMES := List.getElem_mem _
    generalize NAMES[i]'hlt = nm at ht hnm
    refine wpAny_pyNext_list_item it' hN' (x := .str nm t) (by simpa using ht) fun h₁ it₁ s₁ => ?_
    have x₁ := x'.out hIm gI (iter_noSeq it') s₁.extBut
    obtain ⟨v₀, c₀⟩ := x₁.cN
    refine wpAny_assign_Name (wpAny_storeName_cell rfl rfl rfl c₀ fun h₂ c₂ s₂ => ?_)
    have x₂ := x₁.nameC X c₂ s₂
    have it₂ : h₂.IsListIter s.heap.objs.size aN (i + 1) := it₁.at fun o e => s₂.extBut _ o (fun q => hIm (by rw [q]; simp [muts])) e
    have hN₂ : h₂.IsList aN vs.toArray := list_s (hN'.extBut s₁.extBut nN) (keepS_but s₂.extBut (cell_noSeq c₀))
    obtain ⟨X₃, x₃, k₃, up₃⟩ := rebase X x₂
    obtain ⟨_, nl⟩ := names_facts nm hnm
    refine wpAny_execs_cons (c_orig hh X₃ x₃ c₂ Y.lt nl fun D h₄ tk₄ x₄ c₄ l₄ o₄ => ?_)
    refine wpAny_execs_cons (c_cmp hu hroom hh (G.keeps k₃) x₄ c₄ l₄ o₄ (Y.orig nm hnm) (Y.oks nm hnm) fun h₅ tk₅ x₅ => wpAny_execs_nil ?_)
    refine ⟨6 - (i + 1), by omega, h₅, tk₅, i + 1, rfl, x₅.base k₃, it₂.at fun o e => x₅.keep _ _ (up₃ _ o hIm e), list_s hN₂ (x₂.keepS x₅), hlt, rfl⟩
  · have hin : i = 5 := by omega
    refine wpAny_pyNext_list_end hh it' hN' (by simp [hin, hlen]) fun h₁ e₁ => wpAny_execs_nil ?_
    exact h _ _ (x'.out hIm gI (iter_noSeq it') e₁)
end
end Mine

namespace Mine
open PySem PySem.W PyProof.Rows PySem.Calls PySem.Spec

theorem strs_empty : ∀ {vs : List Value} {xs : List Str}, StrsAre vs xs → (!vs.toArray.isEmpty) = !xs.isEmpty
  | _, _, .nil => rfl
  | _, _, .cons _ _ _ => by simp

section
variable {prog : Program} {w : World} {A : Around} {E : Value → Shared → Prop} {s : Shared} {g g' h h' : Heap} {mg mb : Str → Option Value} {fR fS fO L aN aT aP : Addr} {σ : Sg} {q : Str} {fa : Addr} {cd : Value} {d : Tbl}

theorem c_len {Q : Flow → Shared → Prop} (hroom : A.depth < recursionLimit) (hh : A.handled = none) (G : Gl g mg mb fR fS fO) (X : Fix g L aT aP) (x : St prog w g L aN aT aP σ s.heap) (Y : Good σ)
    (h : ∀ h' tk, St prog w g L aN aT aP σ h' → Q .next { s with heap := h', toks := tk }) :
    wpAny (model prog w) A (exec (nthS loopB 5) (lenv q L fa cd)) Q E s := by
  have Gs := G.keeps x.keep
  obtain ⟨aO, lO, vo, hO, hOs⟩ := x.ord
  obtain ⟨aS, cS, hS⟩ := x.cS
  have lo := Y.lo
  have hol := hOs.length
  refine wpAny_If (wpAny_isTrue_Compare1 (wpAny_Call_Name_kw (e_builtin Gs.g Gs.len0 Gs.b Gs.len (PyProof.Rows.callWith_builtin1 (spliced_more (e_cell rfl x.cT (spliced_none (m_len_dict X.oT x.tab (by have := Y.lt; omega) fun t₁ tk₁ => ?_))))))))
  refine wpAny_BinOp (wpAny_Call_Name_kw (e_builtin Gs.g Gs.len0 Gs.b Gs.len (PyProof.Rows.callWith_builtin1 (spliced_more (e_local lO (spliced_none (m_len_list hO (by rw [List.size_toArray]; omega) fun t₂ tk₂ => ?_)))))))
  refine wpAny_Call_Name_kw (e_builtin Gs.g Gs.len0 Gs.b Gs.len (PyProof.Rows.callWith_builtin1 (spliced_more ?_)))
  refine comp_rule (cl := [(Str.ofString "saved", L + 1 + 1 + 1)]) NAMES (fun n => !(origOf σ.sav n).isEmpty) (fun _ k y => ∃ t, y = .str k t) (fun _ _ _ _ _ y => y) (by decide) rfl (by decide) rfl (by decide) rfl
    (e_local x.names (src_list hh x.namesL ?_))
  refine on_eval (fun _ _ _ _ _ y => y) ?_ ?_ ?_
  · intro C k t s₃ E' hk l₃ k₃
    have G₃ := Gs.keeps k₃
    refine tests_one (isTrue_plain (wpAny_Call_Name_kw (e_global G₃.g G₃.nO (callWith_fn G₃.aO (spliced_more (e_cell (c := L + 1 + 1 + 1) rfl (cS.keeps k₃) (spliced_more (e_local l₃ (spliced_none ⟨Keep.refl _, spec_orig hroom hh G₃.lim G₃.aO (hS.keeps k₃) fun D' h' tk' k' _ hO' => ?_⟩)))))))))
    obtain ⟨ws, hw, hws⟩ := hO'
    refine wpAny_truthy_list hw ?_ ⟨?_, Keeps.of k'⟩
    · have := hws.length
      have e : (origOf σ.sav k).length ≤ 1 := by
        generalize σ.sav = l
        induction l with
        | nil => simp [origOf]
        | cons p r ih => unfold origOf; split <;> simp_all
      rw [List.size_toArray]; omega
    · exact strs_empty hws
  · intro C k t s₃ E' hk hp l₃ k₃
    exact e_local l₃ ⟨⟨t, rfl⟩, Keeps.refl _⟩
  · intro D h' tk ys hD hl hp hk
    have hys : ys.size = (NAMES.filter fun n => !(origOf σ.sav n).isEmpty).length := by have := hp.length; simpa using this.symm
    have h5 : (NAMES.filter fun n => !(origOf σ.sav n).isEmpty).length ≤ 5 := List.length_filter_le _ _
    refine spliced_none (m_len_list hl (by omega) fun t₃ tk₃ => ?_)
    refine PyProof.Rows.add_int (PyProof.Rows.ne_int (wpAny_truthy_bool ?_))
    have e : ((σ.tab.length : Int) != (vo.toArray.size : Int) + (ys.size : Int)) = false := by
      have := Y.len
      rw [bne_eq_false_iff_eq, List.size_toArray]
      omega
    rw [e]
    exact it_f (wpAny_execs_nil (h _ _ (x.keeps hk)))
end
end Mine

namespace Mine
open PySem PySem.W PyProof.Rows PySem.Calls PySem.Spec

/-! the plain law -/
theorem look_cons (k v : Str) (d : Tbl) (j : Str) : look ((k, v) :: d) j = if k = j then some v else look d j := by
  unfold look
  by_cases h : k = j <;> simp [h]
theorem look_none : ∀ {d : Tbl} {k : Str}, look d k = none ↔ k ∉ d.map (·.1)
  | [], k => by simp [look]
  | (k₁, v) :: d, k => by
    rw [look_cons]
    by_cases h : k₁ = k
    · simp [h]
    · rw [if_neg h, look_none (d := d)]
      simp [Ne.symm h]
theorem look_some_mem : ∀ {d : Tbl} {k y : Str}, look d k = some y → (k, y) ∈ d
  | [], k, y, h => by simp [look] at h
  | (k₁, v) :: d, k, y, h => by
    rw [look_cons] at h
    by_cases e : k₁ = k
    · rw [if_pos e] at h; cases h; subst e; exact List.mem_cons_self
    · rw [if_neg e] at h; exact List.mem_cons_of_mem _ (look_some_mem h)
theorem look_filter {f : Str → Bool} {k : Str} (hk : f k = true) : ∀ (d : Tbl), look (d.filter fun p => f p.1) k = look d k
  | [] => rfl
  | (k₁, v) :: d => by
    rw [List.filter_cons]
    by_cases h : k₁ = k
    · subst h
      rw [if_pos hk, look_cons, look_cons, if_pos rfl, if_pos rfl]
    · by_cases h1 : f k₁ = true
      · rw [if_pos h1, look_cons, look_cons, if_neg h, if_neg h, look_filter hk d]
      · rw [if_neg h1, look_cons, if_neg h, look_filter hk d]
theorem look_filter_none {f : Str → Bool} {k : Str} (hk : f k = false) (d : Tbl) : look (d.filter fun p => f p.1) k = none := by
  rw [look_none]
  intro hm
  obtain ⟨p, hp, rfl⟩ := List.mem_map.mp hm
  rw [List.mem_filter] at hp
  rw [hk] at hp; cases hp.2
theorem any_iff (d : Tbl) (k : Str) : (d.any fun p => decide (p.1 = k)) = true ↔ k ∈ d.map (·.1) := by
  rw [List.any_eq_true]
  constructor
  · rintro ⟨p, hp, h⟩
    exact List.mem_map.mpr ⟨p, hp, by simpa using h⟩
  · intro h
    obtain ⟨p, hp, h⟩ := List.mem_map.mp h
    exact ⟨p, hp, by simpa using h⟩
theorem put_in {d : Tbl} {k v : Str} (h : k ∈ d.map (·.1)) : put d k v = d.map fun p => if p.1 = k then (p.1, v) else p := by unfold put; rw [if_pos ((any_iff d k).mpr h)]
theorem put_out {d : Tbl} {k v : Str} (h : k ∉ d.map (·.1)) : put d k v = d ++ [(k, v)] := by unfold put; rw [if_neg fun c => h ((any_iff d k).mp c)]
theorem map_keys (d : Tbl) (k v : Str) : (d.map fun p => if p.1 = k then (p.1, v) else p).map (·.1) = d.map (·.1) := by
  rw [List.map_map]
  refine List.map_congr_left fun p _ => ?_
  show (if p.1 = k then (p.1, v) else p).1 = p.1
  split <;> rfl
theorem put_keys (d : Tbl) (k v : Str) : (put d k v).map (·.1) = if k ∈ d.map (·.1) then d.map (·.1) else d.map (·.1) ++ [k] := by
  by_cases h : k ∈ d.map (·.1)
  · rw [put_in h, map_keys, if_pos h]
  · rw [put_out h, if_neg h, List.map_append]; rfl
theorem put_len (d : Tbl) (k v : Str) : (put d k v).length = d.length + if k ∈ d.map (·.1) then 0 else 1 := by
  have := congrArg List.length (put_keys d k v)
  rw [List.length_map] at this
  rw [this]
  split <;> simp
theorem mem_put_keys {d : Tbl} {k v j : Str} : j ∈ (put d k v).map (·.1) ↔ j = k ∨ j ∈ d.map (·.1) := by
  rw [put_keys]
  by_cases h : k ∈ d.map (·.1)
  · rw [if_pos h]
    constructor
    · exact .inr
    · rintro (rfl | h') <;> assumption
  · rw [if_neg h, List.mem_append, List.mem_singleton]
    exact Or.comm
theorem put_nodup {d : Tbl} {k v : Str} (h : (d.map (·.1)).Nodup) : ((put d k v).map (·.1)).Nodup := by
  rw [put_keys]
  split
  · exact h
  · rename_i hk
    rw [List.nodup_append]
    exact ⟨h, by simp, fun a ha b hb => by rw [List.mem_singleton.mp hb]; rintro rfl; exact hk ha⟩
theorem look_map (k v j : Str) : ∀ d : Tbl, look (d.map fun p => if p.1 = k then (p.1, v) else p) j = if j = k ∧ k ∈ d.map (·.1) then some v else look d j
  | [] => by simp [look]
  | (k₁, v₁) :: d => by
    rw [List.map_cons]
    by_cases h1 : k₁ = k
    · subst h1
      rw [if_pos rfl, look_cons, look_cons]
      by_cases h2 : k₁ = j
      · subst h2; simp
      · rw [if_neg h2, if_neg h2, look_map k₁ v j d]
        have : ¬ j = k₁ := fun e => h2 e.symm
        simp [this]
    · rw [if_neg h1, look_cons, look_cons, look_map k v j d]
      by_cases h2 : k₁ = j
      · subst h2; simp [h1]
      · have h3 : (k ∈ ((k₁, v₁) :: d).map (·.1)) ↔ k ∈ d.map (·.1) := by
          rw [List.map_cons, List.mem_cons]
          exact ⟨fun h => h.resolve_left fun e => h1 e.symm, .inr⟩
        rw [if_neg h2, if_neg h2]
        simp only [h3]
theorem look_append (k v j : Str) : ∀ d : Tbl, k ∉ d.map (·.1) → look (d ++ [(k, v)]) j = if j = k then some v else look d j
  | [], _ => by
    rw [List.nil_append, look_cons]
    by_cases h : k = j
    · simp [h]
    · have : ¬ j = k := fun e => h e.symm
      simp [h, this]
  | (k₁, v₁) :: d, hn => by
    rw [List.cons_append, look_cons, look_cons, look_append k v j d (by simp at hn; simpa using hn.2)]
    by_cases h2 : k₁ = j
    · subst h2
      have : ¬ k₁ = k := by simp at hn; exact fun e => hn.1 e.symm
      simp [this]
    · simp [h2]
theorem look_put (d : Tbl) (k v j : Str) : look (put d k v) j = if j = k then some v else look d j := by
  by_cases h : k ∈ d.map (·.1)
  · rw [put_in h, look_map]
    simp [h]
  · rw [put_out h, look_append _ _ _ _ h]
theorem put_filter_t {f : Str → Bool} {d : Tbl} {k v : Str} (hk : f k = true) : (put d k v).filter (fun p => f p.1) = put (d.filter fun p => f p.1) k v := by
  have hm : k ∈ (d.filter fun p => f p.1).map (·.1) ↔ k ∈ d.map (·.1) := by
    constructor
    · intro h
      obtain ⟨p, hp, rfl⟩ := List.mem_map.mp h
      exact List.mem_map_of_mem (List.mem_filter.mp hp).1
    · intro h
      obtain ⟨p, hp, rfl⟩ := List.mem_map.mp h
      exact List.mem_map_of_mem (List.mem_filter.mpr ⟨hp, hk⟩)
  by_cases h : k ∈ d.map (·.1)
  · rw [put_in h, put_in (hm.mpr h), List.filter_map]
    have e : ((fun p : Str × Str => f p.1) ∘ fun p : Str × Str => if p.1 = k then (p.1, v) else p) = fun p : Str × Str => f p.1 := by
      funext p
      show f (if p.1 = k then (p.1, v) else p).1 = f p.1
      split <;> rfl
    rw [e]
  · rw [put_out h, put_out fun c => h (hm.mp c), List.filter_append]
    simp [hk]
theorem put_filter_f {f : Str → Bool} {d : Tbl} {k v : Str} (hk : f k = false) (h : k ∉ d.map (·.1)) : (put d k v).filter (fun p => f p.1) = d.filter fun p => f p.1 := by
  rw [put_out h, List.filter_append]
  simp [hk]
theorem put_vals {P : Str → Prop} {d : Tbl} {k v : Str} (h : ∀ p ∈ d, P p.2) (hv : P v) : ∀ p ∈ put d k v, P p.2 := by
  intro p hp
  by_cases hk : k ∈ d.map (·.1)
  · rw [put_in hk] at hp
    obtain ⟨p', hp', rfl⟩ := List.mem_map.mp hp
    by_cases e : p'.1 = k
    · rw [if_pos e]; exact hv
    · rw [if_neg e]; exact h p' hp'
  · rw [put_out hk] at hp
    rcases List.mem_append.mp hp with hp | hp
    · exact h p hp
    · rw [List.mem_singleton.mp hp]; exact hv
theorem empty_val : Str.ofString "" ∈ VALS := by decide +kernel
theorem valOf_in {d : Tbl} (h : ∀ p ∈ d, p.2 ∈ VALS) (k : Str) : valOf d k ∈ VALS := by
  unfold valOf
  cases e : look d k with
  | none => exact empty_val
  | some y => exact h _ (look_some_mem e)

theorem origOf_append (l : List (Str × Str × Str)) (p : Str × Str × Str) (j : Str) : origOf (l ++ [p]) j = if origOf l j = [] then (if p.1 = j ∧ p.2.1 ≠ p.2.2 then [p.2.1] else []) else origOf l j := by
  induction l with
  | nil => simp [origOf]
  | cons a r ih =>
    rw [List.cons_append, origOf, origOf]
    by_cases h : a.1 = j ∧ a.2.1 ≠ a.2.2
    · rw [if_pos h, if_pos h]; simp
    · rw [if_neg h, if_neg h, ih]
theorem origOf_in {P : Str → Prop} : ∀ {l : List (Str × Str × Str)} {j : Str}, (∀ p ∈ l, P p.2.1) → ∀ y ∈ origOf l j, P y
  | [], j, _, y, hy => by simp [origOf] at hy
  | a :: r, j, h, y, hy => by
    rw [origOf] at hy
    split at hy
    · rw [List.mem_singleton.mp hy]; exact h a List.mem_cons_self
    · exact origOf_in (fun p hp => h p (List.mem_cons_of_mem _ hp)) y hy

structure Inv (σ : Sg) (n : Nat) : Prop where
  nodup : (σ.tab.map (·.1)).Nodup
  keys : ∀ k ∈ σ.tab.map (·.1), k ∈ KEYS
  fil : σ.tab.filter (fun p => np p.1) = σ.pl
  ord : σ.ord = σ.pl.map (·.1)
  orig : ∀ nm ∈ NAMES, (look σ.tab (PRE ++ nm)).toList = origOf σ.sav nm
  cnt : σ.tab.length = σ.pl.length + (NAMES.filter fun n => !(origOf σ.sav n).isEmpty).length
  vals : ∀ p ∈ σ.tab, p.2 ∈ VALS
  savs : ∀ p ∈ σ.sav, p.2.1 ∈ VALS
  bt : σ.tab.length ≤ 2 + 2 * n
  bs : σ.sav.length ≤ n

theorem keys_fil (d : Tbl) (f : Str → Bool) : (d.map (·.1)).filter f = (d.filter fun p => f p.1).map (·.1) := by
  rw [List.filter_map]; rfl
theorem origT_eq : ∀ {d : Tbl} {nm : Str}, (d.map (·.1)).Nodup → origT d nm = (look d (PRE ++ nm)).toList := by
  intro d nm hn
  unfold origT
  by_cases h : PRE ++ nm ∈ d.map (·.1)
  · have e : (d.map (·.1)).filter (fun k => decide (k = PRE ++ nm)) = [PRE ++ nm] := by
      generalize d.map (·.1) = l at hn h
      generalize PRE ++ nm = x at h
      induction l with
      | nil => cases h
      | cons a r ih =>
        rw [List.nodup_cons] at hn
        rw [List.filter_cons]
        by_cases ha : a = x
        · subst ha
          rw [if_pos (by simp)]
          have : r.filter (fun k => decide (k = a)) = [] := by
            rw [List.filter_eq_nil_iff]
            intro y hy
            simp only [decide_eq_true_eq]
            rintro rfl
            exact hn.1 hy
          rw [this]
        · rw [if_neg (by simpa using ha)]
          exact ih hn.2 (by
            rcases List.mem_cons.mp h with h | h
            · exact absurd h.symm ha
            · exact h)
    rw [e, look_mem h]; rfl
  · have e : (d.map (·.1)).filter (fun k => decide (k = PRE ++ nm)) = [] := by
      rw [List.filter_eq_nil_iff]
      intro y hy
      simp only [decide_eq_true_eq]
      rintro rfl
      exact h hy
    rw [e, look_none.mpr h]; rfl

theorem Inv.good {σ : Sg} {n : Nat} (x : Inv σ n) (hn : n ≤ 100) : Good σ := by
  have kin : ∀ k ∈ σ.pl.map (·.1), k ∈ σ.tab.map (·.1) ∧ np k = true := by
    intro k hk
    rw [← x.fil] at hk
    obtain ⟨p, hp, rfl⟩ := List.mem_map.mp hk
    rw [List.mem_filter] at hp
    exact ⟨List.mem_map_of_mem hp.1, hp.2⟩
  have val : ∀ k ∈ σ.pl.map (·.1), valOf σ.tab k = valOf σ.pl k := by
    intro k hk
    unfold valOf
    rw [← x.fil, look_filter (kin k hk).2]
  have plv : ∀ p ∈ σ.pl, p.2 ∈ VALS := fun p hp => by
    rw [← x.fil] at hp
    exact x.vals p (List.mem_filter.mp hp).1
  have ll : σ.pl.length ≤ σ.tab.length := by rw [← x.fil]; exact List.length_filter_le _ _
  have b := x.bt
  refine ⟨x.keys, fun k hk => x.ord ▸ hk, ?_, ?_, fun nm hnm => ?_, fun nm hnm y hy => vals_ok _ (origOf_in x.savs y hy), ?_, by omega, by rw [x.ord, List.length_map]; omega⟩
  · unfold keptOf plOf
    rw [keys_fil, x.fil, x.ord]
    exact List.map_congr_left fun k hk => by rw [val k hk]
  · intro p hp
    obtain ⟨k, hk, rfl⟩ := List.mem_map.mp hp
    rw [x.ord] at hk
    exact ⟨(keys_ok k (x.keys k (kin k hk).1)).1, vals_ok _ (valOf_in plv k)⟩
  · rw [origT_eq x.nodup]; exact x.orig nm hnm
  · rw [x.cnt, x.ord, List.length_map]

theorem filter_step {l : List Str} {f f' : Str → Bool} {a : Str} (hn : l.Nodup) (ha : a ∈ l) (h0 : f a = false) (h1 : f' a = true) (he : ∀ b ∈ l, b ≠ a → f' b = f b) : (l.filter f').length = (l.filter f).length + 1 := by
  induction l with
  | nil => cases ha
  | cons b r ih =>
    rw [List.nodup_cons] at hn
    rw [List.filter_cons, List.filter_cons]
    by_cases hb : b = a
    · subst hb
      rw [if_pos h1, if_neg (by rw [h0]; decide), List.length_cons]
      have : r.filter f' = r.filter f := List.filter_congr fun c hc => he c (List.mem_cons_of_mem _ hc) fun q => hn.1 (q ▸ hc)
      rw [this]
    · have ih' := ih hn.2 (by
        rcases List.mem_cons.mp ha with h | h
        · exact absurd h.symm hb
        · exact h) fun c hc => he c (List.mem_cons_of_mem _ hc)
      rw [he b List.mem_cons_self hb]
      split
      · rw [List.length_cons, List.length_cons, ih']
      · exact ih'

theorem names_nodup : NAMES.Nodup := by decide +kernel
theorem names_keys : ∀ k ∈ NAMES, k ∈ KEYS ∧ PRE ++ k ∈ KEYS := fun k hk => ⟨List.mem_append_left _ hk, List.mem_append_right _ (List.mem_map_of_mem hk)⟩
theorem name_ne_pre {j k : Str} (hj : j ∈ NAMES) (hk : k ∈ NAMES) : PRE ++ j ≠ k := fun e => by
  have h1 := (names_np j hj).2
  have h2 := (names_np k hk).1
  rw [e, h2] at h1; cases h1

theorem inv_R {σ : Sg} {n : Nat} (x : Inv σ n) : Inv (stepR σ) (n + 1) := by
  have sub : (σ.tab.filter fun p => np p.1).Sublist σ.tab := List.filter_sublist
  refine ⟨(sub.map _).nodup x.nodup, fun k hk => x.keys k ((sub.map _).subset hk), ?_, x.ord, fun nm hnm => ?_, ?_, fun p hp => x.vals p (sub.subset hp), fun p hp => (nomatch hp), ?_, Nat.zero_le _⟩
  · show (σ.tab.filter fun p => np p.1).filter (fun p => np p.1) = σ.pl
    rw [x.fil]
    rw [← x.fil]
    exact List.filter_eq_self.mpr fun p hp => (List.mem_filter.mp hp).2
  · show (look (σ.tab.filter fun p => np p.1) (PRE ++ nm)).toList = []
    rw [look_filter_none (names_np nm hnm).2]; rfl
  · show (σ.tab.filter fun p => np p.1).length = σ.pl.length + 0
    rw [x.fil]; rfl
  · have := sub.length_le
    have := x.bt
    show (σ.tab.filter fun p => np p.1).length ≤ _
    omega

theorem inv_S {σ : Sg} {n : Nat} {nm nw : Str} (x : Inv σ n) (hnm : nm ∈ NAMES) (hnw : nw ∈ VALS) : Inv (stepS σ nm nw) (n + 1) := by
  obtain ⟨npn, npp⟩ := names_np nm hnm
  have hold : (look σ.pl nm).getD (Str.ofString "") = valOf σ.tab nm := by
    rw [← x.fil, look_filter npn]; rfl
  have vold := valOf_in x.vals nm
  have vin : nm ∈ σ.pl.map (·.1) ↔ nm ∈ σ.tab.map (·.1) := by
    rw [← x.fil, ← keys_fil, List.mem_filter]
    exact ⟨fun h => h.1, fun h => ⟨h, npn⟩⟩
  generalize hc : (decide (valOf σ.tab nm ≠ nw ∧ look σ.tab (PRE ++ nm) = none)) = c
  generalize ht : (if valOf σ.tab nm ≠ nw ∧ look σ.tab (PRE ++ nm) = none then put σ.tab (PRE ++ nm) (valOf σ.tab nm) else σ.tab) = t1
  have etab : (stepS σ nm nw).tab = put t1 nm nw := by rw [← ht]; rfl
  have esav : (stepS σ nm nw).sav = σ.sav ++ [(nm, valOf σ.tab nm, nw)] := by rw [← hold]; rfl
  -- t1
  have t1nodup : (t1.map (·.1)).Nodup := by rw [← ht]; split; exact put_nodup x.nodup; exact x.nodup
  have t1keys : ∀ k, k ∈ t1.map (·.1) → k ∈ σ.tab.map (·.1) ∨ k = PRE ++ nm := by
    intro k hk
    rw [← ht] at hk
    split at hk
    · exact (mem_put_keys.mp hk).symm
    · exact .inl hk
  have t1in : ∀ k, k ∈ σ.tab.map (·.1) → k ∈ t1.map (·.1) := by
    intro k hk
    rw [← ht]
    split
    · exact mem_put_keys.mpr (.inr hk)
    · exact hk
  have t1fil : t1.filter (fun p => np p.1) = σ.pl := by
    rw [← ht]
    split
    · rename_i hcc
      rw [put_filter_f npp (look_none.mp hcc.2), x.fil]
    · exact x.fil
  have t1len : t1.length = σ.tab.length + if c = true then 1 else 0 := by
    rw [← ht, ← hc]
    by_cases hcc : valOf σ.tab nm ≠ nw ∧ look σ.tab (PRE ++ nm) = none
    · rw [if_pos hcc, if_pos (decide_eq_true hcc), put_len, if_neg (look_none.mp hcc.2)]
    · rw [if_neg hcc, if_neg (by simpa using hcc)]; rfl
  have t1vals : ∀ p ∈ t1, p.2 ∈ VALS := by
    rw [← ht]
    split
    · exact put_vals x.vals vold
    · exact x.vals
  have t1look : ∀ j ∈ NAMES, look t1 (PRE ++ j) = if j = nm ∧ c = true then some (valOf σ.tab nm) else look σ.tab (PRE ++ j) := by
    intro j hj
    rw [← ht, ← hc]
    by_cases hcc : valOf σ.tab nm ≠ nw ∧ look σ.tab (PRE ++ nm) = none
    · rw [if_pos hcc, look_put]
      by_cases hjn : j = nm
      · subst hjn; simp [hcc]
      · have : PRE ++ j ≠ PRE ++ nm := fun e => hjn (pre_inj j hj nm hnm e)
        simp [hjn, this]
    · rw [if_neg hcc]
      have : ¬ (j = nm ∧ decide (valOf σ.tab nm ≠ nw ∧ look σ.tab (PRE ++ nm) = none) = true) := fun h => hcc (of_decide_eq_true h.2)
      rw [if_neg this]
  have nmin : nm ∈ t1.map (·.1) ↔ nm ∈ σ.tab.map (·.1) := by
    constructor
    · intro h
      rcases t1keys nm h with h | h
      · exact h
      · exact absurd h.symm (name_ne_pre hnm hnm)
    · exact t1in nm
  have orig' : ∀ j ∈ NAMES, origOf (stepS σ nm nw).sav j = if j = nm ∧ c = true then [valOf σ.tab nm] else origOf σ.sav j := by
    intro j hj
    rw [esav, origOf_append]
    have hoj := x.orig j hj
    by_cases hjn : j = nm
    · subst hjn
      by_cases hcc : valOf σ.tab j ≠ nw ∧ look σ.tab (PRE ++ j) = none
      · have e0 : origOf σ.sav j = [] := by rw [← hoj, hcc.2]; rfl
        rw [if_pos e0, if_pos ⟨rfl, hcc.1⟩, if_pos ⟨rfl, by rw [← hc]; exact decide_eq_true hcc⟩]
      · rw [if_neg (show ¬ (j = j ∧ c = true) from fun h => hcc (of_decide_eq_true (hc.trans h.2)))]
        by_cases h1 : valOf σ.tab j = nw
        · by_cases h2 : origOf σ.sav j = []
          · rw [if_pos h2, if_neg fun h => h.2 h1, h2]
          · rw [if_neg h2]
        · have h2 : origOf σ.sav j ≠ [] := by
            rw [← hoj]
            cases e : look σ.tab (PRE ++ j) with
            | none => exact absurd ⟨h1, e⟩ hcc
            | some y => simp
          rw [if_neg h2]
    · rw [if_neg (show ¬ (j = nm ∧ c = true) from fun h => hjn h.1)]
      by_cases h2 : origOf σ.sav j = []
      · rw [if_pos h2, if_neg fun h => hjn h.1.symm, h2]
      · rw [if_neg h2]
  have cnt' : (NAMES.filter fun k => !(origOf (stepS σ nm nw).sav k).isEmpty).length = (NAMES.filter fun k => !(origOf σ.sav k).isEmpty).length + if c = true then 1 else 0 := by
    cases hcv : c with
    | false =>
      rw [if_neg (by decide), Nat.add_zero]
      refine congrArg List.length (List.filter_congr fun k hk => ?_)
      rw [orig' k hk, if_neg (by rw [hcv]; simp)]
    | true =>
      rw [if_pos rfl]
      have hcc := of_decide_eq_true (hc.trans hcv)
      refine filter_step names_nodup hnm ?_ ?_ fun b hb hbn => ?_
      · have : origOf σ.sav nm = [] := by rw [← x.orig nm hnm, hcc.2]; rfl
        rw [this]; rfl
      · rw [orig' nm hnm, if_pos ⟨rfl, hcv⟩]; rfl
      · rw [orig' b hb, if_neg fun h => hbn h.1]
  refine ⟨?_, ?_, ?_, ?_, ?_, ?_, ?_, ?_, ?_, ?_⟩
  · rw [etab]; exact put_nodup t1nodup
  · intro k hk
    rw [etab] at hk
    rcases mem_put_keys.mp hk with rfl | hk
    · exact (names_keys k hnm).1
    · rcases t1keys k hk with hk | rfl
      · exact x.keys k hk
      · exact (names_keys nm hnm).2
  · rw [etab, put_filter_t npn, t1fil]; rfl
  · show (if nm ∈ σ.ord then σ.ord else σ.ord ++ [nm]) = (put σ.pl nm nw).map (·.1)
    rw [put_keys, x.ord]
  · intro j hj
    rw [etab, look_put, if_neg (name_ne_pre hj hnm), t1look j hj, orig' j hj]
    split
    · rfl
    · exact x.orig j hj
  · rw [etab, put_len, cnt', t1len, x.cnt]
    show _ = (put σ.pl nm nw).length + _
    rw [put_len]
    by_cases hm : nm ∈ σ.tab.map (·.1)
    · rw [if_pos (nmin.mpr hm), if_pos (vin.mpr hm)]; omega
    · rw [if_neg fun h => hm (nmin.mp h), if_neg fun h => hm (vin.mp h)]; omega
  · rw [etab]; exact put_vals t1vals hnw
  · intro p hp
    rw [esav] at hp
    rcases List.mem_append.mp hp with hp | hp
    · exact x.savs p hp
    · rw [List.mem_singleton.mp hp]; exact vold
  · rw [etab, put_len, t1len]
    have := x.bt
    split <;> split <;> omega
  · rw [esav, List.length_append, List.length_singleton]
    have := x.bs
    omega

theorem inv_step {σ σ' : Sg} {n : Nat} (x : Inv σ n) (h : Step σ σ') : Inv σ' (n + 1) := by
  rcases h with rfl | ⟨nm, nw, hn, hw, rfl⟩
  · exact inv_R x
  · exact inv_S x hn hw

def σ₀ : Sg := ⟨[(Str.ofString "CC", Str.ofString "gcc"), (Str.ofString "A", Str.ofString "")], [(Str.ofString "CC", Str.ofString "gcc"), (Str.ofString "A", Str.ofString "")], [Str.ofString "CC", Str.ofString "A"], []⟩
theorem inv₀ : Inv σ₀ 0 := ⟨by decide +kernel, by decide +kernel, by decide +kernel, by decide +kernel, by decide +kernel, by decide +kernel, by decide +kernel, by decide +kernel, by decide +kernel, by decide +kernel⟩
end Mine

namespace Mine
open PySem PySem.W PyProof.Rows PySem.Calls PySem.Spec

section
variable {prog : Program} {w : World} {A : Around} {E : Value → Shared → Prop} {s : Shared} {g g' h h' : Heap} {mg mb : Str → Option Value} {fR fS fO L aN aT aP : Addr} {σ : Sg} {q : Str} {fa : Addr} {cd : Value} {d : Tbl} {n : Nat}

theorem turn {Q : Flow → Shared → Prop} {v : Int} {tv : Tok} (hu : A.units ≤ 1000) (hroom : A.depth < recursionLimit) (hh : A.handled = none) (G : Gl g mg mb fR fS fO) (X : Fix g L aT aP) (x : St prog w g L aN aT aP σ s.heap)
    (hv : Lv s.heap L (Str.ofString "v") (.int v tv)) (I : Inv σ n) (hn : n < 100)
    (h : ∀ h' tk σ', Inv σ' (n + 1) → St prog w g L aN aT aP σ' h' → Q .next { s with heap := h', toks := tk }) :
    wpAny (model prog w) A (execs loopB (lenv q L fa cd)) Q E s := by
  have Y₀ := I.good (by omega)
  have hpl : σ.pl.length ≤ 900 := by have := Y₀.lo; rw [I.ord, List.length_map] at this; exact this
  refine deed hu hroom hh G X x hv Y₀.lt hpl (by have := I.bs; omega) Y₀.lo (fun y hy => (Y₀.okp (y, valOf σ.pl y) (List.mem_map_of_mem hy)).1) fun h₁ tk₁ σ' st x₁ a₁ => ?_
  have J := inv_step I st
  have Y := J.good (by omega)
  refine wpAny_execs_cons (c_kept hh X x₁ a₁ Y.lt Y.keys fun D h₂ tk₂ x₂ a₂ k₂ p₂ => ?_)
  refine wpAny_execs_cons (c_first hu hh X x₂ a₂ k₂ p₂ Y.lo Y.ordIn Y.kept Y.okp fun h₃ tk₃ x₃ => ?_)
  refine wpAny_execs_cons (c_loop hu hroom hh G X x₃ Y fun h₄ tk₄ x₄ => ?_)
  refine wpAny_execs_cons (c_len hroom hh G X x₄ Y fun h₅ tk₅ x₅ => ?_)
  exact wpAny_execs_nil (h _ _ _ J x₅)

theorem the_loop {Q : Flow → Shared → Prop} {px : Pos} {l : Addr} {vs : List Value} {ns : List Int} (hu : A.units ≤ 1000) (hroom : A.depth < recursionLimit) (hh : A.handled = none) (G : Gl g mg mb fR fS fO) (X : Fix g L aT aP) (x : St prog w g L aN aT aP σ s.heap)
    (I₀ : Inv σ 0) (hl : s.heap.IsList l vs.toArray) (hi : IntsAre vs ns) (hlen : ns.length ≤ 90)
    (h : ∀ h' tk, Keep g h' → Fm h' L → Q .next { s with heap := h', toks := tk }) :
    wpAny (model prog w) A (pyIter (.ref l)) (fun it s₂ => codeAny (model prog w) A (.forLoop (.Name (Str.ofString "v") px) it loopB [] (lenv q L fa cd))
      (fun r s' => match r with | .ok f => Q f s' | .error e => cameBackBy (model prog w) A (lenv q L fa cd) E e s') s₂) E s := by
  refine wpAny_pyIter_list hl ?_
  have hIm : s.heap.objs.size ∉ muts L aT aP := fun hm => absurd (x.lt _ hm) (Nat.lt_irrefl _)
  have bI : s.heap.get? s.heap.objs.size = none := none_at_size (Nat.le_refl _)
  have gI : g.get? s.heap.objs.size = none := by
    cases e : g.get? s.heap.objs.size with
    | none => rfl
    | some o => rw [x.keep _ _ e] at bI; cases bI
  have nN : l ≠ s.heap.objs.size := by obtain ⟨o, ho, _⟩ := hl; exact Nat.ne_of_lt (Heap.lt_size ho)
  have hvl : vs.length = ns.length := hi.length
  refine codeAny_forLoop (fun k s' => ∃ h' tk i σ, s' = { s with heap := h', toks := tk } ∧ St prog w g L aN aT aP σ h' ∧ Inv σ i ∧ h'.IsListIter s.heap.objs.size l i ∧ h'.IsList l vs.toArray ∧ i ≤ ns.length ∧ k = ns.length + 1 - i) ?_ (ns.length + 1)
    ⟨_, _, 0, σ, rfl, x.keeps (Keep.push _ _), I₀, ⟨_, Heap.get?_push_size _ rfl, rfl, rfl⟩, hl.push _, Nat.zero_le _, rfl⟩
  rintro k s' ⟨h', tk, i, σ, rfl, x', I', it', hl', hi', rfl⟩
  by_cases hlt : i < ns.length
  · obtain ⟨t, ht⟩ := hi.get i ns[i] (List.getElem?_eq_getElem _)
    refine wpAny_pyNext_list_item it' hl' (x := .int ns[i] t) (by simpa using ht) fun h₁ it₁ s₁ => ?_
    have x₁ := x'.out hIm gI (iter_noSeq it') s₁.extBut
    refine wpAny_assign_Name (s_local x₁.names.fm fun h₂ l₂ u₂ s₂ => ?_)
    have x₂ := x₁.loc X u₂ s₂.extBut (by decide) (by decide)
    have it₂ : h₂.IsListIter s.heap.objs.size l (i + 1) := it₁.at fun o e => s₂.extBut _ o (fun q => hIm (by rw [q]; exact List.mem_cons_self)) e
    have hl₂ : h₂.IsList l vs.toArray := list_s (hl'.extBut s₁.extBut nN) (keepS_but s₂.extBut x₁.names.fm.noSeq)
    obtain ⟨X₃, x₃, k₃, up₃⟩ := rebase X x₂
    refine turn hu hroom hh (G.keeps k₃) X₃ x₃ l₂ I' (by omega) fun h₅ tk₅ σ' J x₅ => ?_
    exact ⟨ns.length + 1 - (i + 1), by omega, h₅, tk₅, i + 1, σ', rfl, x₅.base k₃, J, it₂.at fun o e => x₅.keep _ _ (up₃ _ o hIm e), list_s hl₂ (x₂.keepS x₅), hlt, rfl⟩
  · have hin : i = ns.length := by omega
    refine wpAny_pyNext_list_end hh it' hl' (by simp [hin, hvl]) fun h₁ e₁ => wpAny_execs_nil ?_
    have x₁ := x'.out hIm gI (iter_noSeq it') e₁
    exact h _ _ x₁.keep x₁.names.fm
end
end Mine

namespace Mine
open PySem PySem.W PyProof.Rows PySem.Calls PySem.Spec

section
variable {prog : Program} {w : World} {A : Around} {E : Value → Shared → Prop} {s : Shared} {g g' h h' : Heap} {mg mb : Str → Option Value} {fR fS fO L aN aT aP : Addr} {σ : Sg} {q : Str} {fa : Addr} {cd : Value} {d : Tbl} {n : Nat}

theorem a_names {Q : Flow → Shared → Prop} (fm : Fm s.heap L)
    (h : ∀ h' tk a, Lv h' L (Str.ofString "names") (.ref a) → StrsL h' a NAMES → (∀ z u, z ≠ Str.ofString "names" → Lv s.heap L z u → Lv h' L z u) → Heap.ExtBut L s.heap h' → Q .next { s with heap := h', toks := tk }) :
    wpAny (model prog w) A (exec (nthS (bodyS defL) 0) (lenv q L fa cd)) Q E s := by
  refine wpAny_Assign_Name (List_ ?_)
  refine spliced_more (wpAny_Constant_str ?_)
  refine spliced_more (wpAny_Constant_str ?_)
  refine spliced_more (wpAny_Constant_str ?_)
  refine spliced_more (wpAny_Constant_str ?_)
  refine spliced_more (wpAny_Constant_str ?_)
  refine spliced_none (wpAny_newObj_type ?_)
  refine s_local (fm.keeps (Keep.push _ _)) fun h₁ l₁ u₁ s₁ => ?_
  refine h _ _ _ l₁ (StrsL.s ⟨_, ⟨_, Heap.get?_push_size _ rfl, rfl, _, rfl⟩, .cons _ _ (.cons _ _ (.cons _ _ (.cons _ _ (.cons _ _ .nil))))⟩ (keepS_but s₁.extBut (fm.keeps (Keep.push _ _)).noSeq))
    (fun z u hz l => u₁ z u hz (l.keeps (Keep.push _ _))) fun b o hb e => s₁.extBut b o hb (Heap.get?_push_of_some _ e)

theorem a_order {Q : Flow → Shared → Prop} (fm : Fm s.heap L)
    (h : ∀ h' tk a, Lv h' L (Str.ofString "order") (.ref a) → StrsL h' a σ₀.ord → (∀ z u, z ≠ Str.ofString "order" → Lv s.heap L z u → Lv h' L z u) → Heap.ExtBut L s.heap h' → Q .next { s with heap := h', toks := tk }) :
    wpAny (model prog w) A (exec (nthS (bodyS defL) 2) (lenv q L fa cd)) Q E s := by
  refine wpAny_Assign_Name (List_ ?_)
  refine spliced_more (wpAny_Constant_str ?_)
  refine spliced_more (wpAny_Constant_str ?_)
  refine spliced_none (wpAny_newObj_type ?_)
  refine s_local (fm.keeps (Keep.push _ _)) fun h₁ l₁ u₁ s₁ => ?_
  refine h _ _ _ l₁ (StrsL.s ⟨_, ⟨_, Heap.get?_push_size _ rfl, rfl, _, rfl⟩, .cons _ _ (.cons _ _ .nil)⟩ (keepS_but s₁.extBut (fm.keeps (Keep.push _ _)).noSeq))
    (fun z u hz l => u₁ z u hz (l.keeps (Keep.push _ _))) fun b o hb e => s₁.extBut b o hb (Heap.get?_push_of_some _ e)

theorem a_saved {Q : Flow → Shared → Prop} {v₀ : Option Value} (c : s.heap.IsCell (L + 1 + 1 + 1) v₀)
    (h : ∀ h' tk a, h'.IsCell (L + 1 + 1 + 1) (some (.ref a)) → SavL h' a [] → Heap.ExtBut (L + 1 + 1 + 1) s.heap h' → Q .next { s with heap := h', toks := tk }) :
    wpAny (model prog w) A (exec (nthS (bodyS defL) 4) (lenv q L fa cd)) Q E s := by
  refine wpAny_Assign_Name (List_ (spliced_none (wpAny_newObj_type (wpAny_storeName_cell rfl rfl rfl (c.keeps (Keep.push _ _)) fun h₁ c₁ s₁ => ?_))))
  exact h _ _ _ c₁ (SavL.s ⟨[], ⟨_, Heap.get?_push_size _ rfl, rfl, _, rfl⟩, .nil⟩ (keepS_but s₁.extBut (cell_noSeq (c.keeps (Keep.push _ _))))) fun b o hb e => s₁.extBut b o hb (Heap.get?_push_of_some _ e)

/-- a display of two written pairs -/
theorem e_two {env : Env} {e : Expr} {k1 k2 v1 v2 : Str} {pa pb pc pd pos : Pos} {Q : Value → Shared → Prop} (ht : put (put [] k1 v1) k2 v2 = d) (he : e = .Dict [some (.Constant (.str k1) 0 pa), some (.Constant (.str k2) 0 pb)] [.Constant (.str v1) 0 pc, .Constant (.str v2) 0 pd] pos)
    (h : ∀ h' tk, Keep s.heap h' → SD prog w h' s.heap.objs.size d → Q (.ref s.heap.objs.size) { s with heap := h', toks := tk }) :
    wpAny (model prog w) A (eval e env) Q E s := by
  subst he
  have bD : s.heap.get? s.heap.objs.size = none := none_at_size (Nat.le_refl _)
  refine wpAny_Dict_walk (knd := PySem.strKind prog w) rfl rfl (by simp) (show 2 ≤ 15 by decide) ?_
  refine evalPairs_cons (wpAny_Constant_str (wpAny_bind (wpAny_Constant_str (wpAny_bind (wpAny_standAt (wpAny_pure ?_))))))
  refine evalPairs_cons (wpAny_Constant_str (wpAny_bind (wpAny_Constant_str (wpAny_bind (wpAny_standAt (wpAny_pure (evalPairs_nil ?_)))))))
  refine ⟨[(k1, _), (k2, _)], ⟨strKind_is _ _ _ _, rfl, strKind_is _ _ _ _, rfl, trivial⟩, Heap.DictOf.new _, fun h₂ d₂ s₂ => ?_⟩
  exact h _ _ (sameBut_keep (Keep.push _ _) bD s₂.extBut) ⟨_, d₂, ht ▸ sv_stored (sv_stored .nil)⟩

theorem two₀ : put (put [] (Str.ofString "CC") (Str.ofString "gcc")) (Str.ofString "A") (Str.ofString "") = σ₀.tab := by decide +kernel

theorem a_table {Q : Flow → Shared → Prop} {v₀ : Option Value} (c : s.heap.IsCell (L + 1) v₀)
    (h : ∀ h' tk a, a = s.heap.objs.size → h'.IsCell (L + 1) (some (.ref a)) → SD prog w h' a σ₀.tab → Heap.ExtBut (L + 1) s.heap h' → Q .next { s with heap := h', toks := tk }) :
    wpAny (model prog w) A (exec (nthS (bodyS defL) 1) (lenv q L fa cd)) Q E s := by
  have hlt := c.lt
  refine wpAny_Assign_Name ?_
  with_reducible refine e_two two₀ rfl ?_
  intro h₁ tk₁ k₁ d₁
  refine wpAny_storeName_cell rfl rfl rfl (c.keeps k₁) fun h₂ c₂ s₂ => ?_
  exact h _ _ _ rfl c₂ (d₁.but s₂.extBut (Nat.ne_of_gt hlt)) fun b o hb e => s₂.extBut b o hb (k₁ b o e)
theorem a_plain {Q : Flow → Shared → Prop} {v₀ : Option Value} (c : s.heap.IsCell (L + 1 + 1) v₀)
    (h : ∀ h' tk a, a = s.heap.objs.size → h'.IsCell (L + 1 + 1) (some (.ref a)) → SD prog w h' a σ₀.tab → Heap.ExtBut (L + 1 + 1) s.heap h' → Q .next { s with heap := h', toks := tk }) :
    wpAny (model prog w) A (exec (nthS (bodyS defL) 3) (lenv q L fa cd)) Q E s := by
  have hlt := c.lt
  refine wpAny_Assign_Name ?_
  with_reducible refine e_two two₀ rfl ?_
  intro h₁ tk₁ k₁ d₁
  refine wpAny_storeName_cell rfl rfl rfl (c.keeps k₁) fun h₂ c₂ s₂ => ?_
  exact h _ _ _ rfl c₂ (d₁.but s₂.extBut (Nat.ne_of_gt hlt)) fun b o hb e => s₂.extBut b o hb (k₁ b o e)

def iterS : Stmt → Expr
  | .For (iter := b) .. => b
  | _ => .Constant .none 0 ⟨0, 0, 0, 0⟩

theorem l_iter {Q : Value → Shared → Prop} {aL : Addr} {vs : List Value} {ns : List Int} (hs : Lv s.heap L (Str.ofString "script") (.ref aL)) (hl : s.heap.IsList aL vs.toArray) (hi : IntsAre vs ns) (hlen : ns.length ≤ 63)
    (h : ∀ l h' tk vs' ns', Keep s.heap h' → h'.IsList l vs'.toArray → IntsAre vs' ns' → ns'.length ≤ 90 → Q (.ref l) { s with heap := h', toks := tk }) :
    wpAny (model prog w) A (eval (iterS loopS) (lenv q L fa cd)) Q E s := by
  have hvl := hi.length
  have h40 := length_pickNums_le hi none (some 40) none
  have hpk := hi.pick none (some 40) none
  refine BoolOp_or (wpAny_Subscript_list_slice (e_local hs (wpAny_evalPart_none (wpAny_evalPart_some (wpAny_Constant_int ⟨aL, vs.toArray, none, some 40, rfl, hl, by rw [sizeLine_eq, List.size_toArray]; omega, .none, .int 40 _, ?_⟩)))))
  have hpl := hpk.length
  refine wpAny_truthy_list (items := slicePick vs.toArray none (some 40) none) ⟨_, (Heap.size_push s.heap _) ▸ Heap.get?_push_size _ rfl, rfl, _, rfl⟩ (by rw [Array.length_toList] at hpl; omega) ?_
  cases hc : (slicePick vs.toArray none (some 40) none).isEmpty with
  | false =>
    refine it_t ?_
    refine h _ _ _ (slicePick vs.toArray none (some 40) none).toList _ (Keep.trans (Keep.push _ _) (Keep.push _ _)) ?_ hpk (by omega)
    rw [Array.toArray_toList]
    exact ⟨_, (Heap.size_push s.heap _) ▸ Heap.get?_push_size _ rfl, rfl, _, rfl⟩
  | true =>
    refine it_f ?_
    refine BoolOp_one (List_ ?_)
    refine spliced_more (wpAny_Constant_int ?_)
    refine spliced_more (wpAny_Constant_int ?_)
    refine spliced_more (wpAny_Constant_int ?_)
    refine spliced_more (wpAny_Constant_int ?_)
    refine spliced_more (wpAny_Constant_int ?_)
    refine spliced_more (wpAny_Constant_int ?_)
    refine spliced_none (wpAny_newObj_type ?_)
    refine h _ _ _ _ [0, 20, 3, 1, 2, 60] (Keep.trans (Keep.trans (Keep.push _ _) (Keep.push _ _)) (Keep.push _ _)) ⟨_, Heap.get?_push_size _ rfl, rfl, _, rfl⟩ (.cons _ _ (.cons _ _ (.cons _ _ (.cons _ _ (.cons _ _ (.cons _ _ .nil)))))) (by decide)
end
end Mine

namespace Mine
open PySem PySem.W PyProof.Rows PySem.Calls PySem.Spec

section
variable {prog : Program} {w : World} {A : Around} {E : Value → Shared → Prop} {s : Shared} {g g' h h' : Heap} {mg mb : Str → Option Value} {fR fS fO L aN aT aP : Addr} {σ : Sg} {q : Str} {fa : Addr} {cd : Value} {d : Tbl} {n : Nat}

theorem lo_of {a : Addr} (hlim : h.NoLimit) (ha : h.objs.size ≤ a) : (a == sysModules) = false := by
  have := modules_low hlim
  exact beq_eq_false_iff_ne.mpr (Nat.ne_of_gt (Nat.lt_of_lt_of_le this ha))

set_option maxHeartbeats 2000000 in
theorem law_body {Q : Flow → Shared → Prop} {aL : Addr} {vs : List Value} {ns : List Int} (hu : A.units ≤ 1000) (hroom : A.depth < recursionLimit) (hh : A.handled = none) (G : Gl g mg mb fR fS fO) (hgL : g.objs.size = L) (hg : Keep g s.heap)
    (hs : Lv s.heap L (Str.ofString "script") (.ref aL)) (hl : g.IsList aL vs.toArray) (hi : IntsAre vs ns) (hlen : ns.length ≤ 63)
    (c1 : ∃ v, s.heap.IsCell (L + 1) v) (c2 : ∃ v, s.heap.IsCell (L + 1 + 1) v) (c3 : ∃ v, s.heap.IsCell (L + 1 + 1 + 1) v) (c4 : ∃ v, s.heap.IsCell (L + 1 + 1 + 1 + 1) v)
    (h : ∀ h' tk, Keep g h' → Fm h' L → Q (.ret (.bool true)) { s with heap := h', toks := tk }) :
    wpAny (model prog w) A (execs (bodyS defL) (lenv q L fa cd)) Q E s := by
  obtain ⟨v1, c1⟩ := c1
  obtain ⟨v2, c2⟩ := c2
  obtain ⟨v3, c3⟩ := c3
  obtain ⟨v4, c4⟩ := c4
  have gN : ∀ a, @LE.le Nat instLENat L a → g.get? a = none := fun a ha => none_at_size (by rw [hgL]; exact ha)
  have dne : ∀ i j : Nat, i ≠ j → @Ne Nat (L + i) (L + j) := fun i j hij => by omega
  refine wpAny_execs_cons (a_names hs.fm fun h₁ tk₁ aN l₁ N₁ u₁ e₁ => ?_)
  have g₁ := keep_but hg (gN L (by omega)) e₁
  have c1₁ := cell_but c1 e₁ (dne 1 0 (by decide))
  have c2₁ := cell_but c2 e₁ (dne 2 0 (by decide))
  have c3₁ := cell_but c3 e₁ (dne 3 0 (by decide))
  have c4₁ := cell_but c4 e₁ (dne 4 0 (by decide))
  have s₁ := u₁ _ _ (by decide) hs
  clear u₁ e₁ c1 c2 c3 c4 hs
  refine wpAny_execs_cons (a_table c1₁ fun h₂ tk₂ aT haT t₂ T₂ e₂ => ?_)
  have hT4 : @LT.lt Nat instLTNat (L + 4) aT := by rw [haT]; exact c4₁.lt
  have oT := lo_of (a := aT) (G.lim.keeps g₁) (by rw [haT]; exact Nat.le_refl _)
  have ks₂ := keepS_but e₂ (cell_noSeq c1₁)
  have g₂ := keep_but g₁ (gN (L + 1) (by omega)) e₂
  have l₂ := l₁.but e₂ (dne 0 1 (by decide))
  have s₂ := s₁.but e₂ (dne 0 1 (by decide))
  have N₂ := N₁.s ks₂
  have c2₂ := cell_but c2₁ e₂ (dne 2 1 (by decide))
  have c3₂ := cell_but c3₁ e₂ (dne 3 1 (by decide))
  have c4₂ := cell_but c4₁ e₂ (dne 4 1 (by decide))
  clear c1₁ c2₁ c3₁ c4₁ l₁ s₁ N₁ ks₂ e₂
  refine wpAny_execs_cons (a_order l₂.fm fun h₃ tk₃ aO o₃ O₃ u₃ e₃ => ?_)
  have ks₃ := keepS_but e₃ l₂.fm.noSeq
  have g₃ := keep_but g₂ (gN L (by omega)) e₃
  have l₃ := u₃ _ _ (by decide) l₂
  have s₃ := u₃ _ _ (by decide) s₂
  have N₃ := N₂.s ks₃
  have t₃ := cell_but t₂ e₃ (dne 1 0 (by decide))
  have T₃ := T₂.but e₃ (Nat.ne_of_gt (by omega))
  have c2₃ := cell_but c2₂ e₃ (dne 2 0 (by decide))
  have c3₃ := cell_but c3₂ e₃ (dne 3 0 (by decide))
  have c4₃ := cell_but c4₂ e₃ (dne 4 0 (by decide))
  clear u₃ e₃ ks₃ l₂ s₂ N₂ t₂ T₂ c2₂ c3₂ c4₂
  refine wpAny_execs_cons (a_plain c2₃ fun h₄ tk₄ aP haP p₄ P₄ e₄ => ?_)
  have hP4 : @LT.lt Nat instLTNat (L + 4) aP := by rw [haP]; exact c4₃.lt
  have hTP : @LT.lt Nat instLTNat aT aP := by rw [haP]; obtain ⟨kvs, ⟨o, es, ep, ho, _⟩, _⟩ := T₃; exact Heap.lt_size ho
  have oP := lo_of (a := aP) (G.lim.keeps g₃) (by rw [haP]; exact Nat.le_refl _)
  have ks₄ := keepS_but e₄ (cell_noSeq c2₃)
  have g₄ := keep_but g₃ (gN (L + 1 + 1) (by omega)) e₄
  have l₄ := l₃.but e₄ (dne 0 2 (by decide))
  have s₄ := s₃.but e₄ (dne 0 2 (by decide))
  have o₄ := o₃.but e₄ (dne 0 2 (by decide))
  have N₄ := N₃.s ks₄
  have O₄ := O₃.s ks₄
  have t₄ := cell_but t₃ e₄ (dne 1 2 (by decide))
  have T₄ := T₃.but e₄ (Nat.ne_of_gt (by omega))
  have c3₄ := cell_but c3₃ e₄ (dne 3 2 (by decide))
  have c4₄ := cell_but c4₃ e₄ (dne 4 2 (by decide))
  clear e₄ ks₄ l₃ s₃ o₃ O₃ N₃ t₃ T₃ c2₃ c3₃ c4₃
  refine wpAny_execs_cons (a_saved c3₄ fun h₅ tk₅ aS v₅ V₅ e₅ => ?_)
  have ks₅ := keepS_but e₅ (cell_noSeq c3₄)
  have x : St prog w g L aN aT aP σ₀ h₅ := ⟨keep_but g₄ (gN (L + 1 + 1 + 1) (by omega)) e₅, l₄.but e₅ (dne 0 3 (by decide)), N₄.s ks₅, ⟨aO, o₄.but e₅ (dne 0 3 (by decide)), O₄.s ks₅⟩, cell_but t₄ e₅ (dne 1 3 (by decide)),
    cell_but p₄ e₅ (dne 2 3 (by decide)), ⟨aS, v₅, V₅⟩, ⟨_, cell_but c4₄ e₅ (dne 4 3 (by decide))⟩, T₄.but e₅ (Nat.ne_of_gt (by omega)), P₄.but e₅ (Nat.ne_of_gt (by omega))⟩
  have X : Fix g L aT aP := ⟨gN _ (by omega), gN _ (by omega), gN _ (by omega), gN _ (by omega), gN _ (by omega), gN _ (by omega), gN _ (by omega), Nat.ne_of_lt hTP, hT4, hP4, oT, oP⟩
  have s₅ := s₄.but e₅ (dne 0 3 (by decide))
  clear e₅ ks₅ l₄ s₄ o₄ O₄ N₄ t₄ T₄ c3₄ c4₄ P₄ p₄ v₅ V₅ g₁ g₂ g₃ g₄
  refine wpAny_execs_cons (wpAny_For (l_iter s₅ (hl.at fun o e => x.keep _ o e) hi hlen fun l h₆ tk₆ vs' ns' k₆ hl₆ hi₆ hn₆ => ?_))
  refine the_loop hu hroom hh G X (x.keeps k₆) inv₀ hl₆ hi₆ hn₆ fun h₇ tk₇ k₇ f₇ => ?_
  exact wpAny_execs_cons (wpAny_Return_some (wpAny_Constant_bool (h _ _ k₇ f₇)))
end
end Mine

namespace Mine
open PySem PySem.W PyProof.Rows PySem.Calls PySem.Spec

theorem fn_of {K : Frag} {h : Heap} {f : Addr} {o : Obj} {st : Stmt} {name qual : Str} {doc pm cdv ct : Value} {an : Option Addr} (KX : K.In h) (l : K.lookup f = some o)
    (hd : o.data = .func (fnOf name qual (paramsS st) (bodyS st) (scopeS st) .none .none doc pm an cdv ct)) (c : codeIn K cdv qual = true) : FnAt h f st :=
  ⟨o, name, qual, doc, pm, an, cdv, ct, KX _ _ l, hd, codeRec_of KX c⟩

theorem boot_list : bootBuiltins (Str.ofString "list") = some (.type "list") := by boot_fast
theorem boot_len : bootBuiltins (Str.ofString "len") = some (.builtin "len") := by boot_fast

theorem gl_of {K : Frag} {p : Program} {loose : List Str} {mg mb : Str → Option Value} {h : Heap} {fR fS fO : Addr} {vp : Value} {tp : Tok} (KX : K.In h) (T : TopRead p loose mg mb h)
    (eP : nsIn K mainGlobals (Str.ofString "_INITPRE") = some (some vp)) (hv : vp = .str PRE tp)
    (eR : nsIn K mainGlobals (Str.ofString "_remove_original_values") = some (some (.ref fR))) (eS : nsIn K mainGlobals (Str.ofString "_save_modified_value") = some (some (.ref fS)))
    (eO : nsIn K mainGlobals (Str.ofString "_law_original") = some (some (.ref fO))) (eL : nsIn K mainGlobals (Str.ofString "list") = some none) (eN : nsIn K mainGlobals (Str.ofString "len") = some none)
    (aR : FnAt h fR defR) (aS : FnAt h fS defS) (aO : FnAt h fO defO) : Gl h mg mb fR fS fO :=
  ⟨T.g, T.b, T.nolimit, ⟨tp, by rw [← hv]; exact mg_of KX T.g eP⟩, mg_of KX T.g eR, mg_of KX T.g eS, mg_of KX T.g eO, aR, aS, aO, mg_none_of KX T.g eL, (T.builtins _ (by decide)).trans boot_list,
    mg_none_of KX T.g eN, (T.builtins _ (by decide)).trans boot_len⟩

theorem end_good {cl : Str → Option Addr} {mean : ExcName → Option Value} {args : List WData} {s₁ s' : Shared} (hk : Keep s₁.heap s'.heap) (hos : s'.os = s₁.os) (hg : s'.gens = #[]) :
    GoodW PySem.Challenge.rw_dz0001_01.row.claim cl mean args s₁ (.ok (.ret (.bool true))) s' :=
  ⟨.inl ⟨_, .bool true, [], rfl, fun _ => rfl, .bool true, postW_of (X := (true == true)) rfl (w_eq_bool (w_res rfl) w_lit) rfl, unshared_nil⟩, hk, hos, hg⟩
end Mine

open PySem PySem.W PyProof.Rows
set_option maxHeartbeats 8000000 in
theorem PySem.Challenge.cw_dz0001_01_holds : PySem.Challenge.rw_dz0001_01.Holds := by
  w_on
  o_law
  k_head
  case hw => w_witness2
  w_strict (k_go0
            (rename Frag.In _ _ => KX)
            (rename Top _ _ _ _ _ _ => T)
            (rename Fr _ _ _ _ => F)
            (rename News _ _ _ _ => N)
            (rename IntsAre _ _ => hI)
            (rename Heap.IsList _ _ _ => hL)
            have TR := topRead_of T
            have G := Mine.gl_of KX TR (by k_is) (by rfl) (by k_is) (by k_is) (by k_is) (by k_is) (by k_is) (Mine.fn_of KX (by k_is) (by rfl) (by k_is)) (Mine.fn_of KX (by k_is) (by rfl) (by k_is)) (Mine.fn_of KX (by k_is) (by rfl) (by k_is))
            (rename Shared.gens _ = _ => hg)
            (rename ¬ ((_ : Int) < _) => hc)
            refine Mine.law_body (mg := _) (mb := _) ?hu ?hroom rfl G rfl F.keep ⟨_, F.ns, rfl⟩ hL hI ?hlen
              ⟨_, _, (N _ (.tail _ (.tail _ (.tail _ (.head _))))).1, by assumption⟩ ⟨_, _, (N _ (.tail _ (.tail _ (.head _)))).1, by assumption⟩
              ⟨_, _, (N _ (.tail _ (.head _))).1, by assumption⟩ ⟨_, _, (N _ (.head _)).1, by assumption⟩ ?post
            case hu => exact Nat.le_of_ble_eq_true rfl
            case hroom => simp only [depth_deeper, depth_caller]; decide
            case hlen => omega
            case post => exact fun h' tk k f => Mine.end_good k rfl hg)
#print axioms PySem.Challenge.cw_dz0001_01_holds
