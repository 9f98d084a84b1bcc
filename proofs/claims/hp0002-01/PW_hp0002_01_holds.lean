import PyProof.Rows.All
import Wide.All
import OpenK.AllK
import Wide.FinOn
import PySem.Challenge.RW_hp0002_01
open PySem PySem.W PyProof.Rows
set_option Elab.async false
set_option maxRecDepth 100000
namespace Mine
set_option maxHeartbeats 8000000 in
open_top hd for PySem.Challenge.rw_hp0002_01
open PySem.Calls
/-! names of locals -/
theorem ofStr_inj {a b : String} : (Str.ofString a = Str.ofString b) = (a = b) := by
  apply propext
  constructor
  · intro h
    rw [Str.ofString_eq_toList, Str.ofString_eq_toList] at h
    injection h with h
    have h' : a.toList.map Char.toNat = b.toList.map Char.toNat := by simpa using congrArg Array.toList h
    have h'' : a.toList = b.toList := by
      have inj : ∀ x y : Char, x.toNat = y.toNat → x = y := fun x y e => Char.ext (UInt32.toNat_inj.mp e)
      exact (List.map_inj_right inj).mp h'
    exact String.toList_inj.mp h''
  · intro h; rw [h]

def up (m : Str → Option Value) (x : Str) (v : Value) : Str → Option Value := fun y => if y = x then some v else m y
theorem up_eq {m : Str → Option Value} {x y : Str} {v : Value} : up m x v y = if y = x then some v else m y := rfl

/-! the top's facts -/
noncomputable abbrev KF (w : World) : Frag := hd.heap_39 w.params
structure W0 (w : World) (h : Heap) : Prop where
  k : (KF w).In h
  lim : h.NoLimit
  gl : ∃ mg mb, h.Ns mainGlobals mg ∧ h.Ns builtinsNs mb ∧ ∀ x : Str, x ≠ "__name__" → mb x = bootBuiltins x
theorem W0.keeps {w : World} {h h' : Heap} (W : W0 w h) (hk : ∀ b o, h.get? b = some o → h'.get? b = some o) : W0 w h' :=
  ⟨W.k.keeps hk, W.lim.keeps hk, let ⟨mg, mb, a, b, c⟩ := W.gl; ⟨mg, mb, a.keeps hk, b.keeps hk, c⟩⟩

/-! room -/
structure Ak (A : Around) (n : Nat) : Prop where
  hh : A.handled = none
  dp : A.depth + n < recursionLimit
  un : A.units + 4 * n + 16 < cLine
theorem Ak.deeper {A : Around} {n : Nat} {env : Env} (a : Ak A (n + 1)) : Ak (A.deeper env) n :=
  ⟨a.hh, by have := a.dp; show A.depth + 1 + n < _; omega, by have := a.un; show A.units + 3 + 4 * n + 16 < _; omega⟩
theorem Ak.le {A : Around} {n m : Nat} (a : Ak A n) (h : m ≤ n) : Ak A m :=
  ⟨a.hh, by have := a.dp; omega, by have := a.un; omega⟩
theorem Ak.u1 {A : Around} {n : Nat} (a : Ak A n) : A.units < cLine := by have := a.un; omega
theorem Ak.u2 {A : Around} {n : Nat} (a : Ak A n) : A.units + 1 < cLine := by have := a.un; omega
theorem Ak.u3 {A : Around} {n : Nat} (a : Ak A n) : A.units + 2 < cLine := by have := a.un; omega
theorem Ak.d {A : Around} {n : Nat} (a : Ak A n) : A.depth < recursionLimit := by have := a.dp; omega

/-! a frame -/
structure Cx (s₀ : Shared) (Mut : List Addr) (L : Addr) (Γ : Heap → Prop) (s : Shared) (m : Str → Option Value) : Prop where
  same : ∃ h tk, s = { s₀ with heap := h, toks := tk }
  ns : s.heap.Ns L m
  box : ∀ h', (∀ b o, b ∉ Mut → s.heap.get? b = some o → h'.get? b = some o) → Γ h'
  mem : L ∈ Mut
  ex : ∀ b ∈ Mut, ∃ o, s.heap.get? b = some o ∧ ∀ xs n, o.data = .seq xs n → o.cls ≠ .type "tuple"

section
variable {s₀ s s' : Shared} {Mut : List Addr} {L : Addr} {Γ Γ' : Heap → Prop} {m : Str → Option Value}
theorem Cx.now (F : Cx s₀ Mut L Γ s m) : Γ s.heap := F.box _ fun _ _ _ e => e
theorem Cx.lt (F : Cx s₀ Mut L Γ s m) {b : Addr} (hb : b ∈ Mut) : b < s.heap.objs.size := let ⟨_, h, _⟩ := F.ex b hb; Heap.lt_size h
theorem Cx.keeps (F : Cx s₀ Mut L Γ s m) (k : Keeps s s') : Cx s₀ Mut L Γ s' m := by
  obtain ⟨h, tk, rfl, hk⟩ := k
  obtain ⟨h1, tk1, e1⟩ := F.same
  exact ⟨⟨h, tk, by rw [e1]⟩, F.ns.keeps hk, fun h' q => F.box h' fun b o hb e => q b o hb (hk b o e), F.mem, fun b hb => let ⟨o, e, r⟩ := F.ex b hb; ⟨o, hk b o e, r⟩⟩
theorem Cx.toks (F : Cx s₀ Mut L Γ s m) (tk : Nat) : Cx s₀ Mut L Γ { s with toks := tk } m := F.keeps ⟨s.heap, tk, rfl, fun _ _ e => e⟩
theorem Cx.set (F : Cx s₀ Mut L Γ s m) {h' : Heap} {tk : Nat} {m' : Str → Option Value} (hn : h'.Ns L m') (hs : Heap.SameBut L s.heap h') : Cx s₀ Mut L Γ { s with heap := h', toks := tk } m' := by
  obtain ⟨h1, tk1, e1⟩ := F.same
  refine ⟨⟨h', tk, by rw [e1]⟩, hn, fun h2 q => F.box h2 fun b o hb e => q b o hb (hs.extBut b o (fun x => hb (x ▸ F.mem)) e), F.mem, fun b hb => ?_⟩
  by_cases hbL : b = L
  · subst hbL
    obtain ⟨o, es, ep, ho, hd, _⟩ := hn
    exact ⟨o, ho, fun xs n e => by rw [hd] at e; cases e⟩
  · obtain ⟨o, e, r⟩ := F.ex b hb
    exact ⟨o, hs.extBut b o hbL e, r⟩
theorem Cx.and (F : Cx s₀ Mut L Γ s m) (q : ∀ h', (∀ b o, b ∉ Mut → s.heap.get? b = some o → h'.get? b = some o) → Γ' h') : Cx s₀ Mut L (fun h => Γ h ∧ Γ' h) s m :=
  ⟨F.same, F.ns, fun h' k => ⟨F.box h' k, q h' k⟩, F.mem, F.ex⟩
theorem Cx.weak (F : Cx s₀ Mut L Γ s m) (q : ∀ h, Γ h → Γ' h) : Cx s₀ Mut L Γ' s m := ⟨F.same, F.ns, fun h' k => q _ (F.box h' k), F.mem, F.ex⟩
theorem Cx.tup_nin (F : Cx s₀ Mut L Γ s m) {a : Addr} {items : Array Value} (h : IsTup s.heap a items) : a ∉ Mut := fun hm => by
  obtain ⟨o, ho, r⟩ := F.ex a hm
  obtain ⟨o', ho', hc, n, hd⟩ := h
  rw [ho] at ho'
  cases ho'
  exact r _ _ hd hc
theorem Cx.new_nin (F : Cx s₀ Mut L Γ s m) : s.heap.objs.size ∉ Mut := fun hm => Nat.lt_irrefl _ (F.lt hm)
end

/-! expressions over a frame -/
section
variable {prog : Program} {w : World} {A : Around} {E : Value → Shared → Prop} {s₀ s : Shared} {Mut : List Addr} {env : Env} {Γ : Heap → Prop} {m : Str → Option Value}

theorem ldL {x : Str} {pos : Pos} {v : Value} {Q : Value → Shared → Prop} (F : Cx s₀ Mut env.locals Γ s m) (hv : m x = some v) (h : Q v s)
    (hk : env.scope.kind = .function := by rfl) (hl : env.kindOf x = some .local := by rfl) (hd : (x == ("__debug__" : Str)) = false := by decide) :
    wpAny (model prog w) A (eval (.Name x pos) env) Q E s := wpAny_Name (wpAny_loadName_local hk hl F.ns hv h) hd
theorem ldn' {x : Str} {v : Value} {Q : Value → Shared → Prop} (F : Cx s₀ Mut env.locals Γ s m) (hv : m x = some v) (h : Q v s)
    (hk : env.scope.kind = .function := by rfl) (hl : env.kindOf x = some .local := by rfl) :
    wpAny (model prog w) A (loadName env x) Q E s := wpAny_loadName_local hk hl F.ns hv h
theorem stL {x : Str} {v : Value} {Q : Unit → Shared → Prop} (F : Cx s₀ Mut env.locals Γ s m) (h : ∀ s', Cx s₀ Mut env.locals Γ s' (up m x v) → Q () s')
    (hl : env.kindOf x = some .local := by rfl) (hp : (env.scope.kind == .class || (env.scope.kind == .module && env.locals != env.globals)) = false := by rfl) :
    wpAny (model prog w) A (storeName env x v) Q E s := wpAny_storeName_local hl F.ns (fun _ hn hs => h _ (F.set hn hs)) hp
theorem ldG {x : Str} {pos : Pos} {v : Value} {Q : Value → Shared → Prop} (F : Cx s₀ Mut env.locals Γ s m) (hW : ∀ h, Γ h → W0 w h) (e : nsIn (KF w) mainGlobals x = some (some v)) (h : Q v s)
    (hk : env.scope.kind = .function := by rfl) (hl : env.kindOf x = some .globalImplicit := by rfl) (hg : env.globals = mainGlobals := by rfl) (hd : (x == ("__debug__" : Str)) = false := by decide) :
    wpAny (model prog w) A (eval (.Name x pos) env) Q E s := by
  have W := hW _ F.now
  obtain ⟨mg, mb, G, B, c⟩ := W.gl
  exact Name_function_global hk hl (loadGlobal_global (by rw [hg]; exact G) (mg_of W.k G e) h) hd
theorem ldB {x : Str} {pos : Pos} {v : Value} {Q : Value → Shared → Prop} (F : Cx s₀ Mut env.locals Γ s m) (hW : ∀ h, Γ h → W0 w h) (e : nsIn (KF w) mainGlobals x = some none) (hv : bootBuiltins x = some v) (h : Q v s)
    (hn : x ≠ "__name__" := by decide) (hk : env.scope.kind = .function := by rfl) (hl : env.kindOf x = some .globalImplicit := by rfl) (hg : env.globals = mainGlobals := by rfl) (hb : env.builtins = builtinsNs := by rfl) (hd : (x == ("__debug__" : Str)) = false := by decide) :
    wpAny (model prog w) A (eval (.Name x pos) env) Q E s := by
  have W := hW _ F.now
  obtain ⟨mg, mb, G, B, c⟩ := W.gl
  exact Name_function_global hk hl (loadGlobal_builtin (by rw [hg]; exact G) (mg_none_of W.k G e) (by rw [hb]; exact B) ((c x hn).trans hv) h) hd
theorem cInt {i : Int} {k : Nat} {pos : Pos} {Q : Value → Shared → Prop} (F : Cx s₀ Mut env.locals Γ s m) (h : ∀ t s', Cx s₀ Mut env.locals Γ s' m → Q (.int i t) s') :
    wpAny (model prog w) A (eval (.Constant (.int i) k pos) env) Q E s := wpAny_Constant_int (h _ _ (F.toks _))
end
section
variable {prog : Program} {w : World} {A : Around} {E : Value → Shared → Prop} {s₀ s : Shared} {Mut : List Addr} {L : Addr} {Γ : Heap → Prop} {m : Str → Option Value} {a b : Int} {t u : Tok} {Q : Value → Shared → Prop}
theorem oAdd (F : Cx s₀ Mut L Γ s m) (h : ∀ t s', Cx s₀ Mut L Γ s' m → Q (.int (a + b) t) s') : wpAny (model prog w) A (binaryOp .Add (.int a t) (.int b u)) Q E s := add_int (h _ _ (F.toks _))
theorem oSub (F : Cx s₀ Mut L Γ s m) (h : ∀ t s', Cx s₀ Mut L Γ s' m → Q (.int (a - b) t) s') : wpAny (model prog w) A (binaryOp .Sub (.int a t) (.int b u)) Q E s := sub_int (h _ _ (F.toks _))
theorem oIadd (F : Cx s₀ Mut L Γ s m) (h : ∀ t s', Cx s₀ Mut L Γ s' m → Q (.int (a + b) t) s') : wpAny (model prog w) A (inplaceOp .Add (.int a t) (.int b u)) Q E s := iadd_int (h _ _ (F.toks _))
theorem oMod (F : Cx s₀ Mut L Γ s m) (hb : b ≠ 0) (h : ∀ t s', Cx s₀ Mut L Γ s' m → Q (.int (a.fmod b) t) s') : wpAny (model prog w) A (binaryOp .Mod (.int a t) (.int b u)) Q E s := mod_int hb (h _ _ (F.toks _))
end

/-! a def is entered -/
theorem binds_up (l : List (Str × Value)) : ∀ m : Str → Option Value, (fun x => (l.reverse.lookup x).or (m x)) = l.foldl (fun m p => up m p.1 p.2) m := by
  induction l with
  | nil => intro m; rfl
  | cons p l ih =>
    intro m
    rw [List.foldl_cons, ← ih]
    funext x
    obtain ⟨k, v⟩ := p
    rw [List.reverse_cons, List.lookup_append, Option.or_assoc, up_eq]
    by_cases hx : x = k
    · subst hx; simp [List.lookup_cons]
    · have hb : (x == k) = false := beq_eq_false_iff_ne.mpr hx
      simp [hb, hx, List.lookup_cons]

def Base (s : Shared) : Heap → Prop := fun h => ∀ b o, s.heap.get? b = some o → h.get? b = some o

theorem enter {prog : Program} {w : World} {A : Around} {E : Value → Shared → Prop} {s : Shared} {f : Addr} {oc : Value} {od : Option Addr} {osl : Array (Option Value)} {name : Str} {params : Arguments} {body : List Stmt} {scope : Scope} {pm cd doc : Value}
    {args : List Value} {binds : List (Str × Value)} {Q : Value → Shared → Prop} {n : Nat} (a : Ak A (n + 1)) (W : W0 w s.heap)
    (ho : (KF w).lookup f = some ⟨oc, od, .func (docDef name params body scope pm cd doc), osl⟩) (hcd : codeIn (KF w) cd name = true)
    (hbind : bindArgs (docDef name params body scope pm cd doc) ⟨args, []⟩ = pure binds) (hloc : ∀ x ∈ binds, scope.names.lookup x.1 = some .local)
    (h : ∀ L s' A', Ak A' n → Cx s [L] L (Base s) s' (binds.foldl (fun m p => up m p.1 p.2) (fun _ => none)) →
      wpAny (model prog w) A' (execs body (envOf name scope L f cd)) (fun fl s'' => Q (match fl with | .ret v => v | _ => .none) s'') (fun _ _ => False) s')
    (hco : scope.isCoroutine = false := by rfl) (hgen : scope.isGenerator = false := by rfl) (hk : scope.kind = .function := by rfl)
    (hcell : ∀ x ∈ scope.names, x.2 ≠ .cell := by decide) :
    wpAny (model prog w) A (call (.ref f) args) Q E s := by
  refine wpAny_call (call_plain_ret a.d (W.k f _ ho) rfl W.lim (codeRec_of W.k hcd) hbind hloc (fun h₁ F => ?_) hco hgen hk hcell)
  refine wpAny_mono (h s.heap.objs.size { s with heap := h₁, toks := s.toks + binds.length } _ a.deeper ?_) (fun fl s' q => q) fun _ _ x => x
  have hm : (fun x => binds.reverse.lookup x) = binds.foldl (fun m p => up m p.1 p.2) (fun _ => none) := by
    rw [← binds_up]; funext x; simp
  have ns := F.ns
  rw [hm] at ns
  refine ⟨⟨h₁, _, rfl⟩, ns, fun h' q b o e => q b o (fun hb => ?_) (F.keep b o e), by simp, fun b hb => ?_⟩
  · rw [List.mem_singleton.mp hb] at e
    exact Nat.lt_irrefl _ (Heap.lt_size e)
  · rw [List.mem_singleton.mp hb]
    obtain ⟨o, es, ep, ho, hd, _⟩ := ns
    exact ⟨o, ho, fun xs n e => by rw [hd] at e; cases e⟩

/-- what a pure call leaves -/
theorem Cx.keepsOf {s₀ s : Shared} {Mut : List Addr} {L : Addr} {m : Str → Option Value} {Γ : Heap → Prop} (F : Cx s₀ Mut L Γ s m) (hG : ∀ h, Γ h → Base s₀ h) : Keeps s₀ s := by
  obtain ⟨h, tk, rfl⟩ := F.same
  exact ⟨h, tk, rfl, hG _ F.now⟩
/-! loops -/
def BoxI (I : Addr) (Mut : List Addr) (Γ : Heap → Prop) (h : Heap) : Prop := ∀ h', (∀ b o, b ≠ I → b ∉ Mut → h.get? b = some o → h'.get? b = some o) → Γ h'
theorem BoxI.now {I : Addr} {Mut : List Addr} {Γ : Heap → Prop} {h : Heap} (x : BoxI I Mut Γ h) : Γ h := x h fun _ _ _ _ e => e

section
variable {prog : Program} {w : World} {A : Around} {E : Value → Shared → Prop} {s₀ s : Shared} {Mut : List Addr} {env : Env} {Γ : Heap → Prop} {m : Str → Option Value}

/-- a step that turns only the iterator -/
theorem Cx.stepI {I L : Addr} {s : Shared} {h' : Heap} {tk : Nat} (F : Cx s₀ Mut L (BoxI I Mut Γ) s m) (hI : I ∉ Mut) (hk : ∀ b o, b ∉ [I] → s.heap.get? b = some o → h'.get? b = some o) :
    Cx s₀ Mut L (BoxI I Mut Γ) { s with heap := h', toks := tk } m := by
  obtain ⟨h1, tk1, e1⟩ := F.same
  have hne : ∀ b, b ∈ Mut → b ∉ [I] := fun b hb hbI => hI (List.mem_singleton.mp hbI ▸ hb)
  refine ⟨⟨h', tk, by rw [e1]⟩, F.ns.at' fun o e => hk _ o (hne _ F.mem) e, fun h2 q h3 q3 => ?_, F.mem, fun b hb => ?_⟩
  · exact F.now h3 fun b o hbI hb e => q3 b o hbI hb (q b o hb (hk b o (fun x => hbI (List.mem_singleton.mp x)) e))
  · obtain ⟨o, e, r⟩ := F.ex b hb
    exact ⟨o, hk b o (hne b hb) e, r⟩

theorem loopW {x : Str} {px : Pos} {body : List Stmt} {I : Addr} {fp : List Addr} {n : Nat} {P : Nat → Value → Prop} {St : Nat → Heap → Prop} {R : Result → Shared → Prop}
    (W : Walks prog w A I fp [I] n P St) (F : Cx s₀ Mut env.locals (BoxI I Mut Γ) s m) (hI : I ∉ Mut) (hfp : ∀ b ∈ fp, b ∉ Mut) (hst : St 0 s.heap)
    (J : Nat → (Str → Option Value) → Prop) (h0 : J 0 m)
    (turn : ∀ i v m₁ s₁ Γ', (∀ h, Γ' h → Γ h) → i < n → P i v → J i m₁ → Cx s₀ Mut env.locals Γ' s₁ (up m₁ x v) →
      wpAny (model prog w) A (execs body env) (fun f s₂ => f = .next ∧ ∃ m₂, Cx s₀ Mut env.locals Γ' s₂ m₂ ∧ J (i + 1) m₂) (fun _ _ => False) s₁)
    (fin : ∀ m₁ s₁, J n m₁ → Cx s₀ Mut env.locals Γ s₁ m₁ → R (.ok .next) s₁)
    (hx : env.kindOf x = some .local := by rfl) (hp : (env.scope.kind == .class || (env.scope.kind == .module && env.locals != env.globals)) = false := by rfl) :
    codeAny (model prog w) A (.forLoop (.Name x px) (.ref I) body [] env) R s := by
  refine codeAny_forLoop (fun k s' => ∃ i m', i ≤ n ∧ k = n + 1 - i ∧ St i s'.heap ∧ J i m' ∧ Cx s₀ Mut env.locals (BoxI I Mut Γ) s' m') ?_ (n + 1) ⟨0, m, Nat.zero_le _, rfl, hst, h0, F⟩
  rintro k s' ⟨i, m', hi, rfl, hst', hJ, F'⟩
  by_cases hlt : i < n
  · refine W.item i _ _ _ hlt hst' fun v h₁ tk₁ hP hst₁ hk₁ => ?_
    have F1 := F'.stepI (tk := tk₁) hI hk₁
    refine wpAny_assign_Name (wpAny_storeName_local hx F1.ns (fun h₂ hn₂ hs₂ => ?_) hp)
    have F2 := F1.set (tk := tk₁ + 1) hn₂ hs₂
    have hst₂ : St (i + 1) h₂ := W.frame _ _ _ hst₁ fun b hb o e => hs₂.extBut b o (fun q => hfp b hb (q ▸ F1.mem)) e
    have F3 := F2.and (Γ' := St (i + 1)) fun h' q => W.frame _ _ _ hst₂ fun b hb o e => q b o (hfp b hb) e
    refine wpAny_mono (turn i v m' _ _ (fun h q => q.1.now) hlt hP hJ F3) (fun f s₃ h₃ => ?_) fun _ _ x => x.elim
    obtain ⟨rfl, m₂, F4, hJ'⟩ := h₃
    exact ⟨n + 1 - (i + 1), by omega, i + 1, m₂, hlt, rfl, F4.now.2, hJ', F4.weak fun h q => q.1⟩
  · have hin : i = n := by omega
    subst hin
    refine W.done _ _ _ hst' fun h₁ tk₁ hk₁ => wpAny_execs_nil ?_
    exact fin m' _ hJ ((F'.stepI (tk := tk₁) hI hk₁).weak fun h q => q.now)

/-- the iterator is laid -/
theorem Cx.iter {L : Addr} (F : Cx s₀ Mut L Γ s m) (o : Obj) : Cx s₀ Mut L (BoxI s.heap.objs.size Mut Γ) { s with heap := s.heap.push o } m := by
  obtain ⟨h1, tk1, e1⟩ := F.same
  refine ⟨⟨s.heap.push o, _, by rw [e1]⟩, F.ns.push o, fun h2 q h3 q3 => ?_, F.mem, fun b hb => ?_⟩
  · exact F.box h3 fun b o' hb e => q3 b o' (fun x => Nat.lt_irrefl _ (x ▸ Heap.lt_size e)) hb (q b o' hb (Heap.get?_push_of_some _ e))
  · obtain ⟨o', e, r⟩ := F.ex b hb
    exact ⟨o', Heap.get?_push_of_some _ e, r⟩

theorem loopTup {x : Str} {px : Pos} {body : List Stmt} {t : Addr} {items : Array Value} {R : Result → Shared → Prop}
    (hA : A.handled = none) (F : Cx s₀ Mut env.locals Γ s m) (ht : IsTup s.heap t items)
    (J : Nat → (Str → Option Value) → Prop) (h0 : J 0 m)
    (turn : ∀ i v m₁ s₁ Γ', (∀ h, Γ' h → Γ h) → i < items.size → items[i]? = some v → J i m₁ → Cx s₀ Mut env.locals Γ' s₁ (up m₁ x v) →
      wpAny (model prog w) A (execs body env) (fun f s₂ => f = .next ∧ ∃ m₂, Cx s₀ Mut env.locals Γ' s₂ m₂ ∧ J (i + 1) m₂) (fun _ _ => False) s₁)
    (fin : ∀ m₁ s₁, J items.size m₁ → Cx s₀ Mut env.locals Γ s₁ m₁ → R (.ok .next) s₁)
    (hx : env.kindOf x = some .local := by rfl) (hp : (env.scope.kind == .class || (env.scope.kind == .module && env.locals != env.globals)) = false := by rfl) :
    wpAny (model prog w) A (pyIter (.ref t)) (fun it s₂ => codeAny (model prog w) A (.forLoop (.Name x px) it body [] env) R s₂) E s := by
  have hne : t ≠ s.heap.objs.size := let ⟨_, ho, _⟩ := ht; Nat.ne_of_lt (Heap.lt_size ho)
  refine wpAny_pyIter_tuple ht ?_
  refine loopW (Walks.tuple hA s.heap.objs.size t hne items) (F.iter _) F.new_nin (fun b hb => ?_) ?_ J h0 turn fin hx hp
  · rcases List.mem_cons.mp hb with rfl | hb
    · exact F.new_nin
    · rw [List.mem_singleton.mp hb]; exact F.tup_nin ht
  · exact ⟨⟨_, Heap.get?_push_size _ rfl, rfl, rfl⟩, ht.push _⟩
end
section
variable {prog : Program} {w : World} {A : Around} {E : Value → Shared → Prop} {s₀ s : Shared} {Mut : List Addr} {L : Addr} {Γ : Heap → Prop} {m : Str → Option Value}
theorem Cx.heap (F : Cx s₀ Mut L Γ s m) {h' : Heap} {tk : Nat} (hk : ∀ b o, s.heap.get? b = some o → h'.get? b = some o) : Cx s₀ Mut L Γ { s with heap := h', toks := tk } m := F.keeps ⟨h', tk, rfl, hk⟩
theorem Cx.push (F : Cx s₀ Mut L Γ s m) (o : Obj) : Cx s₀ Mut L Γ { s with heap := s.heap.push o } m := F.keeps ⟨_, s.toks, rfl, fun _ _ e => Heap.get?_push_of_some _ e⟩
theorem Cx.extNew (F : Cx s₀ Mut L Γ s m) {h' : Heap} {tk : Nat} (he : Heap.ExtBut s.heap.objs.size s.heap h') : Cx s₀ Mut L Γ { s with heap := h', toks := tk } m :=
  F.heap fun b o e => he b o (Nat.ne_of_lt (Heap.lt_size e)) e

theorem kMin {a b : Int} {t u : Tok} {Q : Value → Shared → Prop} (F : Cx s₀ Mut L Γ s m) (hh : A.handled = none) (h : ∀ t s', Cx s₀ Mut L Γ s' m → Q (.int (min a b) t) s') :
    wpAny (model prog w) A (call (.builtin "min") [.int a t, .int b u]) Q E s := by
  refine min_two_ints hh fun h' tk hk => ?_
  have F' := F.heap (tk := tk) hk
  by_cases hc : b < a
  · rw [if_pos hc]
    have := h u _ F'
    rwa [show min a b = b by omega] at this
  · rw [if_neg hc]
    have := h t _ F'
    rwa [show min a b = a by omega] at this
end

section
variable {prog : Program} {w : World} {A : Around} {E : Value → Shared → Prop} {s₀ s : Shared} {Mut : List Addr} {env : Env} {Γ : Heap → Prop} {m : Str → Option Value}
theorem asg2 {x y : Str} {p1 p2 tp p3 p4 vp pos : Pos} {k k2 k3 k4 : Nat} {i j : Int} {Q : Flow → Shared → Prop} (F : Cx s₀ Mut env.locals Γ s m) (hh : A.handled = none)
    (h : ∀ t u s', Cx s₀ Mut env.locals Γ s' (up (up m x (.int i t)) y (.int j u)) → Q .next s')
    (hx : env.kindOf x = some .local := by rfl) (hy : env.kindOf y = some .local := by rfl) (hp : (env.scope.kind == .class || (env.scope.kind == .module && env.locals != env.globals)) = false := by rfl)
    (hs : swapsWithSole [.Tuple [.Name x p1, .Name y p2] k tp] (.Tuple [.Constant (.int i) k3 p3, .Constant (.int j) k4 p4] k2 vp) pos.line env = pure false := by rfl)
    (hw : swappedStores [.Tuple [.Name x p1, .Name y p2] k tp] (.Tuple [.Constant (.int i) k3 p3, .Constant (.int j) k4 p4] k2 vp) env = pure none := by rfl) :
    wpAny (model prog w) A (exec (.Assign [.Tuple [.Name x p1, .Name y p2] k tp] (.Tuple [.Constant (.int i) k3 p3, .Constant (.int j) k4 p4] k2 vp) pos) env) Q E s := by
  refine Assign_Tuple ?_ hs hw
  refine wpAny_Tuple (wpAny_items_cons (wpAny_Constant_int (wpAny_items_cons (wpAny_Constant_int (wpAny_items_nil ⟨by rw [sizeLine_eq]; simp, ?_⟩)))))
  have F1 := ((F.toks (s.toks + 1)).toks (s.toks + 1 + 1)).push { cls := .type "tuple", data := .seq #[.int i s.toks, .int j (s.toks + 1)] }
  refine assign_Tuple_tuple (items := #[.int i s.toks, .int j (s.toks + 1)]) hh ⟨_, Heap.get?_push_size _ rfl, rfl, 0, rfl⟩ rfl rfl fun h' he => ?_
  have F2 := F1.extNew (tk := s.toks + 1 + 1) he
  refine assignInOrder_cons (assign_Name (stL F2 (fun s3 F3 => ?_) hx hp))
  refine assignInOrder_cons (assign_Name (stL F3 (fun s4 F4 => ?_) hy hp))
  exact assignInOrder_nil (h _ _ _ F4)
end

/-! global names -/
section
variable (w : World)
theorem g_min : nsIn (KF w) mainGlobals (Str.ofString "min") = some none := by kernel_rfl
theorem b_min : bootBuiltins (Str.ofString "min") = some (.builtin "min") := by kernel_rfl
theorem g_len : nsIn (KF w) mainGlobals (Str.ofString "len") = some none := by kernel_rfl
theorem b_len : bootBuiltins (Str.ofString "len") = some (.builtin "len") := by kernel_rfl
theorem g_range : nsIn (KF w) mainGlobals (Str.ofString "range") = some none := by kernel_rfl
theorem b_range : bootBuiltins (Str.ofString "range") = some (.type "range") := by kernel_rfl
theorem g_int : nsIn (KF w) mainGlobals (Str.ofString "int") = some none := by kernel_rfl
theorem b_int : bootBuiltins (Str.ofString "int") = some (.type "int") := by kernel_rfl
theorem g_sum : nsIn (KF w) mainGlobals (Str.ofString "sum") = some none := by kernel_rfl
theorem b_sum : bootBuiltins (Str.ofString "sum") = some (.builtin "sum") := by kernel_rfl
theorem g_sorted : nsIn (KF w) mainGlobals (Str.ofString "sorted") = some none := by kernel_rfl
theorem b_sorted : bootBuiltins (Str.ofString "sorted") = some (.builtin "sorted") := by kernel_rfl
theorem g_tuple : nsIn (KF w) mainGlobals (Str.ofString "tuple") = some none := by kernel_rfl
theorem b_tuple : bootBuiltins (Str.ofString "tuple") = some (.type "tuple") := by kernel_rfl
theorem g_isinstance : nsIn (KF w) mainGlobals (Str.ofString "isinstance") = some none := by kernel_rfl
theorem b_isinstance : bootBuiltins (Str.ofString "isinstance") = some (.builtin "isinstance") := by kernel_rfl
theorem finsortleft : nsIn (KF w) mainGlobals (Str.ofString "insort_left") = some (some (.ref 23)) := by kernel_rfl
theorem fbisectleft : nsIn (KF w) mainGlobals (Str.ofString "bisect_left") = some (some (.ref 32)) := by kernel_rfl
theorem faddcallers : nsIn (KF w) mainGlobals (Str.ofString "add_callers") = some (some (.ref 39)) := by kernel_rfl
theorem fcountcalls : nsIn (KF w) mainGlobals (Str.ofString "count_calls") = some (some (.ref 46)) := by kernel_rfl
theorem flawways : nsIn (KF w) mainGlobals (Str.ofString "_law_ways") = some (some (.ref 51)) := by kernel_rfl
theorem flawbelow : nsIn (KF w) mainGlobals (Str.ofString "_law_below") = some (some (.ref 58)) := by kernel_rfl
theorem flawgood : nsIn (KF w) mainGlobals (Str.ofString "_law_good") = some (some (.ref 65)) := by kernel_rfl
end
local macro_rules | `(tactic| walk_at "lk") => `(tactic| ((simp only [up_eq, ofStr_inj, String.reduceEq, if_true, if_false, List.foldl, *]) <;> rfl))
def belStep (p : Int × Int) (st : Int) : Int × Int := (p.1 + st, if min p.1 (p.1 + st) < 0 then p.2 + 1 else p.2)
def bel (l : List Int) : Int × Int := l.foldl belStep (0, 0)
theorem bel_snoc (l : List Int) (x : Int) : bel (l ++ [x]) = belStep (bel l) x := by simp [bel]

def TupI (h : Heap) (v : Value) (ns : List Int) : Prop := ∃ a vs, v = .ref a ∧ IsTup h a vs.toArray ∧ IntsAre vs ns
theorem ints_at {vs : List Value} {ns : List Int} (hi : IntsAre vs ns) : ∀ {i : Nat} {v : Value}, vs[i]? = some v → ∃ n t, ns[i]? = some n ∧ v = .int n t := by
  induction hi with
  | nil => intro i v h; simp at h
  | cons n t _ ih =>
    intro i v h
    cases i with
    | zero => exact ⟨n, t, rfl, by simpa using h.symm⟩
    | succ i => exact ih (by simpa using h)
theorem take_snoc {α : Type} {l : List α} {i : Nat} {x : α} (h : l[i]? = some x) : l.take (i + 1) = l.take i ++ [x] := by rw [List.take_add_one, h]; rfl

theorem below_spec {prog : Program} {w : World} {A : Around} {E : Value → Shared → Prop} {s : Shared} {v : Value} {ns : List Int} {n : Nat} {Q : Value → Shared → Prop}
    (a : Ak A (n + 1)) (W : W0 w s.heap) (hv : TupI s.heap v ns) (h : ∀ t s', Keeps s s' → Q (.int (bel ns).2 t) s') :
    wpAny (model prog w) A (call (.ref 58) [v]) Q E s := by
  obtain ⟨t, vs, rfl, ht, hi⟩ := hv
  refine enter (binds := [("way", .ref t)]) a W (f := 58) rfl rfl rfl (locs rfl) fun L s₁ A' a F => ?_
  refine wpAny_execs_cons (asg2 F a.hh fun t1 t2 s2 F2 => ?_)
  refine wpAny_execs_cons (wpAny_For ?_)
  refine ldL F2 (v := .ref t) (by walk_at "lk") ?_
  refine loopTup a.hh F2 (items := vs.toArray) (ht.keeps F2.now)
    (fun i m => (∃ u, m "high" = some (.int (bel (ns.take i)).1 u)) ∧ ∃ u, m "found" = some (.int (bel (ns.take i)).2 u)) ⟨⟨t1, by walk_at "lk"⟩, ⟨t2, by walk_at "lk"⟩⟩ ?_ ?_
  · rintro i v m1 s3 Γ' hG hi' hv ⟨⟨u1, h1⟩, ⟨u2, h2⟩⟩ F3
    obtain ⟨st, u3, hn, rfl⟩ := ints_at hi (by simpa using hv)
    have hW : ∀ h, Γ' h → W0 w h := fun h q => W.keeps (hG h q)
    refine wpAny_execs_cons (wpAny_If (wpAny_isTrue_Compare1 (Call_ ?_)))
    refine ldB F3 hW (g_min w) b_min (PyProof.Rows.callWith_builtin1 (args_cons ?_))
    refine ldL F3 (v := .int (bel (ns.take i)).1 u1) (by walk_at "lk") (args_cons (wpAny_BinOp ?_))
    refine ldL F3 (v := .int (bel (ns.take i)).1 u1) (by walk_at "lk") ?_
    refine ldL F3 (v := .int st u3) (by walk_at "lk") (oAdd F3 fun t4 s4 F4 => args_nil ?_)
    refine kMin F4 a.hh fun t5 s5 F5 => cInt F5 fun t6 s6 F6 => lt_int (wpAny_truthy_bool (split_dec (fun hc => ?_) fun hc => ?_))
    · refine wpAny_execs_cons (wpAny_Assign_Name (wpAny_BinOp ?_))
      refine ldL F6 (v := .int (bel (ns.take i)).2 u2) (by walk_at "lk") (cInt F6 fun t7 s7 F7 => oAdd F7 fun t8 s8 F8 => stL F8 fun s9 F9 => wpAny_execs_nil ?_)
      refine wpAny_execs_cons (wpAny_Assign_Name (wpAny_BinOp ?_))
      refine ldL F9 (v := .int (bel (ns.take i)).1 u1) (by walk_at "lk") ?_
      refine ldL F9 (v := .int st u3) (by walk_at "lk") (oAdd F9 fun t4 s4 F4 => stL F4 fun s5 F5 => wpAny_execs_nil ?_)
      refine ⟨rfl, _, F5, ⟨t4, ?_⟩, ⟨t8, ?_⟩⟩
      · rw [take_snoc hn, bel_snoc]; walk_at "lk"
      · rw [take_snoc hn, bel_snoc, belStep, if_pos hc]; walk_at "lk"
    · refine wpAny_execs_nil ?_
      refine wpAny_execs_cons (wpAny_Assign_Name (wpAny_BinOp ?_))
      refine ldL F6 (v := .int (bel (ns.take i)).1 u1) (by walk_at "lk") ?_
      refine ldL F6 (v := .int st u3) (by walk_at "lk") (oAdd F6 fun t4 s4 F4 => stL F4 fun s5 F5 => wpAny_execs_nil ?_)
      refine ⟨rfl, _, F5, ⟨t4, ?_⟩, ⟨u2, ?_⟩⟩
      · rw [take_snoc hn, bel_snoc]; walk_at "lk"
      · rw [take_snoc hn, bel_snoc, belStep, if_neg hc]; walk_at "lk"
  · rintro m1 s3 ⟨⟨u1, h1⟩, ⟨u2, h2⟩⟩ F3
    refine wpAny_execs_cons (wpAny_Return_some ?_)
    have e : ns.take vs.toArray.size = ns := by rw [List.size_toArray, hi.length, List.take_length]
    rw [e] at h2
    exact ldL F3 (v := .int (bel ns).2 u2) (by walk_at "lk") (h u2 _ (F3.keepsOf fun h q => q))
/-! slices of a tuple -/
def psl {α : Type} (l : List α) (lo hi st : Option Int) : List α :=
  (List.range (Builtin.Slice.slicePlaces (Builtin.Slice.sliceAdjust lo hi (st.getD 1) l.length).1 (Builtin.Slice.sliceAdjust lo hi (st.getD 1) l.length).2 (st.getD 1))).filterMap
    fun (k : Nat) => l[((Builtin.Slice.sliceAdjust lo hi (st.getD 1) l.length).1 + (k : Int) * (st.getD 1)).toNat]?
theorem ints_pick {vs : List Value} {ns : List Int} (hi : IntsAre vs ns) (f : Nat → Nat) : ∀ l : List Nat, IntsAre (l.filterMap fun k => vs[f k]?) (l.filterMap fun k => ns[f k]?)
  | [] => .nil
  | k :: l => by
    rw [List.filterMap_cons, List.filterMap_cons]
    cases h : vs[f k]? with
    | none =>
      have hl := hi.length
      have : ns[f k]? = none := by rw [List.getElem?_eq_none_iff] at h ⊢; omega
      rw [this]
      exact ints_pick hi f l
    | some v =>
      obtain ⟨n, t, hn, rfl⟩ := ints_at hi h
      rw [hn]
      exact .cons n t (ints_pick hi f l)
theorem ints_psl {vs : List Value} {ns : List Int} (hi : IntsAre vs ns) (lo h st : Option Int) : IntsAre (psl vs lo h st) (psl ns lo h st) := by
  unfold psl
  rw [hi.length]
  exact ints_pick hi _ _
theorem psl_len_le {α : Type} (l : List α) (lo hi st : Option Int) : (psl l lo hi st).length ≤ Builtin.Slice.slicePlaces (Builtin.Slice.sliceAdjust lo hi (st.getD 1) l.length).1 (Builtin.Slice.sliceAdjust lo hi (st.getD 1) l.length).2 (st.getD 1) := by
  refine Nat.le_trans (List.length_filterMap_le _ _) ?_
  rw [List.length_range]; exact Nat.le_refl _
theorem places_one (a b : Int) (n : Nat) (ha : 0 ≤ a) (hb : b ≤ n) : Builtin.Slice.slicePlaces a b 1 ≤ n := by
  unfold Builtin.Slice.slicePlaces
  have h1 : (1 : Int) > 0 := by omega
  simp only [h1, if_true, Int.ediv_one]
  split <;> omega
theorem psl_len_one {α : Type} (l : List α) (lo hi : Option Int) : (psl l lo hi none).length ≤ l.length := by
  refine Nat.le_trans (psl_len_le l lo hi none) ?_
  simp only [Option.getD_none]
  refine places_one _ _ _ ?_ ?_
  · unfold Builtin.Slice.sliceAdjust
    cases lo <;> simp <;> (try split) <;> omega
  · unfold Builtin.Slice.sliceAdjust
    cases hi <;> simp <;> (try split) <;> omega
theorem psl_len_rev {α : Type} (l : List α) : (psl l none none (some (-1))).length ≤ l.length := by
  refine Nat.le_trans (psl_len_le l none none (some (-1))) ?_
  simp only [Option.getD_some, Builtin.Slice.sliceAdjust, Builtin.Slice.slicePlaces]
  simp
  split <;> omega
theorem psl_whole {α : Type} (l : List α) (lo hi st : Option Int) (h1 : (Builtin.Slice.sliceAdjust lo hi (st.getD 1) l.length).1 = 0) (h2 : st.getD 1 = 1)
    (h3 : Builtin.Slice.slicePlaces (Builtin.Slice.sliceAdjust lo hi (st.getD 1) l.length).1 (Builtin.Slice.sliceAdjust lo hi (st.getD 1) l.length).2 (st.getD 1) = l.length) : psl l lo hi st = l := by
  unfold psl
  rw [h3, h1, h2]
  have e : (fun (k : Nat) => l[((0 : Int) + (k : Int) * 1).toNat]?) = fun k => l[k]? := by
    funext k
    have : ((0 : Int) + (k : Int) * 1).toNat = k := by omega
    rw [this]
  rw [e]
  clear e h1 h2 h3
  induction l with
  | nil => rfl
  | cons x l ih =>
    rw [List.length_cons, List.range_succ_eq_map, List.filterMap_cons]
    simp only [List.getElem?_cons_zero, List.filterMap_map]
    congr 1

section
variable {prog : Program} {w : World} {A : Around} {E : Value → Shared → Prop} {s : Shared}
theorem partIndex {v : Value} {k : Option Int} {Q : Option Int → Shared → Prop} (hv : IsPart v k) (h : Q k s) : wpAny (model prog w) A (Builtin.Slice.slicePartIndex v) Q E s := by
  cases hv with
  | none => exact slicePart_none h
  | int i t => exact slicePart_int h

theorem sliceApplied_ {sl : Addr} {vl vu vst : Value} {lo hi st : Option Int} {n : Int} {Q : Int × Int × Nat → Shared → Prop} (hs : s.heap.IsSliceOf sl vl vu vst) (pl : IsPart vl lo) (pu : IsPart vu hi) (ps : IsPart vst st) (h0 : st.getD 1 ≠ 0)
    (h : Q ((Builtin.Slice.sliceAdjust lo hi (st.getD 1) n).1, st.getD 1, Builtin.Slice.slicePlaces (Builtin.Slice.sliceAdjust lo hi (st.getD 1) n).1 (Builtin.Slice.sliceAdjust lo hi (st.getD 1) n).2 (st.getD 1)) s) :
    wpAny (model prog w) A (Builtin.Slice.sliceApplied (.ref sl) (pure n)) Q E s := by
  obtain ⟨os, hos, hcs, hds⟩ := id hs
  unfold Builtin.Slice.sliceApplied Builtin.Slice.sliceFields
  refine wpAny_bind (wpAny_bind (wpAny_field hos hds (x := vl) rfl (wpAny_bind (wpAny_field hos hds (x := vu) rfl (wpAny_bind (wpAny_field hos hds (x := vst) rfl (wpAny_pure ?_)))))))
  refine wpAny_bind (partIndex ps ?_)
  have hne : ¬ ((st.getD 1 == 0) = true) := by simpa using h0
  show wpAny _ _ (if ((st.getD 1) == 0) = true then _ else _) _ _ s
  rw [if_neg hne]
  refine wpAny_bind (partIndex pl (wpAny_bind (partIndex pu (wpAny_bind (wpAny_pure (wpAny_pure h))))))

theorem getItem_tupS {t sl : Addr} {vs : List Value} {vl vu vst : Value} {lo hi st : Option Int} {Q : Value → Shared → Prop} (ht : IsTup s.heap t vs.toArray) (hs : s.heap.IsSliceOf sl vl vu vst) (pl : IsPart vl lo) (pu : IsPart vu hi) (ps : IsPart vst st) (h0 : st.getD 1 ≠ 0)
    (hz : (psl vs lo hi st).length ≤ sizeLine)
    (h : ∀ s' t', Keeps s s' → IsTup s'.heap t' (psl vs lo hi st).toArray → Q (.ref t') s') : wpAny (model prog w) A (getItem (.ref t) (.ref sl)) Q E s := by
  obtain ⟨os, hos, hcs, hds⟩ := id hs
  have hTs : s.TypeIs (.ref sl) "slice" := ⟨os, hos, hcs⟩
  unfold getItem
  try with_reducible refine wpAny_holding ?_
  first | refine wpAny_bind (wpAny_pure ?_) | skip
  refine wpAny_bind (wpAny_sequenceKey ht.typeIs (by decide) ?_)
  refine wpAny_bind (wpAny_callSpecial?_slot (name := Str.ofString "__getitem__") ht.typeIs slot_tuple_getitem
    (wpAny_call_entry slot_tuple_getitem ht.typeIs entry_tuple_getitem ?_ (args_tuple_getitem _ _)))
  show wpAny _ _ (Builtin.Tuple.tupleItemsOf (.ref t) >>= _) _ _ s
  refine wpAny_bind (tupleItemsOf_ ht ?_)
  refine wpAny_bind (wpAny_typeOf hTs ?_)
  rw [if_pos (by decide)]
  rw [List.size_toArray]
  refine wpAny_bind (sliceApplied_ hs pl pu ps h0 ?_)
  by_cases hw : ((Builtin.Slice.sliceAdjust lo hi (st.getD 1) vs.length).1 == 0 && st.getD 1 == 1 && (Builtin.Slice.slicePlaces (Builtin.Slice.sliceAdjust lo hi (st.getD 1) vs.length).1 (Builtin.Slice.sliceAdjust lo hi (st.getD 1) vs.length).2 (st.getD 1)) == vs.length) = true
  · show wpAny _ _ (if ((Builtin.Slice.sliceAdjust lo hi (st.getD 1) vs.length).1 == 0 && st.getD 1 == 1 && (Builtin.Slice.slicePlaces (Builtin.Slice.sliceAdjust lo hi (st.getD 1) vs.length).1 (Builtin.Slice.sliceAdjust lo hi (st.getD 1) vs.length).2 (st.getD 1)) == vs.length) = true then _ else _) _ _ s
    rw [if_pos hw]
    simp only [Bool.and_eq_true, beq_iff_eq] at hw
    have e := psl_whole vs lo hi st hw.1.1 hw.1.2 hw.2
    rw [e] at h
    refine wpAny_bind (m := Builtin.Tuple.tupleIsExact (.ref t)) (wpAny_bind (wpAny_typeOf ht.typeIs (wpAny_pure ?_)))
    rw [if_pos (by decide)]
    refine wpAny_bind (wpAny_rule ?_)
    exact wpAny_bind (wpAny_pure (wpAny_pure ⟨_, rfl, wpAny_pure (h s t ⟨s.heap, s.toks, rfl, fun _ _ e => e⟩ ht)⟩))
  · show wpAny _ _ (if ((Builtin.Slice.sliceAdjust lo hi (st.getD 1) vs.length).1 == 0 && st.getD 1 == 1 && (Builtin.Slice.slicePlaces (Builtin.Slice.sliceAdjust lo hi (st.getD 1) vs.length).1 (Builtin.Slice.sliceAdjust lo hi (st.getD 1) vs.length).2 (st.getD 1)) == vs.length) = true then _ else _) _ _ s
    rw [if_neg hw]
    have e : ((List.range (Builtin.Slice.slicePlaces (Builtin.Slice.sliceAdjust lo hi (st.getD 1) vs.length).1 (Builtin.Slice.sliceAdjust lo hi (st.getD 1) vs.length).2 (st.getD 1))).filterMap
        fun (k : Nat) => vs.toArray[((Builtin.Slice.sliceAdjust lo hi (st.getD 1) vs.length).1 + (k : Int) * (st.getD 1)).toNat]?) = psl vs lo hi st := by
      unfold psl
      simp only [List.getElem?_toArray]
    rw [e]
    have hk : Keeps s { s with heap := s.heap.push { cls := .type "tuple", data := .seq (psl vs lo hi st).toArray } } := ⟨_, s.toks, rfl, fun _ _ e => Heap.get?_push_of_some _ e⟩
    have hT : IsTup (s.heap.push { cls := .type "tuple", data := .seq (psl vs lo hi st).toArray }) s.heap.objs.size (psl vs lo hi st).toArray := ⟨_, Heap.get?_push_size _ rfl, rfl, 0, rfl⟩
    have hs : sizeOk (.seq (psl vs lo hi st).toArray) := by show (psl vs lo hi st).toArray.size ≤ sizeLine; rw [List.size_toArray]; exact hz
    have fin := h _ _ hk hT
    first
      | exact wpAny_bind (m := Builtin.Tuple.tupleExact _) (wpAny_newObj_type (wpAny_pure ⟨_, rfl, wpAny_pure fin⟩) hs)
      | exact wpAny_bind (m := Builtin.Tuple.tupleExact _) (wpAny_newObj_type (wpAny_bind (wpAny_pure (wpAny_pure ⟨_, rfl, wpAny_pure fin⟩))) hs)
      | exact wpAny_bind (wpAny_bind (m := Builtin.Tuple.tupleExact _) (wpAny_newObj_type (wpAny_pure (wpAny_pure ⟨_, rfl, wpAny_pure fin⟩)) hs))
      | exact wpAny_bind (wpAny_bind (m := Builtin.Tuple.tupleExact _) (wpAny_newObj_type (wpAny_pure ⟨_, rfl, wpAny_pure fin⟩) hs))
end

/-- an expression that is a value at once -/
def Ev (prog : Program) (w : World) (env : Env) (s : Shared) (e : Expr) (v : Value) : Prop := ∀ A (Q E : Value → Shared → Prop), Q v s → wpAny (model prog w) A (eval e env) Q E s

section
variable {prog : Program} {w : World} {A : Around} {E : Value → Shared → Prop} {s s₀ : Shared} {env : Env} {Mut : List Addr} {L : Addr} {Γ : Heap → Prop} {m : Str → Option Value}
theorem Ev.loc {x : Str} {pos : Pos} {v : Value} (F : Cx s₀ Mut env.locals Γ s m) (hv : m x = some v)
    (hk : env.scope.kind = .function := by rfl) (hl : env.kindOf x = some .local := by rfl) (hd : (x == ("__debug__" : Str)) = false := by decide) : Ev prog w env s (.Name x pos) v :=
  fun _ _ _ h => ldL F hv h hk hl hd

theorem slNew {ns : List Int} {lo hi st : Option Int} {t : Addr} {vs : List Value} {vl vu vst : Value} {Q : Value → Shared → Prop} (F : Cx s₀ Mut L Γ s m) (ht : IsTup s.heap t vs.toArray) (hi' : IntsAre vs ns) (pl : IsPart vl lo) (pu : IsPart vu hi) (ps : IsPart vst st) (h0 : st.getD 1 ≠ 0)
    (hz : (psl vs lo hi st).length ≤ sizeLine) (h : ∀ s' t', Cx s₀ Mut L Γ s' m → TupI s'.heap (.ref t') (psl ns lo hi st) → Keeps s s' → Q (.ref t') s') :
    wpAny (model prog w) A (getItem (.ref t) (.ref s.heap.objs.size)) Q E { s with heap := s.heap.push { cls := .type "slice", data := .fields #[vl, vu, vst] } } := by
  have k1 : Keeps s { s with heap := s.heap.push { cls := .type "slice", data := .fields #[vl, vu, vst] } } := ⟨_, s.toks, rfl, fun _ _ e => Heap.get?_push_of_some _ e⟩
  have ht' : IsTup (s.heap.push { cls := .type "slice", data := .fields #[vl, vu, vst] }) t vs.toArray := ht.push _
  refine getItem_tupS (s := { s with heap := s.heap.push { cls := .type "slice", data := .fields #[vl, vu, vst] } }) ht' (Heap.IsSliceOf.new ..) pl pu ps h0 hz fun s' t' k hT => ?_
  have k2 : Keeps s s' := by
    obtain ⟨h1, tk1, rfl, q1⟩ := k
    exact ⟨h1, tk1, rfl, fun b o e => q1 b o (Heap.get?_push_of_some _ e)⟩
  exact h s' t' (F.keeps k2) ⟨t', _, rfl, hT, ints_psl hi' lo hi st⟩ k2

theorem slFrom {ex ek : Expr} {p pos : Pos} {v : Value} {ns : List Int} {i : Int} {u : Tok} {Q : Value → Shared → Prop} (F : Cx s₀ Mut L Γ s m) (hx : Ev prog w env s ex v) (hk : Ev prog w env s ek (.int i u)) (hT : TupI s.heap v ns) (hz : ns.length ≤ 100)
    (h : ∀ s' v', Cx s₀ Mut L Γ s' m → TupI s'.heap v' (psl ns (some i) none none) → Keeps s s' → Q v' s') (hg : ∀ o r, letTemporaryGo ex o r = pure () := by intro _ _; rfl) :
    wpAny (model prog w) A (eval (.Subscript ex (.Slice (some ek) none none p) pos) env) Q E s := by
  obtain ⟨t, vs, rfl, ht, hi⟩ := hT
  refine wpAny_Subscript_Slice slot_tuple_getitem.lookup (hx _ _ _ (wpAny_Slice (hk _ _ _ (wpAny_pure (wpAny_pure ⟨(ht.push _).typeIs, ?_⟩))))) hg
  refine slNew F ht hi (.int i u) .none .none (by decide) ?_ fun s' t' F' T' k => h s' _ F' T' k
  refine Nat.le_trans (psl_len_one vs _ _) ?_
  rw [hi.length, sizeLine_eq]; omega
theorem slTo {ex ek : Expr} {p pos : Pos} {v : Value} {ns : List Int} {i : Int} {u : Tok} {Q : Value → Shared → Prop} (F : Cx s₀ Mut L Γ s m) (hx : Ev prog w env s ex v) (hk : Ev prog w env s ek (.int i u)) (hT : TupI s.heap v ns) (hz : ns.length ≤ 100)
    (h : ∀ s' v', Cx s₀ Mut L Γ s' m → TupI s'.heap v' (psl ns none (some i) none) → Keeps s s' → Q v' s') (hg : ∀ o r, letTemporaryGo ex o r = pure () := by intro _ _; rfl) :
    wpAny (model prog w) A (eval (.Subscript ex (.Slice none (some ek) none p) pos) env) Q E s := by
  obtain ⟨t, vs, rfl, ht, hi⟩ := hT
  refine wpAny_Subscript_Slice slot_tuple_getitem.lookup (hx _ _ _ (wpAny_Slice (wpAny_pure (hk _ _ _ (wpAny_pure ⟨(ht.push _).typeIs, ?_⟩))))) hg
  refine slNew F ht hi .none (.int i u) .none (by decide) ?_ fun s' t' F' T' k => h s' _ F' T' k
  refine Nat.le_trans (psl_len_one vs _ _) ?_
  rw [hi.length, sizeLine_eq]; omega
theorem slRev {ex : Expr} {p p1 p2 pos : Pos} {k : Nat} {v : Value} {ns : List Int} {Q : Value → Shared → Prop} (F : Cx s₀ Mut L Γ s m) (hx : Ev prog w env s ex v) (hT : TupI s.heap v ns) (hz : ns.length ≤ 100)
    (h : ∀ s' v', Cx s₀ Mut L Γ s' m → TupI s'.heap v' (psl ns none none (some (-1))) → Keeps s s' → Q v' s') (hg : ∀ o r, letTemporaryGo ex o r = pure () := by intro _ _; rfl) :
    wpAny (model prog w) A (eval (.Subscript ex (.Slice none none (some (.UnaryOp .USub (.Constant (.int 1) k p1) p2)) p) pos) env) Q E s := by
  obtain ⟨t, vs, rfl, ht, hi⟩ := hT
  refine wpAny_Subscript_Slice_step slot_tuple_getitem.lookup (hx _ _ _ (wpAny_Slice (wpAny_pure (wpAny_pure (wpAny_UnaryOp (wpAny_Constant_int (neg_int ?_))))))) hg
  have k0 : Keeps s { s with toks := s.toks + 1 + 1 } := ⟨s.heap, _, rfl, fun _ _ e => e⟩
  refine ⟨(ht.push _).typeIs, ?_⟩
  refine slNew (s := { s with toks := s.toks + 1 + 1 }) (F.keeps k0) ht hi .none .none (.int (-1) _) (by decide) ?_ fun s' t' F' T' k => h s' _ F' T' ?_
  · refine Nat.le_trans (psl_len_rev vs) ?_
    rw [hi.length, sizeLine_eq]; omega
  · obtain ⟨h1, tk1, rfl, q1⟩ := k
    exact ⟨h1, tk1, rfl, q1⟩
end
section
variable {prog : Program} {w : World} {A : Around} {E : Value → Shared → Prop} {s s₀ : Shared} {Mut : List Addr} {L : Addr} {Γ : Heap → Prop} {m : Str → Option Value}
theorem addTup {t b : Addr} {vs ws : List Value} {Q : Value → Shared → Prop} (ht : IsTup s.heap t vs.toArray) (hb : IsTup s.heap b ws.toArray)
    (h : ∀ s' t', Keeps s s' → IsTup s'.heap t' (vs ++ ws).toArray → Q (.ref t') s') (hsz : vs.length + ws.length ≤ sizeLine) :
    wpAny (model prog w) A (binaryOp .Add (.ref t) (.ref b)) Q E s := by
  obtain ⟨⟨cls, dd, data, sl⟩, ho, hc, n, hd⟩ := id ht
  obtain ⟨⟨cls2, dd2, data2, sl2⟩, ho2, hc2, n2, hd2⟩ := id hb
  simp only at hc hd hc2 hd2
  subst hc hd hc2 hd2
  have e : vs.toArray ++ ws.toArray = (vs ++ ws).toArray := by simp
  have k0 : Keeps s s := ⟨s.heap, s.toks, rfl, fun _ _ e => e⟩
  by_cases hv : vs = []
  · exact concat_meets ⟨_, ho, rfl⟩ ⟨_, ho2, rfl⟩ noFill_tuple_add seq_tuple_add PySem.F.slot_tuple_add PySem.F.entry_tuple_add (PySem.F.args_tuple_add_2 _ _)
      (tuple_addW0 t b vs.toArray ws.toArray n n2 dd dd2 sl sl2 (by simp [hv])) ⟨ho, ho2, h s b k0 (by rw [hv]; exact hb)⟩
  · by_cases hw : ws = []
    · exact concat_meets ⟨_, ho, rfl⟩ ⟨_, ho2, rfl⟩ noFill_tuple_add seq_tuple_add PySem.F.slot_tuple_add PySem.F.entry_tuple_add (PySem.F.args_tuple_add_2 _ _)
        (tuple_addW1 t b vs.toArray ws.toArray n n2 dd dd2 sl sl2 (by simpa using hv) (by simp [hw])) ⟨ho, ho2, h s t k0 (by rw [hw, List.append_nil]; exact ht)⟩
    · refine concat_meets ⟨_, ho, rfl⟩ ⟨_, ho2, rfl⟩ noFill_tuple_add seq_tuple_add PySem.F.slot_tuple_add PySem.F.entry_tuple_add (PySem.F.args_tuple_add_2 _ _)
        (tuple_addW2 t b vs.toArray ws.toArray n n2 dd dd2 sl sl2 (by simpa using hv) (by simpa using hw) (by rw [List.size_toArray, List.size_toArray]; exact hsz)) ⟨ho, ho2, ?_⟩
      rw [e]
      exact h _ _ ⟨_, s.toks, rfl, fun _ _ e => Heap.get?_push_of_some _ e⟩ ⟨_, Heap.get?_push_size _ rfl, rfl, 0, rfl⟩
theorem oAddT {v v' : Value} {ns ms : List Int} {Q : Value → Shared → Prop} (F : Cx s₀ Mut L Γ s m) (hT : TupI s.heap v ns) (hT' : TupI s.heap v' ms) (hz : ns.length + ms.length ≤ 200)
    (h : ∀ s' t', Cx s₀ Mut L Γ s' m → TupI s'.heap t' (ns ++ ms) → Keeps s s' → Q t' s') : wpAny (model prog w) A (binaryOp .Add v v') Q E s := by
  obtain ⟨t, vs, rfl, ht, hi⟩ := hT
  obtain ⟨b, ws, rfl, hb, hj⟩ := hT'
  exact addTup ht hb (fun s' t' k T => h s' _ (F.keeps k) ⟨t', _, rfl, T, hi.append hj⟩ k) (by rw [hi.length, hj.length, sizeLine_eq]; omega)

theorem lenT {v : Value} {ns : List Int} {Q : Value → Shared → Prop} (F : Cx s₀ Mut L Γ s m) (hT : TupI s.heap v ns) (hz : ns.length ≤ 100) (h : ∀ s' t, Cx s₀ Mut L Γ s' m → Keeps s s' → Q (.int ns.length t) s') :
    wpAny (model prog w) A (call (.builtin "len") [v]) Q E s := by
  obtain ⟨t, vs, rfl, ht, hi⟩ := hT
  have e : ((vs.toArray.size : Nat) : Int) = (ns.length : Int) := by rw [List.size_toArray, hi.length]
  refine PyProof.Rows.len_tuple ht (by rw [e]; omega) ?_
  rw [e]
  exact h _ _ (F.toks _) ⟨s.heap, _, rfl, fun _ _ e => e⟩

theorem rng1 {n : Int} {t : Tok} {Q : Value → Shared → Prop} (F : Cx s₀ Mut L Γ s m) (h : ∀ s' r t u v, Cx s₀ Mut L Γ s' m → IsRange s'.heap r 0 n 1 t u v → Q (.ref r) s') : wpAny (model prog w) A (call (.type "range") [.int n t]) Q E s :=
  call_range_1 (h _ _ _ _ _ ((F.push { cls := .type "range", data := .fields #[.int 0 s.toks, .int n t, .int 1 (s.toks + 1)] }).toks _) (IsRange.new ..))
theorem rng2 {a b : Int} {t u : Tok} {Q : Value → Shared → Prop} (F : Cx s₀ Mut L Γ s m) (h : ∀ s' r t u v, Cx s₀ Mut L Γ s' m → IsRange s'.heap r a b 1 t u v → Q (.ref r) s') : wpAny (model prog w) A (call (.type "range") [.int a t, .int b u]) Q E s :=
  call_range_2 (h _ _ _ _ _ ((F.push { cls := .type "range", data := .fields #[.int a t, .int b u, .int 1 s.toks] }).toks _) (IsRange.new ..))
theorem oIntB {b : Bool} {Q : Value → Shared → Prop} (F : Cx s₀ Mut L Γ s m) (h : ∀ t s', Cx s₀ Mut L Γ s' m → Q (.int (if b then 1 else 0) t) s') : wpAny (model prog w) A (call (.type "int") [.bool b]) Q E s :=
  call_int_bool (h _ _ (F.toks _))
end

section
variable {prog : Program} {w : World} {A : Around} {E : Value → Shared → Prop} {s₀ s : Shared} {Mut : List Addr} {env : Env} {Γ : Heap → Prop} {m : Str → Option Value}
theorem loopRng {x : Str} {px : Pos} {body : List Stmt} {r : Addr} {a₀ b₀ : Int} {t₀ u₀ v₀ : Tok} {n : Nat} {R : Result → Shared → Prop}
    (hA : A.handled = none) (F : Cx s₀ Mut env.locals Γ s m) (hr : IsRange s.heap r a₀ b₀ 1 t₀ u₀ v₀) (hb : -100 ≤ a₀ ∧ a₀ ≤ b₀ ∧ b₀ ≤ 1000) (hn : (n : Int) = b₀ - a₀)
    (J : Nat → (Str → Option Value) → Prop) (h0 : J 0 m)
    (turn : ∀ (i : Nat) t m₁ s₁ Γ', (∀ h, Γ' h → Γ h) → i < n → J i m₁ → Cx s₀ Mut env.locals Γ' s₁ (up m₁ x (.int (a₀ + i) t)) →
      wpAny (model prog w) A (execs body env) (fun f s₂ => f = .next ∧ ∃ m₂, Cx s₀ Mut env.locals Γ' s₂ m₂ ∧ J (i + 1) m₂) (fun _ _ => False) s₁)
    (fin : ∀ m₁ s₁, J n m₁ → Cx s₀ Mut env.locals Γ s₁ m₁ → R (.ok .next) s₁)
    (hx : env.kindOf x = some .local := by rfl) (hp : (env.scope.kind == .class || (env.scope.kind == .module && env.locals != env.globals)) = false := by rfl) :
    wpAny (model prog w) A (pyIter (.ref r)) (fun it s₂ => codeAny (model prog w) A (.forLoop (.Name x px) it body [] env) R s₂) E s := by
  have hsz : Builtin.Range.rangeSize a₀ b₀ 1 = (n : Int) := by rw [rangeSize_nat]; omega
  refine wpAny_pyIter_range hr (small_one (by omega) (by omega) (by omega) (by omega)) ?_
  refine loopW (Walks.range hA s.heap.objs.size a₀ 1 n) (F.iter _) F.new_nin (fun b hb => ?_) ?_ J h0 (fun i v m₁ s₁ Γ' hG hi hv hJ F' => ?_) fin hx hp
  · rw [List.mem_singleton.mp hb]; exact F.new_nin
  · rw [hsz]
    show IsRangeIter _ _ _ _ _
    simpa using Heap.get?_push_size _ rfl
  · obtain ⟨t, rfl⟩ := hv
    have e : a₀ + (i : Int) * 1 = a₀ + (i : Int) := by omega
    rw [e] at F'
    exact turn i t m₁ s₁ Γ' hG hi hJ F'
end
def glStep (p : Int × Int) (st : Int) : Int × Int := (p.1 + st, min p.2 (p.1 + st))
def gl (l : List Int) : Int × Int := l.foldl glStep (0, 1)
theorem gl_snoc (l : List Int) (x : Int) : gl (l ++ [x]) = glStep (gl l) x := by simp [gl]
def rot (ns : List Int) (i : Nat) : List Int := psl ns (some (i : Int)) none none ++ psl ns none (some (i : Int)) none
def gd (ns : List Int) (k : Nat) : Int := ((List.range k).map fun i => if 0 < (gl (rot ns i)).2 then (1 : Int) else 0).sum
theorem gd_succ (ns : List Int) (k : Nat) : gd ns (k + 1) = gd ns k + (if 0 < (gl (rot ns k)).2 then (1 : Int) else 0) := by simp [gd, List.range_succ]
def good (ns : List Int) : Int := gd ns ns.length
theorem TupI.keeps {s s' : Shared} {v : Value} {ns : List Int} (x : TupI s.heap v ns) (k : Keeps s s') : TupI s'.heap v ns := by
  obtain ⟨h, tk, rfl, q⟩ := k
  obtain ⟨a, vs, e, t, i⟩ := x
  exact ⟨a, vs, e, t.keeps q, i⟩
theorem TupI.base {s : Shared} {h : Heap} {v : Value} {ns : List Int} (x : TupI s.heap v ns) (k : Base s h) : TupI h v ns := by
  obtain ⟨a, vs, e, t, i⟩ := x
  exact ⟨a, vs, e, t.keeps k, i⟩

theorem good_spec {prog : Program} {w : World} {A : Around} {E : Value → Shared → Prop} {s : Shared} {v : Value} {ns : List Int} {n : Nat} {Q : Value → Shared → Prop}
    (a : Ak A (n + 1)) (W : W0 w s.heap) (hv : TupI s.heap v ns) (hz : ns.length ≤ 50) (h : ∀ t s', Keeps s s' → Q (.int (good ns) t) s') :
    wpAny (model prog w) A (call (.ref 65) [v]) Q E s := by
  refine enter (binds := [("way", v)]) a W (f := 65) rfl rfl rfl (locs rfl) fun L s₁ A' a F => ?_
  have hW : ∀ h, Base s h → W0 w h := fun h q => W.keeps q
  refine wpAny_execs_cons (wpAny_Assign_Name (cInt F fun t1 s1 F => stL F fun s1 F => ?_))
  refine wpAny_execs_cons (wpAny_For (Call_ ?_))
  refine ldB F hW (g_range w) b_range (PyProof.Rows.callWith_type1 (args_cons (Call_ (ldB F hW (g_len w) b_len (PyProof.Rows.callWith_builtin1 (args_cons ?_))))))
  refine ldL F (v := v) (by walk_at "lk") (args_nil (lenT F (hv.base F.now) (by omega) fun s2 t2 F k2 => args_nil (rng1 F fun s3 r t3 u3 v3 F hr => ?_)))
  refine loopRng a.hh F hr (n := ns.length) (by omega) (by omega)
    (fun i m => m "way" = some v ∧ ∃ u, m "found" = some (.int (gd ns i) u)) ⟨by walk_at "lk", t1, by walk_at "lk"⟩ ?_ ?_
  · rintro i ti m1 s4 Γ' hG hi ⟨hw, u1, h1⟩ F
    have hW' : ∀ h, Γ' h → W0 w h := fun h q => W.keeps (hG h q)
    refine wpAny_execs_cons (asg2 F a.hh fun t1 t2 s5 F => ?_)
    refine wpAny_execs_cons (wpAny_For (wpAny_BinOp ?_))
    have hi0 : (0 : Int) + (i : Int) = (i : Int) := by omega
    refine slFrom F (.loc F (v := v) (by walk_at "lk")) (.loc F (v := .int (0 + (i : Int)) ti) (by walk_at "lk")) (hv.base (hG _ F.now)) (by omega) fun s6 v6 F T6 k6 => ?_
    refine slTo F (.loc F (v := v) (by walk_at "lk")) (.loc F (v := .int (0 + (i : Int)) ti) (by walk_at "lk")) (hv.base (hG _ F.now)) (by omega) fun s7 v7 F T7 k7 => ?_
    rw [hi0] at T6 T7
    refine oAddT F (T6.keeps k7) T7 ?_ fun s8 v8 F T8 k8 => ?_
    · have := psl_len_one ns (some (i : Int)) none
      have := psl_len_one ns none (some (i : Int))
      omega
    obtain ⟨t8, vs8, rfl, ht8, hi8⟩ := T8
    refine loopTup a.hh F (items := vs8.toArray) ht8
      (fun j m => m "way" = some v ∧ (∃ u, m "found" = some (.int (gd ns i) u)) ∧ (∃ u, m "high" = some (.int (gl ((rot ns i).take j)).1 u)) ∧ ∃ u, m "least" = some (.int (gl ((rot ns i).take j)).2 u))
      ⟨by walk_at "lk", ⟨u1, by walk_at "lk"⟩, ⟨t1, by walk_at "lk"⟩, ⟨t2, by walk_at "lk"⟩⟩ ?_ ?_
    · rintro j vj m2 s9 Γ'' hG2 hj hvj ⟨hw, ⟨u1, h1⟩, ⟨u2, h2⟩, ⟨u3, h3⟩⟩ F
      have hW2 : ∀ h, Γ'' h → W0 w h := fun h q => hW' h (hG2 h q)
      obtain ⟨st, u4, hn, rfl⟩ := ints_at hi8 (by simpa using hvj)
      refine wpAny_execs_cons (wpAny_Assign_Name (wpAny_BinOp ?_))
      refine ldL F (v := .int (gl ((rot ns i).take j)).1 u2) (by walk_at "lk") (ldL F (v := .int st u4) (by walk_at "lk") (oAdd F fun t5 s F => stL F fun s F => wpAny_execs_cons (wpAny_Assign_Name (Call_ ?_))))
      refine ldB F hW2 (g_min w) b_min (PyProof.Rows.callWith_builtin1 (args_cons ?_))
      refine ldL F (v := .int (gl ((rot ns i).take j)).2 u3) (by walk_at "lk") (args_cons ?_)
      refine ldL F (v := .int ((gl ((rot ns i).take j)).1 + st) t5) (by walk_at "lk") (args_nil (kMin F a.hh fun t6 s F => stL F fun s F => wpAny_execs_nil ?_))
      refine ⟨rfl, _, F, by walk_at "lk", ⟨u1, by walk_at "lk"⟩, ⟨t5, ?_⟩, ⟨t6, ?_⟩⟩
      · rw [show (rot ns i).take (j + 1) = (rot ns i).take j ++ [st] from take_snoc hn, gl_snoc]; walk_at "lk"
      · rw [show (rot ns i).take (j + 1) = (rot ns i).take j ++ [st] from take_snoc hn, gl_snoc]; walk_at "lk"
    · rintro m2 s9 ⟨hw, ⟨u1, h1⟩, ⟨u2, h2⟩, ⟨u3, h3⟩⟩ F
      have e : (rot ns i).take vs8.toArray.size = rot ns i := by
        rw [List.size_toArray, hi8.length]; exact List.take_length
      rw [e] at h3
      refine wpAny_execs_cons (wpAny_Assign_Name (wpAny_BinOp ?_))
      refine ldL F (v := .int (gd ns i) u1) (by walk_at "lk") (Call_ (ldB F hW' (g_int w) b_int (PyProof.Rows.callWith_type1 (args_cons (wpAny_Compare1 ?_)))))
      refine ldL F (v := .int (gl (rot ns i)).2 u3) (by walk_at "lk") (cInt F fun t7 s F => gt_int (args_nil (oIntB F fun t8 s F => oAdd F fun t9 s F => stL F fun s F => wpAny_execs_nil ?_)))
      refine ⟨rfl, _, F, by walk_at "lk", t9, ?_⟩
      rw [gd_succ]
      simp only [up_eq, if_true, decide_eq_true_eq]
  · rintro m1 s4 ⟨hw, u1, h1⟩ F
    refine wpAny_execs_cons (wpAny_Return_some ?_)
    exact ldL F (v := .int (gd ns ns.length) u1) (by walk_at "lk") (h u1 _ (F.keepsOf fun h q => q))
theorem enterD {prog : Program} {w : World} {A : Around} {E : Value → Shared → Prop} {s : Shared} {f : Addr} {oc : Value} {od : Option Addr} {osl : Array (Option Value)} {name : Str} {params : Arguments} {body : List Stmt} {scope : Scope} {dV kV pm cd ct doc : Value} {an : Option Addr}
    {args : List Value} {binds : List (Str × Value)} {Q : Value → Shared → Prop} {n : Nat} (a : Ak A (n + 1)) (W : W0 w s.heap)
    (ho : (KF w).lookup f = some ⟨oc, od, .func (fnOf name name params body scope dV kV doc pm an cd ct), osl⟩) (hcd : codeIn (KF w) cd name = true)
    (hbind : ∀ S, peek (KF w) S (bindArgs (fnOf name name params body scope dV kV doc pm an cd ct) ⟨args, []⟩) = some binds) (hloc : ∀ x ∈ binds, scope.names.lookup x.1 = some .local)
    (h : ∀ L s' A', Ak A' n → Cx s [L] L (Base s) s' (binds.foldl (fun m p => up m p.1 p.2) (fun _ => none)) →
      wpAny (model prog w) A' (execs body (envOf name scope L f cd)) (fun fl s'' => Q (match fl with | .ret v => v | _ => .none) s'') (fun _ _ => False) s')
    (hco : scope.isCoroutine = false := by rfl) (hgen : scope.isGenerator = false := by rfl) (hk : scope.kind = .function := by rfl)
    (hcell : ∀ x ∈ scope.names, x.2 ≠ .cell := by decide) :
    wpAny (model prog w) A (call (.ref f) args) Q E s := by
  refine wpAny_call (codeAny_call_def a.d (W.k f _ ho) rfl W.lim (codeRec_of W.k hcd) rfl (kp_binds W.k hbind) hcell hloc (fun h₁ hn hk => ?_) hco hgen hk)
  refine wpAny_mono (h s.heap.objs.size { s with heap := h₁, toks := s.toks + binds.length } _ a.deeper ?_) (fun fl s' q => q) fun _ _ x => x.elim
  have hm : (fun x => binds.reverse.lookup x) = binds.foldl (fun m p => up m p.1 p.2) (fun _ => none) := by
    rw [← binds_up]; funext x; simp
  rw [hm] at hn
  refine ⟨⟨h₁, _, rfl⟩, hn, fun h' q b o e => q b o (fun hb => ?_) (hk b o e), by simp, fun b hb => ?_⟩
  · rw [List.mem_singleton.mp hb] at e
    exact Nat.lt_irrefl _ (Heap.lt_size e)
  · rw [List.mem_singleton.mp hb]
    obtain ⟨o, es, ep, ho, hd, _⟩ := hn
    exact ⟨o, ho, fun xs n e => by rw [hd] at e; cases e⟩

/-! tuples compared -/
theorem ints_inj {vs : List Value} {x y : List Int} (hi : IntsAre vs x) (hj : IntsAre vs y) : x = y := by
  induction hi generalizing y with
  | nil => cases hj; rfl
  | cons n t _ ih => cases hj with
    | cons _ _ h2 => rw [ih h2]
def ltL : List Int → List Int → Bool
  | [], [] => false
  | [], _ :: _ => true
  | _ :: _, [] => false
  | a :: x, b :: y => if a = b then ltL x y else decide (a < b)

section
variable {prog : Program} {w : World} {A : Around} {E : Value → Shared → Prop} {s : Shared}
theorem tup_lt_tree {x y : List Int} {a b : Addr} {xs ys : List Value} {P : Fin → Shared → Prop} (hx : IsTup s.heap a xs.toArray) (hi : IntsAre xs x) (hy : IsTup s.heap b ys.toArray) (hj : IntsAre ys y) (h : P (.done (.ret (.bool (ltL x y)))) s) :
    wpAny (model prog w) A (Builtin.«tuple.__lt__» ⟨[.ref a, .ref b], []⟩) P E s := by
  have hTb := hy.typeIs
  show wpAny _ _ (isInstance (.ref b) (.type "tuple") >>= _) _ _ s
  refine wpAny_bind (wpAny_isInstance hTb isSubtype_tuple_tuple ?_)
  simp only [Bool.not_true, Bool.false_eq_true, if_false]
  refine wpAny_bind (tupleItemsOf_ hx ?_)
  refine wpAny_bind (tupleItemsOf_ hy ?_)
  refine wpAny_bind ?_
  refine wpAny_forIn_list _
    (fun rest r s' => r.1 = none ∧ s' = s ∧ ∃ x' y' xs' ys', rest = List.zip xs' ys' ∧ IntsAre xs' x' ∧ IntsAre ys' y' ∧ ltL x' y' = ltL x y ∧ (decide (xs'.length < ys'.length)) = decide (xs.toArray.size < ys.toArray.size))
    _ ?_ ?_ _ _ ⟨rfl, rfl, x, y, xs, ys, rfl, hi, hj, rfl, by simp⟩
  · rintro ⟨u, v⟩ rest r s' ⟨hr, rfl, x', y', xs', ys', hz, hx', hy', hdec, hlen⟩
    cases hx' with
    | nil => simp at hz
    | cons k1 t1 hx'' =>
      cases hy' with
      | nil => simp at hz
      | cons k2 t2 hy'' =>
        simp only [List.zip_cons_cons, List.cons.injEq, Prod.mk.injEq] at hz
        obtain ⟨⟨rfl, rfl⟩, rfl⟩ := hz
        refine wpAny_bind (wpAny_eqBool_int ?_)
        by_cases hk : k1 = k2
        · subst hk
          simp only [beq_self_eq_true, Bool.not_true, Bool.false_eq_true, if_false]
          refine wpAny_pure ⟨rfl, rfl, _, _, _, _, rfl, hx'', hy'', ?_, ?_⟩
          · rw [← hdec, ltL, if_pos rfl]
          · rw [← hlen]; simp
        · have hk' : (k1 == k2) = false := beq_eq_false_iff_ne.mpr hk
          simp only [hk', Bool.not_false, if_true]
          have hf : decide (k1 < k2) = ltL x y := by rw [← hdec, ltL, if_neg hk]
          refine wpAny_bind (wpAny_rule ?_)
          rw [← hf] at h
          refine wpAny_bind (show wpAny (model prog w) A (richCompare .Lt (.int k1 t1) (.int k2 t2)) _ E s' from lt_int ?_)
          first
            | exact wpAny_bind (wpAny_pure (wpAny_pure (wpAny_pure h)))
            | exact wpAny_pure (wpAny_pure (wpAny_pure h))
  · rintro ⟨r1, r2⟩ s' ⟨hr, rfl, x', y', xs', ys', hz, hx', hy', hdec, hlen⟩
    simp only at hr
    subst hr
    refine wpAny_pure ?_
    have hfin : decide (xs.toArray.size < ys.toArray.size) = ltL x y := by
      rw [← hdec, ← hlen]
      cases hx' with
      | nil =>
        cases hy' with
        | nil => simp [ltL]
        | cons _ _ _ => simp [ltL]
      | cons _ _ _ =>
        cases hy' with
        | nil => simp [ltL]
        | cons _ _ _ => simp at hz
    show P (.done (.ret (.bool (decide (xs.toArray.size < ys.toArray.size))))) s'
    rw [hfin]; exact h

theorem ltT {v v' : Value} {x y : List Int} {Q : Value → Shared → Prop} (hu : A.units < cLine) (hv : TupI s.heap v x) (hv' : TupI s.heap v' y) (h : Q (.bool (ltL x y)) s) : wpAny (model prog w) A (compareOp .Lt v v') Q E s := by
  obtain ⟨a, xs, rfl, ha, hi⟩ := hv
  obtain ⟨b, ys, rfl, hb, hj⟩ := hv'
  show wpAny (model prog w) A (richCompare .Lt (.ref a) (.ref b)) Q E s
  exact wpAny_richCompare_same_room (op := .Lt) ha.typeIs hb.typeIs PySem.F.slot_tuple_lt
    (wpAny_call_entry PySem.F.slot_tuple_lt ha.typeIs PySem.F.entry_tuple_lt (tup_lt_tree ha hi hb hj ⟨_, rfl, (fun e => nomatch e), h⟩) (PySem.F.args_tuple_lt_2 _ _)) hu

theorem tup_ne_tree {x y : List Int} {a b : Addr} {xs ys : List Value} {P : Fin → Shared → Prop} (hx : IsTup s.heap a xs.toArray) (hi : IntsAre xs x) (hy : IsTup s.heap b ys.toArray) (hj : IntsAre ys y) (h : P (.done (.ret (.bool (x != y)))) s) :
    wpAny (model prog w) A (Builtin.«tuple.__ne__» ⟨[.ref a, .ref b], []⟩) P E s := by
  have hTb := hy.typeIs
  show wpAny _ _ (isInstance (.ref b) (.type "tuple") >>= _) _ _ s
  refine wpAny_bind (wpAny_isInstance hTb isSubtype_tuple_tuple ?_)
  simp only [Bool.not_true, Bool.false_eq_true, if_false]
  refine wpAny_bind (tupleItemsOf_ hx ?_)
  refine wpAny_bind (tupleItemsOf_ hy ?_)
  refine wpAny_bind ?_
  refine wpAny_forIn_list _
    (fun rest r s' => r.1 = none ∧ s' = s ∧ ∃ x' y' xs' ys', rest = List.zip xs' ys' ∧ IntsAre xs' x' ∧ IntsAre ys' y' ∧ (x' != y') = (x != y) ∧ (xs'.length != ys'.length) = (xs.toArray.size != ys.toArray.size))
    _ ?_ ?_ _ _ ⟨rfl, rfl, x, y, xs, ys, rfl, hi, hj, rfl, by simp⟩
  · rintro ⟨u, v⟩ rest r s' ⟨hr, rfl, x', y', xs', ys', hz, hx', hy', hdec, hlen⟩
    cases hx' with
    | nil => simp at hz
    | cons k1 t1 hx'' =>
      cases hy' with
      | nil => simp at hz
      | cons k2 t2 hy'' =>
        simp only [List.zip_cons_cons, List.cons.injEq, Prod.mk.injEq] at hz
        obtain ⟨⟨rfl, rfl⟩, rfl⟩ := hz
        refine wpAny_bind (wpAny_eqBool_int ?_)
        by_cases hk : k1 = k2
        · subst hk
          simp only [beq_self_eq_true, Bool.not_true, Bool.false_eq_true, if_false]
          refine wpAny_pure ⟨rfl, rfl, _, _, _, _, rfl, hx'', hy'', ?_, ?_⟩
          · rw [← hdec]; simp [bne]
          · rw [← hlen]; simp [bne]
        · have hk' : (k1 == k2) = false := beq_eq_false_iff_ne.mpr hk
          simp only [hk', Bool.not_false, if_true]
          have hf : true = (x != y) := by rw [← hdec]; simp [hk]
          rw [← hf] at h
          first
            | exact wpAny_bind (wpAny_pure (wpAny_pure (wpAny_pure h)))
            | exact wpAny_pure (wpAny_pure (wpAny_pure h))
            | exact wpAny_bind (wpAny_pure (wpAny_bind (wpAny_pure (wpAny_pure (wpAny_pure h)))))
  · rintro ⟨r1, r2⟩ s' ⟨hr, rfl, x', y', xs', ys', hz, hx', hy', hdec, hlen⟩
    simp only at hr
    subst hr
    refine wpAny_pure ?_
    have hfin : (xs.toArray.size != ys.toArray.size) = (x != y) := by
      rw [← hdec, ← hlen]
      cases hx' with
      | nil =>
        cases hy' with
        | nil => simp
        | cons _ _ _ => simp [bne]
      | cons _ _ _ =>
        cases hy' with
        | nil => simp [bne]
        | cons _ _ _ => simp at hz
    show P (.done (.ret (.bool (xs.toArray.size != ys.toArray.size)))) s'
    rw [hfin]; exact h
theorem neT {v v' : Value} {x y : List Int} {Q : Value → Shared → Prop} (hu : A.units < cLine) (hv : TupI s.heap v x) (hv' : TupI s.heap v' y) (h : Q (.bool (x != y)) s) : wpAny (model prog w) A (compareOp .NotEq v v') Q E s := by
  obtain ⟨a, xs, rfl, ha, hi⟩ := hv
  obtain ⟨b, ys, rfl, hb, hj⟩ := hv'
  show wpAny (model prog w) A (richCompare .NotEq (.ref a) (.ref b)) Q E s
  exact wpAny_richCompare_same_room (op := .NotEq) ha.typeIs hb.typeIs PySem.F.slot_tuple_ne
    (wpAny_call_entry PySem.F.slot_tuple_ne ha.typeIs PySem.F.entry_tuple_ne (tup_ne_tree ha hi hb hj ⟨_, rfl, (fun e => nomatch e), h⟩) (PySem.F.args_tuple_ne_2 _ _)) hu
theorem tup_eq_tree {x y : List Int} {a b : Addr} {xs ys : List Value} {P : Fin → Shared → Prop} (hx : IsTup s.heap a xs.toArray) (hi : IntsAre xs x) (hy : IsTup s.heap b ys.toArray) (hj : IntsAre ys y) (h : P (.done (.ret (.bool (x == y)))) s) :
    wpAny (model prog w) A (Builtin.«tuple.__eq__» ⟨[.ref a, .ref b], []⟩) P E s := by
  have hTb := hy.typeIs
  show wpAny _ _ (isInstance (.ref b) (.type "tuple") >>= _) _ _ s
  refine wpAny_bind (wpAny_isInstance hTb isSubtype_tuple_tuple ?_)
  simp only [Bool.not_true, Bool.false_eq_true, if_false]
  refine wpAny_bind (tupleItemsOf_ hx ?_)
  refine wpAny_bind (tupleItemsOf_ hy ?_)
  refine wpAny_bind ?_
  refine wpAny_forIn_list _
    (fun rest r s' => r.1 = none ∧ s' = s ∧ ∃ x' y' xs' ys', rest = List.zip xs' ys' ∧ IntsAre xs' x' ∧ IntsAre ys' y' ∧ (x' == y') = (x == y) ∧ (xs'.length == ys'.length) = (xs.toArray.size == ys.toArray.size))
    _ ?_ ?_ _ _ ⟨rfl, rfl, x, y, xs, ys, rfl, hi, hj, rfl, by simp⟩
  · rintro ⟨u, v⟩ rest r s' ⟨hr, rfl, x', y', xs', ys', hz, hx', hy', hdec, hlen⟩
    cases hx' with
    | nil => simp at hz
    | cons k1 t1 hx'' =>
      cases hy' with
      | nil => simp at hz
      | cons k2 t2 hy'' =>
        simp only [List.zip_cons_cons, List.cons.injEq, Prod.mk.injEq] at hz
        obtain ⟨⟨rfl, rfl⟩, rfl⟩ := hz
        refine wpAny_bind (wpAny_eqBool_int ?_)
        by_cases hk : k1 = k2
        · subst hk
          simp only [beq_self_eq_true, Bool.not_true, Bool.false_eq_true, if_false]
          refine wpAny_pure ⟨rfl, rfl, _, _, _, _, rfl, hx'', hy'', ?_, ?_⟩
          · rw [← hdec]; simp
          · rw [← hlen]; simp
        · have hk' : (k1 == k2) = false := beq_eq_false_iff_ne.mpr hk
          simp only [hk', Bool.not_false, if_true]
          have hf : false = (x == y) := by rw [← hdec]; simp [hk]
          rw [← hf] at h
          first
            | exact wpAny_bind (wpAny_pure (wpAny_pure (wpAny_pure h)))
            | exact wpAny_pure (wpAny_pure (wpAny_pure h))
            | exact wpAny_bind (wpAny_pure (wpAny_bind (wpAny_pure (wpAny_pure (wpAny_pure h)))))
  · rintro ⟨r1, r2⟩ s' ⟨hr, rfl, x', y', xs', ys', hz, hx', hy', hdec, hlen⟩
    simp only at hr
    subst hr
    refine wpAny_pure ?_
    have hfin : (xs.toArray.size == ys.toArray.size) = (x == y) := by
      rw [← hdec, ← hlen]
      cases hx' with
      | nil =>
        cases hy' with
        | nil => simp
        | cons _ _ _ => simp
      | cons _ _ _ =>
        cases hy' with
        | nil => simp
        | cons _ _ _ => simp at hz
    show P (.done (.ret (.bool (xs.toArray.size == ys.toArray.size)))) s'
    rw [hfin]; exact h
end
/-! a list of tuples -/
structure TupsI (h : Heap) (vs : List Value) (ws : List (List Int)) : Prop where
  len : vs.length = ws.length
  get : ∀ (i : Nat) (v : Value), vs[i]? = some v → ∃ n, ws[i]? = some n ∧ TupI h v n
theorem TupsI.nil {h : Heap} : TupsI h [] [] := ⟨rfl, fun i v e => by simp at e⟩
theorem TupsI.cons {h : Heap} {v : Value} {n : List Int} {vs : List Value} {ws : List (List Int)} (x : TupI h v n) (r : TupsI h vs ws) : TupsI h (v :: vs) (n :: ws) := by
  refine ⟨by simp [r.len], fun i v' e => ?_⟩
  cases i with
  | zero => simp at e; subst e; exact ⟨n, rfl, x⟩
  | succ i => exact r.get i v' (by simpa using e)
theorem TupsI.append {h : Heap} {vs vs' : List Value} {ws ws' : List (List Int)} (a : TupsI h vs ws) (b : TupsI h vs' ws') : TupsI h (vs ++ vs') (ws ++ ws') := by
  refine ⟨by simp [a.len, b.len], fun i v e => ?_⟩
  by_cases hi : i < vs.length
  · rw [List.getElem?_append_left hi] at e
    obtain ⟨n, hn, t⟩ := a.get i v e
    exact ⟨n, by rw [List.getElem?_append_left (a.len ▸ hi)]; exact hn, t⟩
  · rw [List.getElem?_append_right (by omega)] at e
    obtain ⟨n, hn, t⟩ := b.get _ v e
    exact ⟨n, by rw [List.getElem?_append_right (by rw [← a.len]; omega), ← a.len]; exact hn, t⟩
theorem TupsI.mono {h h' : Heap} {vs : List Value} {ws : List (List Int)} (a : TupsI h vs ws) (k : ∀ v n, TupI h v n → TupI h' v n) : TupsI h' vs ws :=
  ⟨a.len, fun i v e => let ⟨n, hn, t⟩ := a.get i v e; ⟨n, hn, k v n t⟩⟩
theorem TupsI.keeps {s s' : Shared} {vs : List Value} {ws : List (List Int)} (a : TupsI s.heap vs ws) (k : Keeps s s') : TupsI s'.heap vs ws := a.mono fun _ _ t => t.keeps k
theorem TupsI.base {s : Shared} {h : Heap} {vs : List Value} {ws : List (List Int)} (a : TupsI s.heap vs ws) (k : Base s h) : TupsI h vs ws := a.mono fun _ _ t => t.base k

/-! bisect_left -/
def bisF (ws : List (List Int)) (x : List Int) : Nat → Nat → Nat → Nat
  | 0, lo, _ => lo
  | f + 1, lo, hi => if lo < hi then (if ltL (ws.getD ((lo + hi) / 2) []) x then bisF ws x f ((lo + hi) / 2 + 1) hi else bisF ws x f lo ((lo + hi) / 2)) else lo
def bis (ws : List (List Int)) (x : List Int) : Nat := bisF ws x ws.length 0 ws.length
theorem bisF_fuel (ws : List (List Int)) (x : List Int) : ∀ f g lo hi, hi - lo ≤ f → hi - lo ≤ g → bisF ws x f lo hi = bisF ws x g lo hi := by
  intro f
  induction f with
  | zero =>
    intro g lo hi hf _
    cases g with
    | zero => rfl
    | succ g => rw [bisF, bisF, if_neg (by omega)]
  | succ f ih =>
    intro g lo hi hf hg
    cases g with
    | zero => rw [bisF, bisF, if_neg (by omega)]
    | succ g =>
      rw [bisF, bisF]
      by_cases h : lo < hi
      · rw [if_pos h, if_pos h, ih g _ hi (by omega) (by omega), ih g lo _ (by omega) (by omega)]
      · rw [if_neg h, if_neg h]
theorem bisF_le (ws : List (List Int)) (x : List Int) : ∀ f lo hi, lo ≤ hi → bisF ws x f lo hi ≤ hi := by
  intro f
  induction f with
  | zero => intro lo hi h; exact h
  | succ f ih =>
    intro lo hi h
    rw [bisF]
    by_cases h1 : lo < hi
    · rw [if_pos h1]
      by_cases h2 : ltL (ws.getD ((lo + hi) / 2) []) x = true
      · rw [if_pos h2]; exact ih _ _ (by omega)
      · rw [if_neg h2]; exact Nat.le_trans (ih _ _ (by omega)) (by omega)
    · rw [if_neg h1]; exact h

section
variable {prog : Program} {w : World} {A : Around} {E : Value → Shared → Prop} {s s₀ : Shared} {env : Env} {Mut : List Addr} {L : Addr} {Γ : Heap → Prop} {m : Str → Option Value}
theorem itemL {ex : Expr} {nm : Str} {p pos : Pos} {l : Addr} {vs : List Value} {ws : List (List Int)} {i : Nat} {k : Int} {u : Tok} {Q : Value → Shared → Prop} (hx : Ev prog w env s ex (.ref l)) (hk : Ev prog w env s (.Name nm p) (.int k u)) (hki : k = (i : Int))
    (hl : s.heap.IsList l vs.toArray) (hT : TupsI s.heap vs ws) (hi : i < ws.length) (hz : ws.length ≤ 1000) (h : ∀ v, TupI s.heap v (ws.getD i []) → Q v s) (hg : ∀ o r, letTemporaryGo ex o r = pure () := by intro _ _; rfl) :
    wpAny (model prog w) A (eval (.Subscript ex (.Name nm p) pos) env) Q E s := by
  subst hki
  have hi' : i < vs.length := hT.len ▸ hi
  obtain ⟨n, hn, t⟩ := hT.get i _ (List.getElem?_eq_getElem hi')
  have e : ws.getD i [] = n := by rw [List.getD_eq_getElem?_getD, hn]; rfl
  rw [e] at h
  refine Subscript_Name (hx _ _ _ (hk _ _ _ ⟨"list", _, slot_list_getitem.lookup, hl.typeIs, ?_⟩)) hg
  exact wpAny_getItem_list hl (by omega) (by omega) (x := vs[i]) (by simp [hi']) (h _ t)
theorem lenL {l : Addr} {vs : List Value} {Q : Value → Shared → Prop} (F : Cx s₀ Mut L Γ s m) (hl : s.heap.IsList l vs.toArray) (hz : vs.length ≤ 1000) (h : ∀ s' t, Cx s₀ Mut L Γ s' m → Keeps s s' → Q (.int vs.length t) s') :
    wpAny (model prog w) A (call (.builtin "len") [.ref l]) Q E s := by
  have e : ((vs.toArray.size : Nat) : Int) = (vs.length : Int) := by rw [List.size_toArray]
  refine len_list hl (by rw [e]; omega) ?_
  rw [e]
  exact h _ _ (F.toks _) ⟨s.heap, _, rfl, fun _ _ e => e⟩
theorem oFdiv2 {a : Int} {t u : Tok} {Q : Value → Shared → Prop} (F : Cx s₀ Mut L Γ s m) (h : ∀ t s', Cx s₀ Mut L Γ s' m → Q (.int (a.fdiv 2) t) s') (hb : 0 ≤ a ∧ a < 100000) : wpAny (model prog w) A (binaryOp .FloorDiv (.int a t) (.int 2 u)) Q E s :=
  floordiv_int (by decide) (h _ _ (F.toks _)) (.inl (PyProof.noPylong_small (by omega)))
end

theorem bis_spec {prog : Program} {w : World} {A : Around} {E : Value → Shared → Prop} {s : Shared} {l : Addr} {vx : Value} {vs : List Value} {ws : List (List Int)} {x : List Int} {args : List Value} {t0 : Tok} {n : Nat} {Q : Value → Shared → Prop}
    (a : Ak A (n + 1)) (W : W0 w s.heap) (hl : s.heap.IsList l vs.toArray) (hT : TupsI s.heap vs ws) (hx : TupI s.heap vx x) (hz : ws.length ≤ 500)
    (hargs : (args = [.ref l, vx] ∧ t0 = 202) ∨ args = [.ref l, vx, .int 0 t0, .none]) (h : ∀ t s', Keeps s s' → Q (.int (bis ws x) t) s') :
    wpAny (model prog w) A (call (.ref 32) args) Q E s := by
  refine enterD (binds := [("a", .ref l), ("x", vx), ("lo", .int 0 t0), ("hi", .none), ("key", .none)]) a W (f := 32) rfl rfl ?_ (locs rfl) fun L s₁ A' a F => ?_
  · rcases hargs with ⟨rfl, rfl⟩ | rfl
    · intro S; rfl
    · intro S; rfl
  have hW : ∀ h, Base s h → W0 w h := fun h q => W.keeps q
  refine wpAny_execs_cons (wpAny_If (wpAny_isTrue_Compare1 ?_))
  refine ldL F (v := .int 0 t0) (by walk_at "lk") (cInt F fun t s F => lt_int (wpAny_truthy_bool ?_))
  rw [if_neg (by decide)]
  refine wpAny_execs_nil ?_
  refine wpAny_execs_cons (wpAny_If (wpAny_isTrue_Compare1 ?_))
  refine ldL F (v := .none) (by walk_at "lk") (wpAny_Constant_none (is_none (wpAny_truthy_bool ?_)))
  rw [if_pos (by decide)]
  refine wpAny_execs_cons (wpAny_Assign_Name (Call_ ?_))
  refine ldB F hW (g_len w) b_len (PyProof.Rows.callWith_builtin1 (args_cons ?_))
  refine ldL F (v := .ref l) (by walk_at "lk") (args_nil (lenL F (hl.at fun o e => F.now _ o e) (by have := hT.len; omega) fun s tl F k => stL F fun s F => wpAny_execs_nil ?_))
  refine wpAny_execs_cons (wpAny_If (wpAny_isTrue_Compare1 ?_))
  refine ldL F (v := .none) (by walk_at "lk") (wpAny_Constant_none (is_none (wpAny_truthy_bool ?_)))
  rw [if_pos (by decide)]
  refine wpAny_execs_cons (wpAny_While ?_)
  refine codeAny_whileLoop (fun k s' => ∃ (m' : Str → Option Value) (lo hi : Nat) (t1 t2 : Tok), Cx _ [L] L (Base _) s' m' ∧ m' "a" = some (.ref l) ∧ m' "x" = some vx ∧ m' "lo" = some (.int lo t1) ∧ m' "hi" = some (.int hi t2) ∧
    lo ≤ hi ∧ hi ≤ ws.length ∧ k = hi - lo ∧ bisF ws x (hi - lo) lo hi = bis ws x) ?_ ws.length
    ⟨_, 0, ws.length, t0, tl, F, by walk_at "lk", by walk_at "lk", by walk_at "lk", by rw [← hT.len]; walk_at "lk", Nat.zero_le _, Nat.le_refl _, rfl, rfl⟩
  rintro k s' ⟨m', lo, hi, t1, t2, F, ha, hx', hlo, hhi, h1, h2, rfl, hb⟩
  refine wpAny_isTrue_Compare1 ?_
  refine ldL F (v := .int lo t1) (by walk_at "lk") (ldL F (v := .int hi t2) (by walk_at "lk") (lt_int (wpAny_truthy_bool (split_dec (fun hc => ?_) fun hc => ?_))))
  · have hc' : lo < hi := by omega
    refine wpAny_execs_cons (wpAny_Assign_Name (wpAny_BinOp (wpAny_BinOp ?_)))
    refine ldL F (v := .int lo t1) (by walk_at "lk") (ldL F (v := .int hi t2) (by walk_at "lk") (oAdd F fun t3 s F => cInt F fun t4 s F => oFdiv2 F (fun t5 s F => stL F fun s F => ?_) (by omega)))
    have hm : ((lo : Int) + (hi : Int)).fdiv 2 = (((lo + hi) / 2 : Nat) : Int) := by
      rw [Int.fdiv_eq_ediv_of_nonneg _ (by omega)]; omega
    rw [hm] at F
    refine wpAny_execs_cons (wpAny_If (wpAny_isTrue_Compare1 ?_))
    refine itemL (i := (lo + hi) / 2) (.loc F (v := .ref l) (by walk_at "lk")) (.loc F (v := .int (((lo + hi) / 2 : Nat) : Int) t5) (by walk_at "lk")) rfl (hl.at fun o e => F.now _ o e) (hT.base F.now) (by omega) (by omega) fun v hv => ?_
    refine ldL F (v := vx) (by walk_at "lk") (ltT a.u1 hv (hx.base F.now) (wpAny_truthy_bool (split_bool (fun hl' => ?_) fun hl' => ?_)))
    · refine wpAny_execs_cons (wpAny_Assign_Name (wpAny_BinOp ?_))
      refine ldL F (v := .int (((lo + hi) / 2 : Nat) : Int) t5) (by walk_at "lk") (cInt F fun t s F => oAdd F fun t6 s F => stL F fun s F => wpAny_execs_nil (wpAny_execs_nil ?_))
      refine ⟨hi - ((lo + hi) / 2 + 1), by omega, _, (lo + hi) / 2 + 1, hi, t6, t2, F, by walk_at "lk", by walk_at "lk", by walk_at "lk", by walk_at "lk", by omega, h2, rfl, ?_⟩
      rw [← hb]
      obtain ⟨f, hf⟩ : ∃ f, hi - lo = f + 1 := ⟨hi - lo - 1, by omega⟩
      rw [hf, bisF, if_pos hc', if_pos hl']
      exact bisF_fuel ws x _ _ _ _ (by omega) (by omega)
    · refine wpAny_execs_cons (wpAny_Assign_Name ?_)
      refine ldL F (v := .int (((lo + hi) / 2 : Nat) : Int) t5) (by walk_at "lk") (stL F fun s F => wpAny_execs_nil (wpAny_execs_nil ?_))
      refine ⟨(lo + hi) / 2 - lo, by omega, _, lo, (lo + hi) / 2, t1, t5, F, by walk_at "lk", by walk_at "lk", by walk_at "lk", by walk_at "lk", by omega, by omega, rfl, ?_⟩
      rw [← hb]
      obtain ⟨f, hf⟩ : ∃ f, hi - lo = f + 1 := ⟨hi - lo - 1, by omega⟩
      rw [hf, bisF, if_pos hc', if_neg (by rw [hl']; decide)]
      exact bisF_fuel ws x _ _ _ _ (by omega) (by omega)
  · have hc' : ¬ lo < hi := by omega
    have e : bis ws x = lo := by
      rw [← hb, show hi - lo = 0 by omega]; rfl
    refine wpAny_execs_nil (wpAny_execs_nil (wpAny_execs_cons (wpAny_Return_some ?_)))
    rw [e] at h
    exact ldL F (v := .int lo t1) (by walk_at "lk") (h t1 _ (F.keepsOf fun h q => q))
theorem callDef {prog : Program} {w : World} {A : Around} {E : Value → Shared → Prop} {s : Shared} {env : Env} {pos : Pos} {f : Addr} {o : Obj} {fd : FuncData} {e : Expr} {rest : List Expr} {Q : Value → Shared → Prop} (ho : (KF w).lookup f = some o) (hdat : o.data = .func fd)
    (h : wpAny (model prog w) A (spliced (backTo pos (starEach (e :: rest) env))) (fun vs s₁ => W0 w s₁.heap ∧ wpAny (model prog w) A (call (.ref f) vs) Q E s₁) E s)
    (he : starEach (e :: rest) env = (false, eval e env) :: starEach rest env := by rfl) :
    wpAny (model prog w) A (callWith pos (.ref f) [] (backTo pos (starEach (e :: rest) env)) []) Q E s :=
  callWith_def hdat (wpAny_mono h (fun _ _ x => ⟨x.1.k f o ho, x.2⟩) fun _ _ x => x) he

/-! a list is turned -/
def Turned (l : Addr) (s s' : Shared) : Prop := ∃ h tk, s' = { s with heap := h, toks := tk } ∧ ∀ b o, b ≠ l → s.heap.get? b = some o → h.get? b = some o
def ins {α : Type} (l : List α) (k : Nat) (x : α) : List α := l.take k ++ x :: l.drop k

theorem insMethK {prog : Program} {w : World} {A : Around} {E : Value → Shared → Prop} {s : Shared} {l : Addr} {vs : List Value} {k : Int} {u : Tok} {y : Value} {Q : Value → Shared → Prop} (hl : s.heap.PlainList l vs.toArray) (h0 : 0 ≤ k) (hi : k.toNat ≤ vs.length) (hz : vs.length ≤ 1000)
    (h : ∀ s', Turned l s s' → s'.heap.PlainList l (ins vs k.toNat y).toArray → Q .none s') : wpAny (model prog w) A (call (.builtin "list.insert") [.ref l, .int k u, y]) Q E s := by
  obtain ⟨n, ho⟩ := hl
  have hc : ¬(!Builtin.List.listFitsIndex k) = true := by
    have h1 : Builtin.List.listFitsIndex k = true := by
      unfold Builtin.List.listFitsIndex
      rw [Bool.and_eq_true]
      exact ⟨decide_eq_true (by omega), decide_eq_true (by omega)⟩
    rw [h1]
    decide
  have hz' : vs.toArray.size ≤ sizeLine := by rw [List.size_toArray, sizeLine_eq]; omega
  have hm := PySem.AutoSeq1.list_insert_list_int_val_1 l vs.toArray n k u y hc hz'
  refine call_meets PySem.F.slot_list_insert ⟨_, ho, rfl⟩ PySem.F.entry_list_insert (PySem.F.args_list_insert_3 _ _ _) hm ⟨ho, ?_⟩
  refine h _ ⟨_, _, rfl, fun b o hb e => (Heap.get?_update_other _ _ (Ne.symm hb)).trans e⟩ ?_
  have e : (fun xs : Array Value => have k := if k < 0 then (k + (xs.size : Int)).toNat else min k.toNat xs.size; (xs.extract 0 k).push y ++ xs.extract k) vs.toArray = (ins vs k.toNat y).toArray := by
    have h1 : ¬ k < 0 := by omega
    simp only [h1, if_false, List.size_toArray, Nat.min_eq_left hi]
    apply Array.toList_inj.mp
    unfold ins
    simp [List.take_of_length_le]
  have hs := Heap.get?_update_self (Obj.mapSeq (fun xs : Array Value => have k := if k < 0 then (k + (xs.size : Int)).toNat else min k.toNat xs.size; (xs.extract 0 k).push y ++ xs.extract k)) ho rfl
  refine ⟨if (ins vs k.toNat y).toArray.size == vs.toArray.size then n else n + 1, hs.trans ?_⟩
  show some (Obj.mapSeq _ _) = _
  rw [← e]
  rfl
theorem insMeth {prog : Program} {w : World} {A : Around} {E : Value → Shared → Prop} {s : Shared} {l : Addr} {vs : List Value} {i : Nat} {u : Tok} {y : Value} {Q : Value → Shared → Prop} (hl : s.heap.PlainList l vs.toArray) (hi : i ≤ vs.length) (hz : vs.length ≤ 1000)
    (h : ∀ s', Turned l s s' → s'.heap.PlainList l (ins vs i y).toArray → Q .none s') : wpAny (model prog w) A (call (.builtin "list.insert") [.ref l, .int i u, y]) Q E s :=
  insMethK hl (by omega) (by omega) hz (by rw [Int.toNat_natCast]; exact h)

theorem insort_spec {prog : Program} {w : World} {A : Around} {E : Value → Shared → Prop} {s : Shared} {l : Addr} {vx : Value} {vs : List Value} {ws : List (List Int)} {x : List Int} {n : Nat} {Q : Value → Shared → Prop}
    (a : Ak A (n + 2)) (W : W0 w s.heap) (hl : s.heap.PlainList l vs.toArray) (hT : TupsI s.heap vs ws) (hx : TupI s.heap vx x) (hz : ws.length ≤ 500)
    (h : ∀ s', Turned l s s' → s'.heap.PlainList l (ins vs (bis ws x) vx).toArray → Q .none s') :
    wpAny (model prog w) A (call (.ref 23) [.ref l, vx]) Q E s := by
  refine enterD (binds := [("a", .ref l), ("x", vx), ("lo", .int 0 189), ("hi", .none), ("key", .none)]) a W (f := 23) rfl rfl (fun _ => rfl) (locs rfl) fun L s₁ A' a F => ?_
  have hW : ∀ h, Base s h → W0 w h := fun h q => W.keeps q
  have hbl : bis ws x ≤ ws.length := bisF_le ws x _ _ _ (Nat.zero_le _)
  refine wpAny_execs_cons (wpAny_If (wpAny_isTrue_Compare1 ?_))
  refine ldL F (v := .none) (by walk_at "lk") (wpAny_Constant_none (is_none (wpAny_truthy_bool ?_)))
  rw [if_pos (by decide)]
  refine wpAny_execs_cons (wpAny_Assign_Name (Call_ ?_))
  refine ldG F hW (fbisectleft w) (callDef rfl rfl (args_cons ?_))
  refine ldL F (v := .ref l) (by walk_at "lk") (args_cons (ldL F (v := vx) (by walk_at "lk") (args_cons (ldL F (v := .int 0 189) (by walk_at "lk") (args_cons (ldL F (v := .none) (by walk_at "lk") (args_nil ?_)))))))
  refine ⟨hW _ F.now, ?_⟩
  refine bis_spec (n := n) a (hW _ F.now) ((hl.at fun o e => F.now _ o e).isList) (hT.base F.now) (hx.base F.now) hz (.inr rfl) fun t s2 k2 => ?_
  have F := F.keeps k2
  refine stL F fun s3 F => wpAny_execs_nil (wpAny_execs_cons (wpAny_Expr (Call_method2 rfl rfl rfl ?_)))
  refine ldL F (v := .ref l) (by walk_at "lk") ⟨"list", "list.insert", PySem.F.plainAttrs_list, PySem.F.slot_list_insert, PySem.F.type_list_insert, ?_, ?_, ?_⟩
  · exact (hl.at fun o e => F.now _ o e).isList.typeIs
  · intro b e
    injection e with e
    subst e
    obtain ⟨n, ho⟩ := hl.at fun o e => F.now _ o e
    exact ⟨_, ho, rfl⟩
  · refine Calls.callWith_builtin rfl (Calls.evalArgs_plain (Calls.spliced_cons ?_))
    refine ldL F (v := .int (bis ws x) t) (by walk_at "lk") (Calls.spliced_cons (ldL F (v := vx) (by walk_at "lk") (Calls.spliced_nil ?_)))
    have hk := F.keepsOf fun h q => q
    have hlen := hT.len
    refine insMeth (hl.at fun o e => F.now _ o e) (by omega) (by omega) fun s4 T4 P4 => ?_
    refine wpAny_execs_nil (h s4 ?_ P4)
    obtain ⟨h1, tk1, rfl, q1⟩ := hk
    obtain ⟨h2, tk2, rfl, q2⟩ := T4
    exact ⟨h2, tk2, rfl, fun b o hb e => q2 b o hb (q1 b o e)⟩
/-! what is never turned -/
def IsImm (o : Obj) : Prop := o.cls = .type "tuple" ∧ ∃ xs n, o.data = .seq xs n
def Imm (h h' : Heap) : Prop := ∀ b o, IsImm o → h.get? b = some o → h'.get? b = some o
theorem TupI.imm {h h' : Heap} {v : Value} {n : List Int} (x : TupI h v n) (k : Imm h h') : TupI h' v n := by
  obtain ⟨a, vs, e, ⟨o, ho, hc, m, hd⟩, i⟩ := x
  exact ⟨a, vs, e, ⟨o, k a o ⟨hc, _, _, hd⟩ ho, hc, m, hd⟩, i⟩
theorem TupsI.imm {h h' : Heap} {vs : List Value} {ws : List (List Int)} (x : TupsI h vs ws) (k : Imm h h') : TupsI h' vs ws := x.mono fun _ _ t => t.imm k
theorem Imm.trans {h₁ h₂ h₃ : Heap} (a : Imm h₁ h₂) (b : Imm h₂ h₃) : Imm h₁ h₃ := fun x o i e => b x o i (a x o i e)
theorem not_imm_ns {h : Heap} {C : Addr} {m : Str → Option Value} (hn : h.Ns C m) {o : Obj} (e : h.get? C = some o) : ¬ IsImm o := by
  rintro ⟨_, xs, n, hd⟩
  obtain ⟨o', es, ep, ho, hd', _⟩ := hn
  rw [e] at ho
  cases ho
  rw [hd] at hd'
  cases hd'
theorem not_imm_list {h : Heap} {D : Addr} {ys : Array Value} (hn : h.PlainList D ys) {o : Obj} (e : h.get? D = some o) : ¬ IsImm o := by
  rintro ⟨hc, _⟩
  obtain ⟨n, ho⟩ := hn
  rw [e] at ho
  cases ho
  exact absurd hc (by simp)
theorem Imm.of {a : Addr} {h h' : Heap} (hk : ∀ b o, b ≠ a → h.get? b = some o → h'.get? b = some o) (hn : ∀ o, h.get? a = some o → ¬ IsImm o) : Imm h h' := fun b o i e => by
  by_cases hb : b = a
  · subst hb; exact absurd i (hn o e)
  · exact hk b o hb e
theorem Keeps.imm {s s' : Shared} (k : Keeps s s') : Imm s.heap s'.heap := by
  obtain ⟨h, tk, rfl, q⟩ := k
  exact fun b o _ e => q b o e
theorem Keeps.trans {s₁ s₂ s₃ : Shared} (a : Keeps s₁ s₂) (b : Keeps s₂ s₃) : Keeps s₁ s₃ := by
  obtain ⟨h, tk, rfl, q⟩ := a
  obtain ⟨h', tk', rfl, q'⟩ := b
  exact ⟨h', tk', rfl, fun b o e => q' b o (q b o e)⟩

section
variable {prog : Program} {w : World} {A : Around} {E : Value → Shared → Prop} {env : Env}

theorem compW {elt iter : Expr} {x : Str} {px pos : Pos} {ifs : List Expr} {scope : Scope} {cl : List (Str × Addr)} {s s₂ : Shared} {I : Addr} {fp : List Addr} {n : Nat} {P : Nat → Value → Prop} {St : Nat → Heap → Prop} {Q : Value → Shared → Prop}
    (W : Walks prog w A I fp [I] n P St) (hn : n ≤ 1000) (k₂ : Keeps s s₂) (hI : s.heap.objs.size ≤ I) (hI₂ : I < s₂.heap.objs.size) (hfp : ∀ b ∈ fp, b < s₂.heap.objs.size) (hst : St 0 s₂.heap)
    (hIo : ∀ i h, St i h → ∃ o, h.get? I = some o ∧ ¬ IsImm o)
    (hcell : ∀ y ∈ scope.names, y.2 ≠ .cell) (hkind : scope.kind = .function) (hx : scope.names.lookup x = some .local)
    (Rel : Nat → List Value → Heap → Prop) (hR0 : ∀ h, Rel 0 [] h) (hRi : ∀ i ys h h', Rel i ys h → Imm h h' → Rel i ys h')
    (turn : ∀ i v ys C s₁ Γ' m, (∀ h, Γ' h → Base s h) → i < n → P i v → m x = some v → Cx s [C] C Γ' s₁ m → Rel i ys s₁.heap →
      wpAny (model prog w) A (forIn ifs true fun c r => if r = true then do let ok ← isTrue c (compEnvC scope cl C env) (eval c (compEnvC scope cl C env)); pure (ForInStep.yield ok) else pure (ForInStep.yield r))
        (fun ok s₃ => if ok = true then wpAny (model prog w) A (eval elt (compEnvC scope cl C env)) (fun y s₄ => Cx s [C] C Γ' s₄ m ∧ Rel (i + 1) (ys ++ [y]) s₄.heap) (fun _ _ => False) s₃
          else Cx s [C] C Γ' s₃ m ∧ Rel (i + 1) ys s₃.heap) (fun _ _ => False) s₁)
    (fin : ∀ s' D ys, Keeps s s' → s.heap.get? D = none → s'.heap.PlainList D (List.toArray ys) → Rel n ys s'.heap → Q (.ref D) s') :
    wpAny (model prog w) A (newList []) (fun acc s₃ => wpAny (model prog w) A (newFunctionEnv scope env.globals cl [] env.qual none .none (some env)) (fun cenv s₄ =>
      codeAny (model prog w) A (.compStart (.ListComp elt [⟨.Name x px, iter, ifs, 0⟩] scope pos) 0 (.ref I) acc { cenv with scope := relabel scope env }) (compPost (model prog w) A E none Q acc cenv.locals) s₄) E s₃) E s₂ := by
  refine wpAny_newObj_type (wpAny_newFunctionEnv hcell (by intro y hy; simp at hy) (fun h₁ hns₁ hsb₁ => ?_) hkind)
  dsimp only at hns₁ hsb₁ ⊢
  generalize hH2 : s₂.heap.push { cls := .type "list", dict := none, data := .seq ([] : List Value).toArray } = H2 at hns₁ hsb₁ ⊢
  have hC : H2.objs.size = s₂.heap.objs.size + 1 := by rw [← hH2, Heap.size_push]
  obtain ⟨h₂, tk₂, e₂, kp₂⟩ := k₂
  have hDC : s₂.heap.objs.size ≠ H2.objs.size := by rw [hC]; exact Nat.ne_of_lt (Nat.lt_succ_self _)
  have below : ∀ b, b < s₂.heap.objs.size → b ≠ H2.objs.size ∧ b ≠ s₂.heap.objs.size := fun b hb => ⟨by rw [hC]; exact Nat.ne_of_lt (Nat.lt_succ_of_lt hb), Nat.ne_of_lt hb⟩
  have hDf : s₂.heap.objs.size ∉ fp := fun hm => Nat.lt_irrefl _ (hfp _ hm)
  have hCf : H2.objs.size ∉ fp := fun hm => by have := hfp _ hm; rw [hC] at this; exact Nat.lt_irrefl _ (Nat.lt_of_succ_lt this)
  have hCI : H2.objs.size ≠ I := fun e => (below I hI₂).1 e.symm
  have hDI : s₂.heap.objs.size ≠ I := fun e => (below I hI₂).2 e.symm
  have old : ∀ b o, s₂.heap.get? b = some o → h₁.get? b = some o := fun b o e => hsb₁.extBut b o (below b (Heap.lt_size e)).1 (Heap.get?_push_of_some _ (hH2 ▸ Heap.get?_push_of_some _ e))
  have hacc : h₁.PlainList s₂.heap.objs.size #[] := ⟨_, hsb₁.extBut _ _ hDC (Heap.get?_push_of_some _ (hH2 ▸ Heap.get?_push_size _ rfl))⟩
  have hst₁ : St 0 h₁ := W.frame _ _ _ hst fun b _ o e => old b o e
  have hsz : s.heap.objs.size ≤ s₂.heap.objs.size := Nat.le_trans hI (Nat.le_of_lt hI₂)
  have base₁ : ∀ b o, s.heap.get? b = some o → h₁.get? b = some o := fun b o e => old b o (by rw [e₂]; exact kp₂ b o e)
  have bne : ∀ b o, s.heap.get? b = some o → b ≠ I ∧ b ≠ H2.objs.size ∧ b ≠ s₂.heap.objs.size := fun b o e => by
    have h1 := Heap.lt_size e
    refine ⟨Nat.ne_of_lt (Nat.lt_of_lt_of_le h1 hI), ?_, Nat.ne_of_lt (Nat.lt_of_lt_of_le h1 hsz)⟩
    rw [hC]
    exact Nat.ne_of_lt (Nat.lt_succ_of_lt (Nat.lt_of_lt_of_le h1 hsz))
  have mkCx : ∀ (h : Heap) (tk : Nat) (mC : Str → Option Value), h.Ns H2.objs.size mC → (∀ b o, s.heap.get? b = some o → h.get? b = some o) → Cx s [H2.objs.size] H2.objs.size (Base s) { s₂ with heap := h, toks := tk } mC := by
    intro h tk mC hN hk
    refine ⟨⟨h, tk, by rw [e₂]⟩, hN, fun h' q b o e => q b o (fun hb => (bne b o e).2.1 (List.mem_singleton.mp hb)) (hk b o e), by simp, fun b hb => ?_⟩
    rw [List.mem_singleton.mp hb]
    obtain ⟨o, es, ep, ho, hd, _⟩ := hN
    exact ⟨o, ho, fun xs n e => by rw [hd] at e; cases e⟩
  have loop : ∀ s₃ : Shared, s₃ = { s₂ with heap := h₁, toks := s₂.toks + ([] : List (Str × Value)).length } →
      codeAny (model prog w) A (.compLoop (.ListComp elt [⟨.Name x px, iter, ifs, 0⟩] scope pos) 0 (.ref I) (.ref s₂.heap.objs.size) (compEnvC scope cl H2.objs.size env))
        (compPost (model prog w) A E none Q (.ref s₂.heap.objs.size) H2.objs.size) s₃ := by
    rintro s₃ rfl
    refine codeAny_compLoop_tests (fun k s' => ∃ i ys mC, i ≤ n ∧ k = n + 1 - i ∧ ys.length ≤ i ∧ St i s'.heap ∧ s'.heap.PlainList s₂.heap.objs.size (List.toArray ys) ∧ Rel i ys s'.heap ∧ Cx s [H2.objs.size] H2.objs.size (Base s) s' mC) ?_ (n + 1)
      ⟨0, [], _, Nat.zero_le _, rfl, Nat.le_refl _, hst₁, hacc, hR0 _, mkCx _ _ _ hns₁ base₁⟩
    rintro k s' ⟨i, ys, mC, hi, rfl, hyl, hst', hacc', hR', F'⟩
    by_cases hlt : i < n
    · refine W.item i _ _ _ hlt hst' fun v h₃ tk₃ hP hst₃ hk₃ => ?_
      have hk₃' : ∀ b o, b ≠ I → s'.heap.get? b = some o → h₃.get? b = some o := fun b o hb e => hk₃ b o (fun hm => hb (List.mem_singleton.mp hm)) e
      have im₃ : Imm s'.heap h₃ := Imm.of hk₃' fun o e => by
        obtain ⟨o', e', hn'⟩ := hIo _ _ hst'
        rw [e] at e'; cases e'; exact hn'
      have hns₃ := F'.ns.at' fun o e => hk₃' _ o hCI e
      refine wpAny_assign_Name (wpAny_storeName_local (lookup_relabel_local hx) hns₃ (fun h₄ hns₄ hsb₄ => ?_) (by simp [compEnvC, relabel, hkind]))
      have im₄ : Imm h₃ h₄ := Imm.of (fun b o hb e => hsb₄.extBut b o hb e) fun o e => not_imm_ns hns₃ e
      obtain ⟨hs', tks', e'⟩ := F'.same
      have base₄ : ∀ b o, s.heap.get? b = some o → h₄.get? b = some o := fun b o e => hsb₄.extBut b o (bne b o e).2.1 (hk₃' b o (bne b o e).1 (F'.now b o e))
      have F4 : Cx s [H2.objs.size] H2.objs.size (Base s) { s' with heap := h₄, toks := tk₃ + 1 } (fun y => if y = x then some v else mC y) := by
        have := mkCx h₄ (tk₃ + 1) _ hns₄ base₄
        rw [e₂] at this
        rw [e']
        exact this
      have hst₄ : St (i + 1) h₄ := W.frame _ _ _ hst₃ fun b hb o e => hsb₄.extBut b o (fun q => by subst q; exact hCf hb) e
      have hacc₄ : h₄.PlainList s₂.heap.objs.size (List.toArray ys) := hacc'.at fun o e => hsb₄.extBut _ o hDC (hk₃' _ o hDI e)
      have F5 := F4.and (Γ' := fun h => St (i + 1) h ∧ h.PlainList s₂.heap.objs.size (List.toArray ys)) fun h' q =>
        ⟨W.frame _ _ _ hst₄ fun b hb o e => q b o (fun hm => hCf (List.mem_singleton.mp hm ▸ hb)) e, hacc₄.at fun o e => q _ o (fun hm => hDC (List.mem_singleton.mp hm)) e⟩
      refine wpAny_mono (turn i v ys H2.objs.size _ _ _ (fun h q => q.1) hlt hP (by simp) F5 (hRi _ _ _ _ hR' (im₃.trans im₄))) (fun ok s₅ h₅ => ?_) fun _ _ x => x.elim
      by_cases hok : ok = true
      · rw [if_pos hok] at h₅ ⊢
        refine wpAny_mono h₅ (fun y s₆ h₆ => ?_) fun _ _ x => x.elim
        obtain ⟨F6, hR6⟩ := h₆
        obtain ⟨b6, hst6, hacc6⟩ := F6.now
        refine wpAny_list_append_plain (hsz := by rw [List.size_toArray, sizeLine_eq]; omega) hacc6 fun h₇ hacc7 hsb7 => ?_
        have im7 : Imm s₆.heap h₇ := Imm.of (fun b o hb e => hsb7.extBut b o hb e) fun o e => not_imm_list hacc6 e
        obtain ⟨hs6, tks6, e6⟩ := F6.same
        refine ⟨n + 1 - (i + 1), by omega, i + 1, ys ++ [y], (fun y => if y = x then some v else mC y), hlt, rfl, by simp; omega, W.frame _ _ _ hst6 fun b hb o e => hsb7.extBut b o (fun q => hDf (q ▸ hb)) e, ?_, hRi _ _ _ _ hR6 im7, ?_⟩
        · have e7 : (List.toArray ys).push y = List.toArray (ys ++ [y]) := by simp
          rw [← e7]; exact hacc7
        · have := mkCx h₇ s₆.toks _ (F6.ns.sameBut hsb7 (Ne.symm hDC)) fun b o e => hsb7.extBut b o (bne b o e).2.2 (b6 b o e)
          rw [e₂] at this
          rw [e6] at this ⊢
          exact this
      · rw [if_neg hok] at h₅ ⊢
        obtain ⟨F6, hR6⟩ := h₅
        exact ⟨n + 1 - (i + 1), by omega, i + 1, ys, _, hlt, rfl, by omega, F6.now.2.1, F6.now.2.2, hR6, F6.weak fun h q => q.1⟩
    · have hin : i = n := by omega
      subst hin
      refine W.done _ _ _ hst' fun h₃ tk₃ hk₃ => ?_
      have hk₃' : ∀ b o, b ≠ I → s'.heap.get? b = some o → h₃.get? b = some o := fun b o hb e => hk₃ b o (fun hm => hb (List.mem_singleton.mp hm)) e
      have im₃ : Imm s'.heap h₃ := Imm.of hk₃' fun o e => by
        obtain ⟨o', e', hn'⟩ := hIo _ _ hst'
        rw [e] at e'; cases e'; exact hn'
      have hns₃ := F'.ns.at' fun o e => hk₃' _ o hCI e
      obtain ⟨hs', tks', e'⟩ := F'.same
      refine ⟨mC, hns₃, fun h₄ hsb₄ => ?_⟩
      have im₄ : Imm h₃ h₄ := Imm.of (fun b o hb e => hsb₄.extBut b o hb e) fun o e => not_imm_ns hns₃ e
      refine fin _ _ ys ⟨h₄, tk₃, by rw [e'], fun b o e => hsb₄.extBut b o (bne b o e).2.1 (hk₃' b o (bne b o e).1 (F'.now b o e))⟩ (Heap.get?_none_of_le hsz) ?_ (hRi _ _ _ _ hR' (im₃.trans im₄))
      exact hacc'.at fun o e => hsb₄.extBut _ o hDC (hk₃' _ o hDI e)
  exact codeAny_compStart_list (loop _ rfl) (W.self 0 _ _ _ hst₁ (loop _ rfl))
end
section
variable {prog : Program} {w : World} {A : Around} {E : Value → Shared → Prop} {env : Env}

theorem listComp {elt iter : Expr} {x : Str} {px pos : Pos} {ifs : List Expr} {scope : Scope} {s : Shared} {Q : Value → Shared → Prop} (cl : List (Str × Addr))
    (hclos : closureFor scope env = pure cl) (hkind : scope.kind = .function) (hnames : ∀ x ∈ scope.names, x.2 = .local → scope.names.lookup x.1 = some .local)
    (h : wpAny (model prog w) A (eval iter env) (fun xv s₁ => wpAny (model prog w) A (pyIter xv) (fun it s₂ =>
      wpAny (model prog w) A (newList []) (fun acc s₃ => wpAny (model prog w) A (newFunctionEnv scope env.globals cl [] env.qual none .none (some env)) (fun cenv s₄ =>
        codeAny (model prog w) A (.compStart (.ListComp elt [⟨.Name x px, iter, ifs, 0⟩] scope pos) 0 it acc { cenv with scope := relabel scope env }) (compPost (model prog w) A E none Q acc cenv.locals) s₄) E s₃) E s₂) E s₁) E s)
    (hs : ∀ x, foldedSetIterable iter env x = pure x := by intro _; rfl) :
    wpAny (model prog w) A (eval (.ListComp elt [⟨.Name x px, iter, ifs, 0⟩] scope pos) env) Q E s := by
  rw [eval_ListComp]
  exact wpAny_comprehension_free (use := none) rfl hs hclos hkind hnames h

abbrev TestsOf (ifs : List Expr) (cenv : Env) : Sem Bool := forIn ifs true fun c r => if r = true then do let ok ← isTrue c cenv (eval c cenv); pure (ForInStep.yield ok) else pure (ForInStep.yield r)

theorem compL {elt iter : Expr} {x : Str} {px pos : Pos} {ifs : List Expr} {scope : Scope} {cl : List (Str × Addr)} {s : Shared} {l : Addr} {vs : List Value} {Q : Value → Shared → Prop}
    (hA : A.handled = none) (hl : s.heap.IsList l vs.toArray) (hn : vs.length ≤ 1000)
    (Rel : Nat → List Value → Heap → Prop) (hR0 : ∀ h, Rel 0 [] h) (hRi : ∀ i ys h h', Rel i ys h → Imm h h' → Rel i ys h')
    (turn : ∀ i v ys C s₁ Γ' m, (∀ h, Γ' h → Base s h) → vs[i]? = some v → m x = some v → Cx s [C] C Γ' s₁ m → Rel i ys s₁.heap →
      wpAny (model prog w) A (TestsOf ifs (compEnvC scope cl C env))
        (fun ok s₃ => if ok = true then wpAny (model prog w) A (eval elt (compEnvC scope cl C env)) (fun y s₄ => Cx s [C] C Γ' s₄ m ∧ Rel (i + 1) (ys ++ [y]) s₄.heap) (fun _ _ => False) s₃
          else Cx s [C] C Γ' s₃ m ∧ Rel (i + 1) ys s₃.heap) (fun _ _ => False) s₁)
    (fin : ∀ s' D ys, Keeps s s' → s.heap.get? D = none → s'.heap.PlainList D (List.toArray ys) → Rel vs.length ys s'.heap → Q (.ref D) s')
    (hcell : ∀ y ∈ scope.names, y.2 ≠ .cell := by decide) (hkind : scope.kind = .function := by rfl) (hx : scope.names.lookup x = some .local := by rfl) :
    wpAny (model prog w) A (pyIter (.ref l)) (fun it s₂ => wpAny (model prog w) A (newList []) (fun acc s₃ => wpAny (model prog w) A (newFunctionEnv scope env.globals cl [] env.qual none .none (some env)) (fun cenv s₄ =>
      codeAny (model prog w) A (.compStart (.ListComp elt [⟨.Name x px, iter, ifs, 0⟩] scope pos) 0 it acc { cenv with scope := relabel scope env }) (compPost (model prog w) A E none Q acc cenv.locals) s₄) E s₃) E s₂) E s := by
  have hne : l ≠ s.heap.objs.size := let ⟨_, ho, _⟩ := hl; Nat.ne_of_lt (Heap.lt_size ho)
  have hlt : @LT.lt Nat _ l s.heap.objs.size := let ⟨_, ho, _⟩ := hl; Heap.lt_size ho
  refine wpAny_pyIter_list hl ?_
  have e : vs.toArray.size = vs.length := by simp
  have W := Walks.list (prog := prog) (w := w) hA s.heap.objs.size l hne vs.toArray
  rw [e] at W
  refine compW W hn (s := s) ⟨_, s.toks, rfl, fun _ _ e => Heap.get?_push_of_some _ e⟩ (Nat.le_refl _) ?_ (fun b hb => ?_) ⟨⟨_, Heap.get?_push_size _ rfl, rfl, rfl⟩, hl.push _⟩ ?_ hcell hkind hx Rel hR0 hRi
    (fun i v ys C s₁ Γ' m a _ c d e f => turn i v ys C s₁ Γ' m a (by simpa using c) d e f) fin
  · rw [Heap.size_push]; exact Nat.lt_succ_self _
  · show b < (s.heap.push _).objs.size
    rw [Heap.size_push]
    rcases List.mem_cons.mp hb with rfl | hb
    · exact Nat.lt_succ_self _
    · rw [List.mem_singleton.mp hb]; exact Nat.lt_succ_of_lt hlt
  · rintro i h ⟨⟨o, ho, hc, hd⟩, _⟩
    exact ⟨o, ho, fun x => by have := x.1; rw [hc] at this; exact absurd this (by simp)⟩

theorem compT {elt iter : Expr} {x : Str} {px pos : Pos} {ifs : List Expr} {scope : Scope} {cl : List (Str × Addr)} {s : Shared} {l : Addr} {vs : List Value} {Q : Value → Shared → Prop}
    (hA : A.handled = none) (hl : IsTup s.heap l vs.toArray) (hn : vs.length ≤ 1000)
    (Rel : Nat → List Value → Heap → Prop) (hR0 : ∀ h, Rel 0 [] h) (hRi : ∀ i ys h h', Rel i ys h → Imm h h' → Rel i ys h')
    (turn : ∀ i v ys C s₁ Γ' m, (∀ h, Γ' h → Base s h) → vs[i]? = some v → m x = some v → Cx s [C] C Γ' s₁ m → Rel i ys s₁.heap →
      wpAny (model prog w) A (TestsOf ifs (compEnvC scope cl C env))
        (fun ok s₃ => if ok = true then wpAny (model prog w) A (eval elt (compEnvC scope cl C env)) (fun y s₄ => Cx s [C] C Γ' s₄ m ∧ Rel (i + 1) (ys ++ [y]) s₄.heap) (fun _ _ => False) s₃
          else Cx s [C] C Γ' s₃ m ∧ Rel (i + 1) ys s₃.heap) (fun _ _ => False) s₁)
    (fin : ∀ s' D ys, Keeps s s' → s.heap.get? D = none → s'.heap.PlainList D (List.toArray ys) → Rel vs.length ys s'.heap → Q (.ref D) s')
    (hcell : ∀ y ∈ scope.names, y.2 ≠ .cell := by decide) (hkind : scope.kind = .function := by rfl) (hx : scope.names.lookup x = some .local := by rfl) :
    wpAny (model prog w) A (pyIter (.ref l)) (fun it s₂ => wpAny (model prog w) A (newList []) (fun acc s₃ => wpAny (model prog w) A (newFunctionEnv scope env.globals cl [] env.qual none .none (some env)) (fun cenv s₄ =>
      codeAny (model prog w) A (.compStart (.ListComp elt [⟨.Name x px, iter, ifs, 0⟩] scope pos) 0 it acc { cenv with scope := relabel scope env }) (compPost (model prog w) A E none Q acc cenv.locals) s₄) E s₃) E s₂) E s := by
  have hne : l ≠ s.heap.objs.size := let ⟨_, ho, _⟩ := hl; Nat.ne_of_lt (Heap.lt_size ho)
  have hlt : @LT.lt Nat _ l s.heap.objs.size := let ⟨_, ho, _⟩ := hl; Heap.lt_size ho
  refine wpAny_pyIter_tuple hl ?_
  have e : vs.toArray.size = vs.length := by simp
  have W := Walks.tuple (prog := prog) (w := w) hA s.heap.objs.size l hne vs.toArray
  rw [e] at W
  refine compW W hn (s := s) ⟨_, s.toks, rfl, fun _ _ e => Heap.get?_push_of_some _ e⟩ (Nat.le_refl _) ?_ (fun b hb => ?_) ⟨⟨_, Heap.get?_push_size _ rfl, rfl, rfl⟩, hl.push _⟩ ?_ hcell hkind hx Rel hR0 hRi
    (fun i v ys C s₁ Γ' m a _ c d e f => turn i v ys C s₁ Γ' m a (by simpa using c) d e f) fin
  · rw [Heap.size_push]; exact Nat.lt_succ_self _
  · show b < (s.heap.push _).objs.size
    rw [Heap.size_push]
    rcases List.mem_cons.mp hb with rfl | hb
    · exact Nat.lt_succ_self _
    · rw [List.mem_singleton.mp hb]; exact Nat.lt_succ_of_lt hlt
  · rintro i h ⟨⟨o, ho, hc, hd⟩, _⟩
    exact ⟨o, ho, fun x => by have := x.1; rw [hc] at this; exact absurd this (by simp)⟩

theorem compR {elt iter : Expr} {x : Str} {px pos : Pos} {ifs : List Expr} {scope : Scope} {cl : List (Str × Addr)} {s : Shared} {r : Addr} {a₀ b₀ : Int} {t₀ u₀ v₀ : Tok} {n : Nat} {Q : Value → Shared → Prop}
    (hA : A.handled = none) (hr : IsRange s.heap r a₀ b₀ 1 t₀ u₀ v₀) (hb : -100 ≤ a₀ ∧ a₀ ≤ b₀ ∧ b₀ ≤ 900) (hn : (n : Int) = b₀ - a₀)
    (Rel : Nat → List Value → Heap → Prop) (hR0 : ∀ h, Rel 0 [] h) (hRi : ∀ i ys h h', Rel i ys h → Imm h h' → Rel i ys h')
    (turn : ∀ (i : Nat) t ys C s₁ Γ' m, (∀ h, Γ' h → Base s h) → i < n → m x = some (.int (a₀ + i) t) → Cx s [C] C Γ' s₁ m → Rel i ys s₁.heap →
      wpAny (model prog w) A (TestsOf ifs (compEnvC scope cl C env))
        (fun ok s₃ => if ok = true then wpAny (model prog w) A (eval elt (compEnvC scope cl C env)) (fun y s₄ => Cx s [C] C Γ' s₄ m ∧ Rel (i + 1) (ys ++ [y]) s₄.heap) (fun _ _ => False) s₃
          else Cx s [C] C Γ' s₃ m ∧ Rel (i + 1) ys s₃.heap) (fun _ _ => False) s₁)
    (fin : ∀ s' D ys, Keeps s s' → s.heap.get? D = none → s'.heap.PlainList D (List.toArray ys) → Rel n ys s'.heap → Q (.ref D) s')
    (hcell : ∀ y ∈ scope.names, y.2 ≠ .cell := by decide) (hkind : scope.kind = .function := by rfl) (hx : scope.names.lookup x = some .local := by rfl) :
    wpAny (model prog w) A (pyIter (.ref r)) (fun it s₂ => wpAny (model prog w) A (newList []) (fun acc s₃ => wpAny (model prog w) A (newFunctionEnv scope env.globals cl [] env.qual none .none (some env)) (fun cenv s₄ =>
      codeAny (model prog w) A (.compStart (.ListComp elt [⟨.Name x px, iter, ifs, 0⟩] scope pos) 0 it acc { cenv with scope := relabel scope env }) (compPost (model prog w) A E none Q acc cenv.locals) s₄) E s₃) E s₂) E s := by
  have hsz : Builtin.Range.rangeSize a₀ b₀ 1 = (n : Int) := by rw [rangeSize_nat]; omega
  refine wpAny_pyIter_range hr (small_one (by omega) (by omega) (by omega) (by omega)) ?_
  refine compW (Walks.range (prog := prog) (w := w) hA s.heap.objs.size a₀ 1 n) (by omega) (s := s) ⟨_, s.toks, rfl, fun _ _ e => Heap.get?_push_of_some _ e⟩ (Nat.le_refl _) ?_ (fun b hb => ?_) ?_ ?_ hcell hkind hx Rel hR0 hRi
    (fun i v ys C s₁ Γ' m a hi c d e f => ?_) fin
  · rw [Heap.size_push]; exact Nat.lt_succ_self _
  · show b < (s.heap.push _).objs.size
    rw [Heap.size_push, List.mem_singleton.mp hb]
    exact Nat.lt_succ_self _
  · rw [hsz]
    show IsRangeIter _ _ _ _ _
    simpa using Heap.get?_push_size _ rfl
  · intro i h ho
    exact ⟨_, ho, fun x => by have := x.1; exact absurd this (by simp)⟩
  · obtain ⟨t, rfl⟩ := c
    have e1 : a₀ + (i : Int) * 1 = a₀ + (i : Int) := by omega
    rw [e1] at d
    exact turn i t ys C s₁ Γ' m a hi d e f
end
def ways : Nat → Nat → Nat → List (List Int)
  | 0, _, _ => [[]]
  | f + 1, u, d => (if 0 < u then (ways f (u - 1) d).map (fun l => 1 :: l) else []) ++ (if 0 < d then (ways f u (d - 1)).map (fun l => -1 :: l) else [])


section
variable {prog : Program} {w : World} {A : Around} {E : Value → Shared → Prop} {s s₀ : Shared} {env : Env} {Mut : List Addr} {L : Addr} {Γ : Heap → Prop} {m : Str → Option Value}
theorem addLst {l b : Addr} {vs ws : List Value} {Q : Value → Shared → Prop} (hl : s.heap.PlainList l vs.toArray) (hb : s.heap.PlainList b ws.toArray)
    (h : ∀ s' D, Keeps s s' → s.heap.get? D = none → s'.heap.PlainList D (vs ++ ws).toArray → Q (.ref D) s') (hsz : vs.length + ws.length ≤ 10000) :
    wpAny (model prog w) A (binaryOp .Add (.ref l) (.ref b)) Q E s := by
  obtain ⟨n, ho⟩ := hl
  obtain ⟨n2, ho2⟩ := hb
  have e : vs.toArray ++ ws.toArray = (vs ++ ws).toArray := by simp
  refine concat_meets ⟨_, ho, rfl⟩ ⟨_, ho2, rfl⟩ noFill_list_add seq_list_add PySem.F.slot_list_add PySem.F.entry_list_add (PySem.F.args_list_add_2 _ _) (list_addW l b vs.toArray ws.toArray n n2 none none #[] #[] (by rw [List.size_toArray, List.size_toArray, sizeLine_eq]; omega)) ⟨ho, ho2, ?_⟩
  rw [e]
  exact h _ _ ⟨_, s.toks, rfl, fun _ _ e => Heap.get?_push_of_some _ e⟩ (Heap.get?_none_of_le (Nat.le_refl _)) ⟨0, Heap.get?_push_size _ rfl⟩

theorem cIntK {i : Int} {k : Nat} {pos : Pos} {Q : Value → Shared → Prop} (F : Cx s₀ Mut L Γ s m) (h : ∀ t s', Cx s₀ Mut L Γ s' m → Keeps s s' → Q (.int i t) s') :
    wpAny (model prog w) A (eval (.Constant (.int i) k pos) env) Q E s := wpAny_Constant_int (h _ _ (F.toks _) ⟨s.heap, _, rfl, fun _ _ e => e⟩)
theorem oSubK {a b : Int} {t u : Tok} {Q : Value → Shared → Prop} (F : Cx s₀ Mut L Γ s m) (h : ∀ t s', Cx s₀ Mut L Γ s' m → Keeps s s' → Q (.int (a - b) t) s') : wpAny (model prog w) A (binaryOp .Sub (.int a t) (.int b u)) Q E s := sub_int (h _ _ (F.toks _) ⟨s.heap, _, rfl, fun _ _ e => e⟩)

theorem compCons {eh : Expr} {pw pt : Pos} {px pos pb : Pos} {iter : Expr} {scope : Scope} {k : Nat} {src : Addr} {vs : List Value} {ws : List (List Int)} {c : Int} {Q : Value → Shared → Prop}
    (hA : A.handled = none) (hl : s.heap.PlainList src vs.toArray) (hT : TupsI s.heap vs ws) (hz : ws.length ≤ 500) (hw : ∀ l ∈ ws, l.length ≤ 50)
    (he : ∀ C s₁ (Γ' : Heap → Prop) m (Q : Value → Shared → Prop), Cx s [C] C Γ' s₁ m → (∀ t s', Cx s [C] C Γ' s' m → Keeps s₁ s' → Q (.int c t) s') → wpAny (model prog w) A (eval eh (compEnvC scope [] C env)) Q (fun _ _ => False) s₁)
    (fin : ∀ s' D ys, Keeps s s' → s.heap.get? D = none → s'.heap.PlainList D (List.toArray ys) → TupsI s'.heap ys (ws.map fun l => c :: l) → Q (.ref D) s')
    (hcell : ∀ y ∈ scope.names, y.2 ≠ .cell := by decide) (hkind : scope.kind = .function := by rfl) (hx : scope.names.lookup (Str.ofString "way") = some .local := by rfl)
    (hst : ∀ C, starEach [eh] (compEnvC scope [] C env) = [(false, eval eh (compEnvC scope [] C env))] := by intro _; rfl)
    (hkw : ∀ C, (compEnvC scope [] C env).scope.kind = .function := by intro _; rfl) (hlw : ∀ C, (compEnvC scope [] C env).kindOf (Str.ofString "way") = some .local := by intro _; rfl) :
    wpAny (model prog w) A (pyIter (.ref src)) (fun it s₂ => wpAny (model prog w) A (newList []) (fun acc s₃ => wpAny (model prog w) A (newFunctionEnv scope env.globals [] [] env.qual none .none (some env)) (fun cenv s₄ =>
      codeAny (model prog w) A (.compStart (.ListComp (.BinOp (.Tuple [eh] k pt) .Add (.Name (Str.ofString "way") pw) pb) [⟨.Name (Str.ofString "way") px, iter, [], 0⟩] scope pos) 0 it acc { cenv with scope := relabel scope env }) (compPost (model prog w) A E none Q acc cenv.locals) s₄) E s₃) E s₂) E s := by
  refine compL hA hl.isList (by have := hT.len; omega) (fun i ys h => TupsI h ys ((ws.take i).map fun l => c :: l)) (fun h => by simpa using TupsI.nil) (fun i ys h h' r k => r.imm k) (fun i v ys C s₁ Γ' m hG hv hm F hR => ?_) (fun s' D ys k hD hP hR => ?_) hcell hkind hx
  · obtain ⟨n, hn, t⟩ := hT.get i v hv
    refine wpAny_tests_nil ?_
    rw [if_pos rfl]
    refine wpAny_BinOp (wpAny_Tuple (wpAny_items_cons (he C _ Γ' m _ F fun tc s2 F2 k2 => wpAny_items_nil ⟨by rw [sizeLine_eq]; simp, ?_⟩) (hst C)))
    have F3 := F2.push { cls := .type "tuple", data := .seq [Value.int c tc].toArray }
    have T3 : TupI (s2.heap.push { cls := .type "tuple", data := .seq [Value.int c tc].toArray }) (.ref s2.heap.objs.size) [c] := ⟨_, [.int c tc], rfl, ⟨_, Heap.get?_push_size _ rfl, rfl, 0, rfl⟩, .cons c tc .nil⟩
    refine ldL F3 (env := compEnvC scope [] C env) hm ?_ (hkw C) (hlw C)
    have hnl := hw n (List.mem_of_getElem? hn)
    refine oAddT F3 T3 (t.base (hG _ F3.now)) (by simp; omega) fun s4 v4 F4 T4 k4 => ⟨F4, ?_⟩
    have k3 : Keeps s2 { s2 with heap := s2.heap.push { cls := .type "tuple", data := .seq [Value.int c tc].toArray } } := ⟨_, s2.toks, rfl, fun _ _ e => Heap.get?_push_of_some _ e⟩
    rw [take_snoc hn, List.map_append]
    exact (hR.keeps (Keeps.trans k2 (Keeps.trans k3 k4))).append (.cons T4 .nil)
  · have e : ws.take vs.length = ws := by rw [hT.len, List.take_length]
    rw [e] at hR
    exact fin s' D ys k hD hP hR
end

theorem and2 {prog : Program} {w : World} {A : Around} {E : Value → Shared → Prop} {s : Shared} {env : Env} {c1 c2 : Expr} {b1 b2 : Bool} {Q : Bool → Shared → Prop} (P : Shared → Prop)
    (h1 : wpAny (model prog w) A (isTrue c1 env (eval c1 env)) (fun b s' => b = b1 ∧ P s') E s) (h2 : ∀ s', P s' → wpAny (model prog w) A (isTrue c2 env (eval c2 env)) (fun b s'' => b = b2 ∧ P s'') E s')
    (h : ∀ s', P s' → Q (b1 && b2) s') : wpAny (model prog w) A (allTrue .And [c1, c2] env) Q E s := by
  refine wpAny_allTrue_And_cons (wpAny_mono h1 (fun b s' hb => ?_) fun _ _ x => x)
  obtain ⟨rfl, hP⟩ := hb
  cases b with
  | false => exact h s' hP
  | true =>
    rw [if_pos rfl]
    refine wpAny_allTrue_And_cons (wpAny_mono (h2 s' hP) (fun b s'' hb => ?_) fun _ _ x => x)
    obtain ⟨rfl, hP'⟩ := hb
    cases b with
    | false => exact h s'' hP'
    | true => rw [if_pos rfl]; exact wpAny_allTrue_And_nil (h s'' hP')
theorem or2 {prog : Program} {w : World} {A : Around} {E : Value → Shared → Prop} {s : Shared} {env : Env} {c1 c2 : Expr} {b1 b2 : Bool} {Q : Bool → Shared → Prop} (P : Shared → Prop)
    (h1 : wpAny (model prog w) A (isTrue c1 env (eval c1 env)) (fun b s' => b = b1 ∧ P s') E s) (h2 : b1 = false → ∀ s', P s' → wpAny (model prog w) A (isTrue c2 env (eval c2 env)) (fun b s'' => b = b2 ∧ P s'') E s')
    (h : ∀ s', P s' → Q (b1 || b2) s') : wpAny (model prog w) A (allTrue .Or [c1, c2] env) Q E s := by
  refine wpAny_allTrue_Or_cons (wpAny_mono h1 (fun b s' hb => ?_) fun _ _ x => x)
  obtain ⟨rfl, hP⟩ := hb
  cases b with
  | true => exact h s' hP
  | false =>
    rw [if_neg (by decide)]
    refine wpAny_allTrue_Or_cons (wpAny_mono (h2 rfl s' hP) (fun b s'' hb => ?_) fun _ _ x => x)
    obtain ⟨rfl, hP'⟩ := hb
    cases b with
    | true => exact h s'' hP'
    | false => rw [if_neg (by decide)]; exact wpAny_allTrue_Or_nil (h s'' hP')

theorem and2C {prog : Program} {w : World} {A : Around} {E : Value → Shared → Prop} {s₀ s : Shared} {Mut : List Addr} {L : Addr} {Γ : Heap → Prop} {m : Str → Option Value} {env : Env} {c1 c2 : Expr} (b1 b2 : Bool) {Q : Bool → Shared → Prop} (_F : Cx s₀ Mut L Γ s m)
    (h1 : wpAny (model prog w) A (isTrue c1 env (eval c1 env)) (fun b s' => b = b1 ∧ Cx s₀ Mut L Γ s' m) E s) (h2 : ∀ s', Cx s₀ Mut L Γ s' m → wpAny (model prog w) A (isTrue c2 env (eval c2 env)) (fun b s'' => b = b2 ∧ Cx s₀ Mut L Γ s'' m) E s')
    (h : ∀ s', Cx s₀ Mut L Γ s' m → Q (b1 && b2) s') : wpAny (model prog w) A (allTrue .And [c1, c2] env) Q E s := and2 _ h1 h2 h
theorem or2C {prog : Program} {w : World} {A : Around} {E : Value → Shared → Prop} {s₀ s : Shared} {Mut : List Addr} {L : Addr} {Γ : Heap → Prop} {m : Str → Option Value} {env : Env} {c1 c2 : Expr} (b1 b2 : Bool) {Q : Bool → Shared → Prop} (_F : Cx s₀ Mut L Γ s m)
    (h1 : wpAny (model prog w) A (isTrue c1 env (eval c1 env)) (fun b s' => b = b1 ∧ Cx s₀ Mut L Γ s' m) E s) (h2 : b1 = false → ∀ s', Cx s₀ Mut L Γ s' m → wpAny (model prog w) A (isTrue c2 env (eval c2 env)) (fun b s'' => b = b2 ∧ Cx s₀ Mut L Γ s'' m) E s')
    (h : ∀ s', Cx s₀ Mut L Γ s' m → Q (b1 || b2) s') : wpAny (model prog w) A (allTrue .Or [c1, c2] env) Q E s := or2 _ h1 h2 h
theorem fresh_back {s s' : Shared} {D : Addr} (k : Keeps s s') (h : s'.heap.get? D = none) : s.heap.get? D = none := by
  obtain ⟨h1, tk, rfl, q⟩ := k
  cases e : s.heap.get? D with
  | none => rfl
  | some o => rw [q D o e] at h; cases h
theorem ways_len : ∀ f u d, u + d = f → (∀ l ∈ ways f u d, l.length = f) ∧ (f ≤ 8 → (ways f u d).length ≤ 2 ^ f) := by
  intro f
  induction f with
  | zero => intro u d _; exact ⟨by simp [ways], by simp [ways]⟩
  | succ f ih =>
    intro u d h
    have h1 : 0 < u → (∀ l ∈ ways f (u - 1) d, l.length = f) ∧ (f ≤ 8 → (ways f (u - 1) d).length ≤ 2 ^ f) := fun hu => ih _ _ (by omega)
    have h2 : 0 < d → (∀ l ∈ ways f u (d - 1), l.length = f) ∧ (f ≤ 8 → (ways f u (d - 1)).length ≤ 2 ^ f) := fun hu => ih _ _ (by omega)
    refine ⟨fun l hl => ?_, fun hf => ?_⟩
    · rw [ways] at hl
      rcases List.mem_append.mp hl with hl | hl
      · split at hl
        · obtain ⟨x, hx, rfl⟩ := List.mem_map.mp hl
          rw [List.length_cons, (h1 (by assumption)).1 x hx]
        · cases hl
      · split at hl
        · obtain ⟨x, hx, rfl⟩ := List.mem_map.mp hl
          rw [List.length_cons, (h2 (by assumption)).1 x hx]
        · cases hl
    · rw [ways, List.length_append, Nat.pow_succ]
      have a1 : (if 0 < u then (ways f (u - 1) d).map (fun l => (1 : Int) :: l) else []).length ≤ 2 ^ f := by
        split
        · rw [List.length_map]; exact (h1 (by assumption)).2 (by omega)
        · exact Nat.zero_le _
      have a2 : (if 0 < d then (ways f u (d - 1)).map (fun l => (-1 : Int) :: l) else []).length ≤ 2 ^ f := by
        split
        · rw [List.length_map]; exact (h2 (by assumption)).2 (by omega)
        · exact Nat.zero_le _
      omega

theorem Cx.tups {s₀ s : Shared} {Mut : List Addr} {L : Addr} {Γ : Heap → Prop} {m : Str → Option Value} (F : Cx s₀ Mut L Γ s m) {vs : List Value} {ws : List (List Int)} (h : TupsI s.heap vs ws) : Cx s₀ Mut L (fun h => Γ h ∧ TupsI h vs ws) s m :=
  F.and fun h' k => h.mono fun v n t => by
    obtain ⟨a, us, e, ht, hi⟩ := t
    have hn := F.tup_nin ht
    obtain ⟨o, ho, r⟩ := ht
    exact ⟨a, us, e, ⟨o, k a o hn ho, r⟩, hi⟩
theorem Cx.plain {s₀ s : Shared} {Mut : List Addr} {L : Addr} {Γ : Heap → Prop} {m : Str → Option Value} (F : Cx s₀ Mut L Γ s m) {D : Addr} {xs : Array Value} (h : s.heap.PlainList D xs) (hn : D ∉ Mut) : Cx s₀ Mut L (fun h => Γ h ∧ h.PlainList D xs) s m :=
  F.and fun _ k => h.at fun o e => k D o hn e
theorem Cx.plain_nin {s₀ s : Shared} {L : Addr} {Γ : Heap → Prop} {m : Str → Option Value} (F : Cx s₀ [L] L Γ s m) {D : Addr} {xs : Array Value} (h : s.heap.PlainList D xs) : D ∉ [L] := fun hm => by
  rw [List.mem_singleton.mp hm] at h
  obtain ⟨n, ho⟩ := h
  obtain ⟨o, es, ep, ho', hd, _⟩ := F.ns
  rw [ho] at ho'
  cases ho'
  cases hd

theorem ways_spec {prog : Program} {w : World} : ∀ (f : Nat) {A : Around} {E : Value → Shared → Prop} {s : Shared} {a b : Int} {t t' : Tok} {u d n : Nat} {Q : Value → Shared → Prop},
    f ≤ 8 → u + d = f → a = (u : Int) → b = (d : Int) → Ak A (n + f + 1) → W0 w s.heap → (∀ s' D vs, Keeps s s' → s.heap.get? D = none → s'.heap.PlainList D (List.toArray vs) → TupsI s'.heap vs (ways f u d) → Q (.ref D) s') →
    wpAny (model prog w) A (call (.ref 51) [.int a t, .int b t']) Q E s := by
  intro f
  induction f with
  | zero =>
    intro A E s a b t t' u d n Q _ hud ha hb ak W h
    refine enter (n := n) (binds := [("up", .int a t), ("down", .int b t')]) (f := 51) (by simpa using ak) W rfl rfl rfl (locs rfl) fun L s₁ A' ak F => ?_
    refine wpAny_execs_cons (wpAny_If (wpAny_isTrue_BoolOp (and2C true true F (wpAny_isTrue_Compare1 ?_) (fun s1 F => wpAny_isTrue_Compare1 ?_) fun s2 F => ?_)))
    · refine ldL F (v := .int a t) (by walk_at "lk") (cInt F fun t1 s F => eq_int (wpAny_truthy_bool ⟨?_, F⟩))
      rw [ha]; simp; omega
    · refine ldL F (v := .int b t') (by walk_at "lk") (cInt F fun t1 s F => eq_int (wpAny_truthy_bool ⟨?_, F⟩))
      rw [hb]; simp; omega
    · rw [if_pos (by decide)]
      refine wpAny_execs_cons (wpAny_Return_some (wpAny_List (wpAny_items_cons (wpAny_Tuple (wpAny_items_nil ⟨by rw [sizeLine_eq]; simp, wpAny_items_nil ⟨by rw [sizeLine_eq]; simp, ?_⟩⟩)))))
      have k := F.keepsOf fun h q => q
      have k1 : Keeps s2 { s2 with heap := s2.heap.push { cls := .type "tuple", data := .seq [].toArray } } := ⟨_, s2.toks, rfl, fun _ _ e => Heap.get?_push_of_some _ e⟩
      have T1 : TupI (s2.heap.push { cls := .type "tuple", data := .seq [].toArray }) (.ref s2.heap.objs.size) [] := ⟨_, [], rfl, ⟨_, Heap.get?_push_size _ rfl, rfl, 0, rfl⟩, .nil⟩
      have k2 : Keeps { s2 with heap := s2.heap.push { cls := .type "tuple", data := .seq [].toArray } } { s2 with heap := (s2.heap.push { cls := .type "tuple", data := .seq [].toArray }).push { cls := .type "list", data := .seq [Value.ref s2.heap.objs.size].toArray } } :=
        ⟨_, s2.toks, rfl, fun _ _ e => Heap.get?_push_of_some _ e⟩
      refine h _ _ [.ref s2.heap.objs.size] (Keeps.trans k (Keeps.trans k1 k2)) ?_ ⟨0, Heap.get?_push_size _ rfl⟩ (.cons (TupI.keeps (s := { s2 with heap := s2.heap.push { cls := .type "tuple", data := .seq [].toArray } }) T1 k2) .nil)
      exact fresh_back (Keeps.trans k k1) (Heap.get?_none_of_le (Nat.le_refl _))
  | succ f ih =>
    intro A E s a b t t' u d n Q hf hud ha hb ak W h
    refine enter (n := n + f + 1) (binds := [("up", .int a t), ("down", .int b t')]) ak W (f := 51) rfl rfl rfl (locs rfl) fun L s₁ A' ak F => ?_
    have hW : ∀ h, Base s h → W0 w h := fun h q => W.keeps q
    refine wpAny_execs_cons (wpAny_If (wpAny_isTrue_BoolOp (and2C (a == 0) (b == 0) F (wpAny_isTrue_Compare1 ?_) (fun s1 F => wpAny_isTrue_Compare1 ?_) fun s2 F => ?_)))
    · exact ldL F (v := .int a t) (by walk_at "lk") (cInt F fun t1 s F => eq_int (wpAny_truthy_bool ⟨rfl, F⟩))
    · exact ldL F (v := .int b t') (by walk_at "lk") (cInt F fun t1 s F => eq_int (wpAny_truthy_bool ⟨rfl, F⟩))
    · have hne : ¬ ((a == 0 && b == 0) = true) := by
        simp only [Bool.and_eq_true, beq_iff_eq, not_and]
        omega
      rw [if_neg hne]
      refine wpAny_execs_nil ?_
      refine wpAny_execs_cons (wpAny_Assign_Name (wpAny_List (wpAny_items_nil ⟨by rw [sizeLine_eq]; simp, ?_⟩)))
      have hf0 : s.heap.get? s2.heap.objs.size = none := fresh_back (F.keepsOf fun h q => q) (Heap.get?_none_of_le (Nat.le_refl _))
      have hP0 : (s2.heap.push { cls := .type "list", data := .seq ([] : List Value).toArray }).PlainList s2.heap.objs.size ([] : List Value).toArray := ⟨0, Heap.get?_push_size _ rfl⟩
      have F := F.push { cls := .type "list", data := .seq ([] : List Value).toArray }
      have F := F.plain hP0 (F.plain_nin hP0)
      generalize s2.heap.objs.size = D0 at F hf0 ⊢
      refine stL F fun s3 F => ?_
      refine wpAny_execs_cons (wpAny_If (wpAny_isTrue_Compare1 ?_))
      refine ldL F (v := .int a t) (by walk_at "lk") (cInt F fun t1 s4 F => gt_int (wpAny_truthy_bool (split_dec (fun hc => ?_) fun hc => ?_)))
      focus
        refine wpAny_execs_cons (wpAny_Assign_Name (wpAny_BinOp ?_))
        refine ldL F (v := .ref D0) (by walk_at "lk") (listComp [] (closureFor_none (by decide)) rfl (by decide) (Call_ ?_))
        refine ldG F (fun h q => hW h q.1) (flawways w) (callDef rfl rfl (args_cons (wpAny_BinOp ?_)))
        refine ldL F (v := .int a t) (by walk_at "lk") (cInt F fun t2 s5 F => oSub F fun t3 s6 F => args_cons (ldL F (v := .int b t') (by walk_at "lk") (args_nil ⟨hW _ F.now.1, ?_⟩)))
        have hl := ways_len f (u - 1) d (by omega)
        refine ih (u := u - 1) (d := d) (by omega) (by omega) (by omega) hb ak (hW _ F.now.1) fun s7 D1 v1 k1 f1 P1 T1 => ?_
        have F := F.keeps k1
        refine compCons (c := 1) ak.hh P1 T1 ?_ (fun l hl' => by rw [hl.1 l hl']; omega) (fun C s₁ Γ' m Q F q => cIntK F fun t s' F k => q t s' F k) fun s8 D2 v2 k2 f2 P2 T2 => ?_
        · have := hl.2 (by omega)
          have : 2 ^ f ≤ 2 ^ 8 := Nat.pow_le_pow_right (by omega) (by omega)
          omega
        have F := F.keeps k2
        have hv2 : v2.length ≤ 500 := by
          have h1 := T2.len
          have h2 := hl.2 (by omega)
          have : 2 ^ f ≤ 2 ^ 8 := Nat.pow_le_pow_right (by omega) (by omega)
          rw [List.length_map] at h1
          omega
        refine addLst F.now.2 P2 (fun s9 D3 k3 f3 P3 => ?_) (by simp; omega)
        have T3 : TupsI s9.heap ([] ++ v2) (if 0 < u then (ways f (u - 1) d).map (fun l => 1 :: l) else []) := by
          rw [if_pos (by omega)]; exact T2.keeps k3
        have hf3 : s.heap.get? D3 = none := fresh_back (F.keepsOf fun h q => q.1) f3
        have F := ((F.keeps k3).weak (Γ' := Base s) fun h q => q.1)
        have F := (F.plain P3 (F.plain_nin P3)).tups T3
        clear hP0 hf0 f1 f2 f3 k1 k2 k3 P1 P2 P3 T1 T2 T3 hl
        have hv2 : ([] ++ v2).length ≤ 500 := by simpa using hv2
        generalize [] ++ v2 = vD at F hv2
        generalize D3 = DD at F hf3 ⊢
        have hf := hf3
        refine stL F fun s10 F => wpAny_execs_nil ?_
      rotate_left
      focus
        have T3 : TupsI s4.heap [] (if 0 < u then (ways f (u - 1) d).map (fun l => 1 :: l) else []) := by
          rw [if_neg (by omega)]; exact .nil
        have F := F.tups T3
        have hf := hf0
        have hv2 : ([] : List Value).length ≤ 500 := by simp
        clear hP0 T3
        generalize ([] : List Value) = vD at F hv2
        refine wpAny_execs_nil ?_
      all_goals
        refine wpAny_execs_cons (wpAny_If (wpAny_isTrue_Compare1 ?_))
        refine ldL F (v := .int b t') (by walk_at "lk") (cInt F fun t1 s4 F => gt_int (wpAny_truthy_bool (split_dec (fun hc2 => ?_) fun hc2 => ?_)))
        · refine wpAny_execs_cons (wpAny_Assign_Name (wpAny_BinOp ?_))
          refine ldL F (v := .ref _) (by walk_at "lk") (listComp [] (closureFor_none (by decide)) rfl (by decide) (Call_ ?_))
          refine ldG F (fun h q => hW h q.1.1) (flawways w) (callDef rfl rfl (args_cons ?_))
          refine ldL F (v := .int a t) (by walk_at "lk") (args_cons (wpAny_BinOp (ldL F (v := .int b t') (by walk_at "lk") (cInt F fun t2 s5 F => oSub F fun t3 s6 F => args_nil ⟨hW _ F.now.1.1, ?_⟩))))
          have hl := ways_len f u (d - 1) (by omega)
          have hP : 2 ^ f ≤ 2 ^ 8 := Nat.pow_le_pow_right (by omega) (by omega)
          have hl2 := hl.2 (by omega)
          refine ih (u := u) (d := d - 1) (by omega) (by omega) ha (by omega) ak (hW _ F.now.1.1) fun s7 D1 v1 k1 f1 P1 T1 => ?_
          have F := F.keeps k1
          refine compCons (c := -1) ak.hh P1 T1 (by omega) (fun l hl' => by rw [hl.1 l hl']; omega) (fun C s₁ Γ' m Q F q => wpAny_BinOp (cIntK F fun t s' F k => cIntK F fun t2 s2 F k2 => oSubK F fun t3 s3 F k3 => by rw [show (0 : Int) - 1 = -1 from by decide]; exact q t3 s3 F (Keeps.trans k (Keeps.trans k2 k3)))) fun s8 D2 v2 k2 f2 P2 T2 => ?_
          have F := F.keeps k2
          have hw2 : v2.length ≤ 500 := by
            have h1 := T2.len
            rw [List.length_map] at h1
            omega
          have kS := F.keepsOf fun h q => q.1.1
          refine addLst F.now.1.2 P2 (fun s9 D3 k3 f3 P3 => ?_) (by omega)
          have F := F.keeps k3
          have T3 : TupsI s9.heap (vD ++ v2) (ways (f + 1) u d) := by
            rw [ways, if_pos (show 0 < d by omega)]
            exact F.now.2.append (T2.keeps k3)
          have hf3 : s.heap.get? D3 = none := fresh_back kS f3
          have F := F.weak (Γ' := Base s) fun h q => q.1.1
          have F := (F.plain P3 (F.plain_nin P3)).tups T3
          refine stL F fun s10 F => wpAny_execs_nil (wpAny_execs_cons (wpAny_Return_some ?_))
          exact ldL F (v := .ref D3) (by walk_at "lk") (h _ _ _ (F.keepsOf fun h q => q.1.1) hf3 F.now.1.2 F.now.2)
        · refine wpAny_execs_nil (wpAny_execs_cons (wpAny_Return_some ?_))
          have T3 := F.now.2
          have e : (if 0 < u then (ways f (u - 1) d).map (fun l => (1 : Int) :: l) else []) = ways (f + 1) u d := by
            rw [ways, if_neg (show ¬ 0 < d by omega), List.append_nil]
          rw [e] at T3
          exact ldL F (v := .ref _) (by walk_at "lk") (h _ _ _ (F.keepsOf fun h q => q.1.1) hf F.now.1.2 T3)
/-! keys: strs and ints -/
abbrev MK := Sum Str Int
def mixIs : MK → Value → Bool
  | .inl x, v => Value.isStrOf x v
  | .inr n, v => Value.isInt n v
theorem mix_shape {k : MK} {v : Value} (h : mixIs k v = true) : (∃ x t, k = .inl x ∧ v = .str x t) ∨ (∃ n t, k = .inr n ∧ v = .int n t) := by
  cases k with
  | inl x => obtain ⟨t, rfl⟩ := Value.isStrOf_shape h; exact .inl ⟨x, t, rfl, rfl⟩
  | inr n => obtain ⟨t, rfl⟩ := Value.isInt_shape h; exact .inr ⟨n, t, rfl, rfl⟩
def mixHash (w : World) : MK → Int
  | .inl x => hashStr w x
  | .inr n => hashInt n

section
variable {prog : Program} {w : World} {A : Around} {E : Value → Shared → Prop} {s : Shared}
theorem eqBool_si {x : Str} {n : Int} {t u : Tok} {Q : Bool → Shared → Prop} (h : Q false s) : wpAny (model prog w) A (eqBool (.str x t) (.int n u)) Q E s := by
  unfold eqBool
  try with_reducible refine wpAny_holding ?_
  show wpAny _ _ (if (Value.str x t == Value.int n u) = true then _ else _) Q E s
  have e : (Value.str x t == Value.int n u) = false := rfl
  rw [e]
  refine wpAny_bind (show wpAny (model prog w) A (richCompare .Eq (.str x t) (.int n u)) _ E s from PySem.EqMixed.eq_str_int (wpAny_truthy_bool h))
theorem eqBool_is {x : Str} {n : Int} {t u : Tok} {Q : Bool → Shared → Prop} (h : Q false s) : wpAny (model prog w) A (eqBool (.int n u) (.str x t)) Q E s := by
  unfold eqBool
  try with_reducible refine wpAny_holding ?_
  show wpAny _ _ (if (Value.int n u == Value.str x t) = true then _ else _) Q E s
  have e : (Value.int n u == Value.str x t) = false := rfl
  rw [e]
  refine wpAny_bind (show wpAny (model prog w) A (richCompare .Eq (.int n u) (.str x t)) _ E s from PySem.EqMixed.eq_int_str (wpAny_truthy_bool h))
end

def mixKind (prog : Program) (w : World) : KeyKind prog w MK where
  is := mixIs
  hash := mixHash w
  inj := fun v a b ha hb => by
    rcases mix_shape ha with ⟨x, t, rfl, rfl⟩ | ⟨n, t, rfl, rfl⟩ <;> rcases mix_shape hb with ⟨y, u, rfl, h⟩ | ⟨m, u, rfl, h⟩
    · injection h with h1 h2; rw [h1]
    · cases h
    · cases h
    · injection h with h1 h2; rw [h1]
  byValue := fun k v h => by rcases mix_shape h with ⟨x, t, rfl, rfl⟩ | ⟨n, t, rfl, rfl⟩ <;> rfl
  pyHash := fun hv h => by
    rcases mix_shape hv with ⟨x, t, rfl, rfl⟩ | ⟨n, t, rfl, rfl⟩
    · exact wpAny_pyHash_str h
    · exact wpAny_pyHash_int h
  eqBool := fun hu hv h => by
    rcases mix_shape hu with ⟨x, t, rfl, rfl⟩ | ⟨n, t, rfl, rfl⟩ <;> rcases mix_shape hv with ⟨y, u, rfl, rfl⟩ | ⟨m, u, rfl, rfl⟩
    · exact wpAny_eqBool_str (by simpa using h)
    · exact eqBool_si (by simpa using h)
    · exact eqBool_is (by simpa using h)
    · refine wpAny_eqBool_int ?_
      have e : (n == m) = decide ((Sum.inr n : MK) = Sum.inr m) := by
        by_cases hnm : n = m
        · subst hnm; simp
        · simp [hnm]
      rw [e]; exact h
  «strs» := fun k x t v h => by
    rcases mix_shape h with ⟨y, u, rfl, e⟩ | ⟨n, u, rfl, e⟩
    · injection e with e1 _
      subst e1
      show Value.isStrOf x v = v.isStr x
      exact (by unfold Value.isStr; cases v <;> rfl)
    · cases e
/-! a dict told by its entries, whatever its keys are -/
def DE (h : Heap) (d : Addr) (es : Array DictEntry) (ep : Nat) : Prop := ∃ o, h.get? d = some o ∧ o.ExactDict ∧ o.data = .dict es ep
theorem DE.typeIs {s : Shared} {d es ep} (x : DE s.heap d es ep) : s.TypeIs (.ref d) "dict" := let ⟨o, ho, hc, _⟩ := x; ⟨o, ho, hc.1⟩
theorem DE.mov {h h' : Heap} {d es ep} (x : DE h d es ep) (e : ∀ o, h.get? d = some o → h'.get? d = some o) : DE h' d es ep := let ⟨o, ho, r⟩ := x; ⟨o, e _ ho, r⟩
theorem DE.lt {h : Heap} {d es ep} (x : DE h d es ep) : d < h.objs.size := let ⟨_, ho, _⟩ := x; Heap.lt_size ho

section
variable {prog : Program} {w : World} {A : Around} {E : Value → Shared → Prop} {s : Shared}

theorem viewItems {d : Addr} {es ep} {Q : Value → Shared → Prop} (hd : DE s.heap d es ep) (h1 : (d == sysModules) = false)
    (h : Q (.ref s.heap.objs.size) { s with heap := s.heap.push { cls := .type "dict_items", data := .fields #[.ref d] } }) :
    wpAny (model prog w) A (call (.builtin "dict.items") [.ref d]) Q E s := by
  refine wpAny_call_entry PySem.F.slot_dict_items hd.typeIs PySem.F.entry_dict_items ?_ (PySem.F.args_dict_items_1 _)
  unfold Builtin.«dict.items» Builtin.Dict.noArgs
  refine wpAny_bind (wpAny_bind (wpAny_notOrdered_dict hd.typeIs ?_))
  show wpAny _ _ (pure d) _ _ s
  refine wpAny_pure ?_
  show wpAny _ _ (Builtin.Dict.showsAll d >>= _) _ _ s
  unfold Builtin.Dict.showsAll
  rw [h1]
  exact wpAny_bind (wpAny_pure (wpAny_bind (wpAny_newObj_type (wpAny_pure ⟨_, rfl, h⟩))))
theorem viewValues {d : Addr} {es ep} {Q : Value → Shared → Prop} (hd : DE s.heap d es ep) (h1 : (d == sysModules) = false)
    (h : Q (.ref s.heap.objs.size) { s with heap := s.heap.push { cls := .type "dict_values", data := .fields #[.ref d] } }) :
    wpAny (model prog w) A (call (.builtin "dict.values") [.ref d]) Q E s := by
  refine wpAny_call_entry PySem.F.slot_dict_values hd.typeIs PySem.F.entry_dict_values ?_ (PySem.F.args_dict_values_1 _)
  refine wpAny_bind ?_
  unfold Builtin.Dict.noArgs
  refine wpAny_bind (wpAny_notOrdered_dict hd.typeIs ?_)
  show wpAny _ _ (pure d) _ _ s
  refine wpAny_pure ?_
  show wpAny _ _ (Builtin.Dict.showsAll d >>= _) _ _ s
  unfold Builtin.Dict.showsAll
  rw [h1]
  exact wpAny_bind (wpAny_pure (wpAny_bind (wpAny_newObj_type (wpAny_pure ⟨_, rfl, h⟩))))

theorem iterItems {v d : Addr} {es ep} {Q : Value → Shared → Prop} (hv : s.heap.IsItemsView v d) (hd : DE s.heap d es ep)
    (h : Q (.ref s.heap.objs.size) { s with heap := s.heap.push { cls := .type "dict_itemiterator", data := .fields #[.none, .bool false, .ref d, .int 0 0, .int es.size 0, .int ep 0, .none, .none] } }) :
    wpAny (model prog w) A (pyIter (.ref v)) Q E s := by
  obtain ⟨ov, hov, _, hdv⟩ := id hv
  obtain ⟨o, ho, _, hdat⟩ := id hd
  refine wpAny_pyIter_slot hv.typeIs PySem.F.slot_dict_items_iter (wpAny_call_entry PySem.F.slot_dict_items_iter hv.typeIs PySem.F.entry_dict_items_iter ?_ (PySem.F.args_dict_items_iter_1 _))
  unfold Builtin.«dict_items.__iter__»
  refine wpAny_bind (wpAny_pure (wpAny_bind ?_))
  unfold Builtin.Dict_items.dictOf
  refine wpAny_bind (wpAny_field hov hdv (x := .ref d) rfl (wpAny_pure (wpAny_bind ?_)))
  unfold Builtin.Dict_items.newIterator
  refine wpAny_bind (wpAny_dictEntries ho hdat (wpAny_bind (wpAny_dictEpoch ho hdat ?_)))
  have hown : Builtin.Dict_items.ownsTuple "dict_itemiterator" = true := by decide
  simp only [hown, if_true]
  refine wpAny_newObj_type (wpAny_pure ⟨_, rfl, "dict_itemiterator", _, ⟨_, Heap.get?_push_size _ rfl, rfl⟩, PySem.F.slot_dict_itemiterator_next.lookup, ?_⟩)
    (by simp only [sizeOk, Builtin.Dict_items.ownedTupleFields, List.size_toArray, List.length_append, List.length_cons, List.length_nil, sizeLine_eq]; omega)
  simpa [rawInt, Builtin.Dict_items.ownedTupleFields] using h
theorem iterValues {v d : Addr} {es ep} {Q : Value → Shared → Prop} (hv : s.heap.IsValuesView v d) (hd : DE s.heap d es ep)
    (h : Q (.ref s.heap.objs.size) { s with heap := s.heap.push { cls := .type "dict_valueiterator", data := .fields #[.ref d, .int 0 0, .int es.size 0, .int ep 0] } }) :
    wpAny (model prog w) A (pyIter (.ref v)) Q E s := by
  obtain ⟨ov, hov, _, hdv⟩ := id hv
  obtain ⟨o, ho, _, hdat⟩ := id hd
  refine wpAny_pyIter_slot hv.typeIs PySem.F.slot_dict_values_iter (wpAny_call_entry PySem.F.slot_dict_values_iter hv.typeIs PySem.F.entry_dict_values_iter ?_ (PySem.F.args_dict_values_iter_1 _))
  unfold Builtin.«dict_values.__iter__»
  refine wpAny_bind (wpAny_pure (wpAny_bind ?_))
  unfold Builtin.Dict_items.dictOf
  refine wpAny_bind (wpAny_field hov hdv (x := .ref d) rfl (wpAny_pure (wpAny_bind ?_)))
  unfold Builtin.Dict_items.newIterator
  refine wpAny_bind (wpAny_dictEntries ho hdat (wpAny_bind (wpAny_dictEpoch ho hdat ?_)))
  have hown : Builtin.Dict_items.ownsTuple "dict_valueiterator" = false := by decide
  simp only [hown, Bool.false_eq_true, if_false]
  refine wpAny_newObj_type (wpAny_pure ⟨_, rfl, "dict_valueiterator", _, ⟨_, Heap.get?_push_size _ rfl, rfl⟩, PySem.F.slot_dict_valueiterator_next.lookup, ?_⟩)
  simpa [rawInt] using h

theorem nextValue {I d : Addr} {es : Array DictEntry} {ep i : Nat} {Q : Option Value → Shared → Prop} (hI : s.heap.IsValIter I d i es.size ep) (hd : DE s.heap d es ep) (hi : i < es.size)
    (h : ∀ h', h'.IsValIter I d (i + 1) es.size ep → Heap.SameBut I s.heap h' → Q (some es[i].val) { s with heap := h' }) :
    wpAny (model prog w) A (pyNext (.ref I)) Q E s := by
  obtain ⟨oi, hoi, hci, hdi⟩ := id hI
  obtain ⟨od, hod, _, hdd⟩ := id hd
  unfold pyNext
  refine wpAny_bind (wpAny_attempt (wpAny_callSpecial?_slot (name := Str.ofString "__next__") hI.typeIs PySem.F.slot_dict_valueiterator_next
    (wpAny_call_entry PySem.F.slot_dict_valueiterator_next hI.typeIs PySem.F.entry_dict_valueiterator_next ?_ (PySem.F.args_dict_valueiterator_next_1 _))))
  refine wpAny_bind (wpAny_pure (wpAny_bind (wpAny_bind ?_)))
  refine wpAny_bind (wpAny_typeNameOfWhole_valiter hI.typeIs (wpAny_pure (wpAny_bind (wpAny_fieldsOf hoi hdi ?_))))
  have hown : Builtin.Dict_items.ownsTuple "dict_valueiterator" = false := by decide
  simp only [hown, Bool.false_eq_true, if_false]
  show wpAny _ _ (if (Value.ref d == Value.none) = true then _ else _) _ _ s
  rw [if_neg (show ¬ ((Value.ref d == Value.none) = true) from Bool.false_ne_true)]
  refine wpAny_bind (wpAny_pure (wpAny_bind (wpAny_dictEntries hod hdd ?_)))
  rw [if_neg (by simp)]
  refine wpAny_bind (wpAny_pure (wpAny_bind (wpAny_dictEpoch hod hdd ?_)))
  rw [if_neg (by simp)]
  refine wpAny_pure ?_
  simp only [show ¬ ((i : Int) < 0) from by omega, if_false, Int.toNat_natCast, Array.getElem?_eq_getElem hi]
  refine wpAny_bind (wpAny_bind (wpAny_typeNameOfWhole_valiter hI.typeIs (wpAny_pure (wpAny_bind (wpAny_isOneOf_valiter hI.typeIs ?_)))))
  show wpAny _ _ (setField (.ref I) 1 (rawInt ((i : Int) + 1)) >>= _) _ _ s
  refine wpAny_bind (wpAny_setField hoi hdi (by simp) ?_)
  have hI' : (s.heap.update I (Obj.mapFields (·.setIfInBounds 1 (rawInt ((i : Int) + 1))))).IsValIter I d (i + 1) es.size ep :=
    ⟨_, Heap.get?_update_self _ hoi (Obj.isFreed_of_fields (Obj.data_mapFields hdi _)), (Obj.cls_mapFields ..).trans hci, by rw [Obj.data_mapFields hdi]; simp [rawInt]⟩
  have q := h _ hI' (Heap.SameBut.update ..)
  generalize hh : s.heap.update I (Obj.mapFields (·.setIfInBounds 1 (rawInt ((i : Int) + 1)))) = h2 at hI' q ⊢
  refine wpAny_bind (wpAny_holding (wpAny_bind (wpAny_isOneOf_valiter (s := { s with heap := h2 }) hI'.typeIs (wpAny_bind (wpAny_isOneOf_valiter (s := { s with heap := h2 }) hI'.typeIs ?_)))))
  show wpAny _ _ (pure es[i].val) _ _ _
  exact wpAny_pure (wpAny_pure ⟨_, rfl, wpAny_pure q⟩)
theorem endValue {I d : Addr} {es : Array DictEntry} {ep : Nat} {Q : Option Value → Shared → Prop} (hh : A.handled = none) (hI : s.heap.IsValIter I d es.size es.size ep) (hd : DE s.heap d es ep)
    (h : ∀ h', Heap.ExtBut I s.heap h' → Q none { s with heap := h' }) :
    wpAny (model prog w) A (pyNext (.ref I)) Q E s := by
  obtain ⟨oi, hoi, hci, hdi⟩ := id hI
  obtain ⟨od, hod, _, hdd⟩ := id hd
  unfold pyNext
  refine wpAny_bind (wpAny_attempt (wpAny_callSpecial?_slot (name := Str.ofString "__next__") hI.typeIs PySem.F.slot_dict_valueiterator_next
    (wpAny_call_entry PySem.F.slot_dict_valueiterator_next hI.typeIs PySem.F.entry_dict_valueiterator_next ?_ (PySem.F.args_dict_valueiterator_next_1 _))))
  refine wpAny_bind (wpAny_pure (wpAny_bind (wpAny_bind ?_)))
  refine wpAny_bind (wpAny_typeNameOfWhole_valiter hI.typeIs (wpAny_pure (wpAny_bind (wpAny_fieldsOf hoi hdi ?_))))
  have hown : Builtin.Dict_items.ownsTuple "dict_valueiterator" = false := by decide
  simp only [hown, Bool.false_eq_true, if_false]
  show wpAny _ _ (if (Value.ref d == Value.none) = true then _ else _) _ _ s
  rw [if_neg (show ¬ ((Value.ref d == Value.none) = true) from Bool.false_ne_true)]
  refine wpAny_bind (wpAny_pure (wpAny_bind (wpAny_dictEntries hod hdd ?_)))
  rw [if_neg (by simp)]
  refine wpAny_bind (wpAny_pure (wpAny_bind (wpAny_dictEpoch hod hdd ?_)))
  rw [if_neg (by simp)]
  refine wpAny_pure ?_
  simp only [show ¬ ((es.size : Int) < 0) from by omega, if_false, Int.toNat_natCast, Array.getElem?_eq_none (Nat.le_refl es.size)]
  refine wpAny_bind (wpAny_bind (wpAny_typeNameOfWhole_valiter hI.typeIs (wpAny_pure ?_)))
  show wpAny _ _ (setField (.ref I) 0 .none >>= _) _ _ s
  refine wpAny_bind (wpAny_setField hoi hdi (by simp) ?_)
  show wpAny _ _ (newExc (.type "StopIteration") [] >>= _) _ _ _
  refine wpAny_bind ?_
  simp only [newExc, newTuple]
  refine wpAny_bind (wpAny_newObj_type ?_ (by size_fits))
  refine wpAny_bind (m := firstArgMember _ _) (wpAny_of_eq (a := Value.none) (by first | rfl | (simp only [firstArgMember]; rfl)) ?_)
  refine wpAny_newObj_type ?_ (by size_fits)
  simp only [raiseNew]
  refine wpAny_bind (wpAny_handled ?_)
  rw [show A.in1.handled = none from hh]
  refine wpAny_bind (wpAny_pure (wpAny_throw ?_))
  refine wpAny_bind (wpAny_isInstance (T := "StopIteration") (b := true) ⟨_, Heap.get?_push_size _ rfl, rfl⟩ isSubtype_stop ?_)
  exact wpAny_pure (h _ (((Heap.SameBut.update ..).extBut.push _).push _))
theorem nextItem {I d : Addr} {es : Array DictEntry} {ep i : Nat} {ok ov : Value} {Q : Option Value → Shared → Prop} (hI : IsItemIter s.heap I d i es.size ep ok ov) (hd : DE s.heap d es ep) (hi : i < es.size)
    (h : ∀ h' T, T < h'.objs.size → T ≠ I → s.heap.get? T = none → IsTup h' T #[es[i].key, es[i].val] → IsItemIterOut h' I d (i + 1) es.size ep es[i].key es[i].val T → Heap.ExtBut I s.heap h' → Q (some (.ref T)) { s with heap := h' }) :
    wpAny (model prog w) A (pyNext (.ref I)) Q E s := by
  obtain ⟨hp, g, dr, tk, os⟩ := s
  obtain ⟨od, hod, _, hdd⟩ := id hd
  have hT : Shared.TypeIs ⟨hp, g, dr, tk, os⟩ (.ref I) "dict_itemiterator" := ⟨_, hI, rfl⟩
  unfold pyNext
  refine wpAny_bind (wpAny_attempt (wpAny_callSpecial?_slot (name := Str.ofString "__next__") hT PySem.F.slot_dict_itemiterator_next
    (wpAny_call_entry PySem.F.slot_dict_itemiterator_next hT PySem.F.entry_dict_itemiterator_next ?_ (PySem.F.args_dict_itemiterator_next_1 _))))
  refine wpAny_bind (wpAny_pure (wpAny_bind (wpAny_bind ?_)))
  refine wpAny_bind (wpAny_typeNameOfWhole_itemiter hT (wpAny_pure (wpAny_bind (wpAny_fieldsOf hI rfl ?_))))
  have hown : Builtin.Dict_items.ownsTuple "dict_itemiterator" = true := by decide
  simp only [hown, if_true]
  show wpAny _ _ (if (Value.ref d == Value.none) = true then _ else _) _ _ _
  rw [if_neg (show ¬ ((Value.ref d == Value.none) = true) from Bool.false_ne_true)]
  refine wpAny_bind (wpAny_pure (wpAny_bind (wpAny_dictEntries hod hdd ?_)))
  rw [if_neg (by simp)]
  refine wpAny_bind (wpAny_pure (wpAny_bind (wpAny_dictEpoch hod hdd ?_)))
  rw [if_neg (by simp)]
  refine wpAny_pure ?_
  simp only [show ¬ ((i : Int) < 0) from by omega, if_false, Int.toNat_natCast, Array.getElem?_eq_getElem hi]
  refine wpAny_bind (wpAny_bind (wpAny_typeNameOfWhole_itemiter hT (wpAny_pure (wpAny_bind (wpAny_isOneOf_itemiter hT ?_)))))
  show wpAny _ _ (setField (.ref I) 3 (rawInt ((i : Int) + 1)) >>= _) _ _ ⟨hp, g, dr, tk, os⟩
  refine wpAny_bind (wpAny_setField_rec hI (by simp) fun h1 e1 b1 => ?_)
  have z1 : h1.objs.size = hp.objs.size := b1.1
  replace b1 : Heap.ExtBut I hp h1 := Heap.SameBut.extBut b1
  replace e1 : IsItemIter h1 I d (i + 1) es.size ep ok ov := by
    have e : ((i + 1 : Nat) : Int) = (i : Int) + 1 := by omega
    unfold IsItemIter; rw [e]; simpa [rawInt] using e1
  have hT1 : Shared.TypeIs ⟨h1, g, dr, tk, os⟩ (.ref I) "dict_itemiterator" := ⟨_, e1, rfl⟩
  refine wpAny_bind (wpAny_holding (wpAny_bind (wpAny_isOneOf_itemiter hT1 (wpAny_bind (wpAny_isOneOf_itemiter hT1 ?_)))))
  show wpAny _ _ (Builtin.Dict_items.pairFromOwner (.ref I) 6 es[i].key es[i].val) _ _ ⟨h1, g, dr, tk, os⟩
  unfold Builtin.Dict_items.pairFromOwner
  refine wpAny_bind (wpAny_newTuple ?_)
  have hTI : h1.objs.size ≠ I := Nat.ne_of_gt (Heap.lt_size e1)
  have e2 : IsItemIter (h1.push { cls := .type "tuple", data := .seq #[es[i].key, es[i].val] }) I d (i + 1) es.size ep ok ov := Heap.get?_push_of_some _ e1
  have t2 : IsTup (h1.push { cls := .type "tuple", data := .seq #[es[i].key, es[i].val] }) h1.objs.size #[es[i].key, es[i].val] := ⟨_, Heap.get?_push_size _ rfl, rfl, 0, rfl⟩
  have b2 : Heap.ExtBut I hp (h1.push { cls := .type "tuple", data := .seq #[es[i].key, es[i].val] }) := b1.push _
  have z2 : h1.objs.size < (h1.push { cls := .type "tuple", data := .seq #[es[i].key, es[i].val] }).objs.size := by rw [Heap.size_push]; exact Nat.lt_succ_self _
  have n2 : hp.get? h1.objs.size = none := by
    cases hg : hp.get? h1.objs.size with
    | none => rfl
    | some o => exact absurd (Heap.lt_size hg) (by rw [z1]; exact Nat.lt_irrefl _)
  show wpAny _ _ (Builtin.Dict_items.ownedTupleIsFree (.ref I) >>= _) _ _ ⟨_, g, dr, tk, os⟩
  generalize h1.push { cls := .type "tuple", data := .seq #[es[i].key, es[i].val] } = h2 at e2 t2 b2 z2 ⊢
  generalize h1.objs.size = T at t2 z2 n2 hTI ⊢
  refine wpAny_bind ?_
  unfold Builtin.Dict_items.ownedTupleIsFree
  refine wpAny_bind (wpAny_field e2 rfl (x := .none) rfl (wpAny_pure ?_))
  simp only [if_true]
  refine wpAny_bind (wpAny_field e2 rfl (x := ok) rfl (wpAny_bind (wpAny_field e2 rfl (x := ov) rfl ?_)))
  refine wpAny_bind (wpAny_setField_rec e2 (by simp) fun h3 e3 b3 => ?_)
  refine wpAny_bind (wpAny_setField_rec e3 (by simp) fun h4 e4 b4 => ?_)
  refine wpAny_bind (wpAny_setField_rec e4 (by simp) fun h5 e5 b5 => ?_)
  refine wpAny_bind (wpAny_setField_rec e5 (by simp) fun h6 e6 b6 => ?_)
  replace b3 : Heap.SameBut I h2 h3 := b3
  replace b4 : Heap.SameBut I h3 h4 := b4
  replace b5 : Heap.SameBut I h4 h5 := b5
  replace b6 : Heap.SameBut I h5 h6 := b6
  have k : ∀ b o, b ≠ I → h2.get? b = some o → h6.get? b = some o := fun b o hb e => b6.extBut b o hb (b5.extBut b o hb (b4.extBut b o hb (b3.extBut b o hb e)))
  refine wpAny_bind (wpAny_letGo (wpAny_pure (wpAny_pure ⟨_, rfl, wpAny_pure (h h6 T ?_ hTI n2 ?_ ?_ fun b o hb e => k b o hb (b2 b o hb e))⟩)))
  · rw [b6.1, b5.1, b4.1, b3.1]; exact z2
  · obtain ⟨o, ho, r⟩ := t2
    exact ⟨o, k T o hTI ho, r⟩
  · exact e6
theorem endItem {I d : Addr} {es : Array DictEntry} {ep : Nat} {ok ov : Value} {Q : Option Value → Shared → Prop} (hh : A.handled = none) (hI : IsItemIter s.heap I d es.size es.size ep ok ov) (hd : DE s.heap d es ep)
    (h : ∀ h', Heap.ExtBut I s.heap h' → Q none { s with heap := h' }) :
    wpAny (model prog w) A (pyNext (.ref I)) Q E s := by
  obtain ⟨od, hod, _, hdd⟩ := id hd
  have hT : s.TypeIs (.ref I) "dict_itemiterator" := ⟨_, hI, rfl⟩
  unfold pyNext
  refine wpAny_bind (wpAny_attempt (wpAny_callSpecial?_slot (name := Str.ofString "__next__") hT PySem.F.slot_dict_itemiterator_next
    (wpAny_call_entry PySem.F.slot_dict_itemiterator_next hT PySem.F.entry_dict_itemiterator_next ?_ (PySem.F.args_dict_itemiterator_next_1 _))))
  refine wpAny_bind (wpAny_pure (wpAny_bind (wpAny_bind ?_)))
  refine wpAny_bind (wpAny_typeNameOfWhole_itemiter hT (wpAny_pure (wpAny_bind (wpAny_fieldsOf hI rfl ?_))))
  have hown : Builtin.Dict_items.ownsTuple "dict_itemiterator" = true := by decide
  simp only [hown, if_true]
  show wpAny _ _ (if (Value.ref d == Value.none) = true then _ else _) _ _ s
  rw [if_neg (show ¬ ((Value.ref d == Value.none) = true) from Bool.false_ne_true)]
  refine wpAny_bind (wpAny_pure (wpAny_bind (wpAny_dictEntries hod hdd ?_)))
  rw [if_neg (by simp)]
  refine wpAny_bind (wpAny_pure (wpAny_bind (wpAny_dictEpoch hod hdd ?_)))
  rw [if_neg (by simp)]
  refine wpAny_pure ?_
  simp only [show ¬ ((es.size : Int) < 0) from by omega, if_false, Int.toNat_natCast, Array.getElem?_eq_none (Nat.le_refl es.size)]
  refine wpAny_bind (wpAny_bind (wpAny_typeNameOfWhole_itemiter hT (wpAny_pure ?_)))
  show wpAny _ _ (setField (.ref I) 2 .none >>= _) _ _ s
  refine wpAny_bind (wpAny_setField hI rfl (by simp) ?_)
  show wpAny _ _ (newExc (.type "StopIteration") [] >>= _) _ _ _
  refine wpAny_bind ?_
  simp only [newExc, newTuple]
  refine wpAny_bind (wpAny_newObj_type ?_ (by size_fits))
  refine wpAny_bind (m := firstArgMember _ _) (wpAny_of_eq (a := Value.none) (by first | rfl | (simp only [firstArgMember]; rfl)) ?_)
  refine wpAny_newObj_type ?_ (by size_fits)
  simp only [raiseNew]
  refine wpAny_bind (wpAny_handled ?_)
  rw [show A.in1.handled = none from hh]
  refine wpAny_bind (wpAny_pure (wpAny_throw ?_))
  refine wpAny_bind (wpAny_isInstance (T := "StopIteration") (b := true) ⟨_, Heap.get?_push_size _ rfl, rfl⟩ isSubtype_stop ?_)
  exact wpAny_pure (h _ (((Heap.SameBut.update ..).extBut.push _).push _))
end
section
variable {prog : Program} {w : World} {A : Around} {E : Value → Shared → Prop} {s₀ s : Shared} {Mut : List Addr} {env : Env} {Γ : Heap → Prop} {m : Str → Option Value}

/-- a loop: the turn begins with its target's assignment; J tells the names and what may be turned -/
theorem loopG {target : Expr} {body : List Stmt} {I : Addr} {fp : List Addr} {n : Nat} {P Md : Nat → Value → Heap → Prop} {St : Nat → Heap → Prop} {R : Result → Shared → Prop}
    (W : KTurns prog w A target I fp [I] n P Md St) (F : Cx s₀ Mut env.locals (BoxI I Mut Γ) s m) (hI : I ∉ Mut) (hfp : ∀ b ∈ fp, b ∉ Mut) (hst : St 0 s.heap)
    (J : Nat → (Str → Option Value) → Heap → Prop) (hJ : ∀ i m h h', (∀ b ∈ Mut, ∀ o, h.get? b = some o → h'.get? b = some o) → J i m h → J i m h') (h0 : J 0 m s.heap)
    (turn : ∀ i v m₁ s₁ Γ', (∀ h, Γ' h → Γ h) → i < n → P i v s₁.heap → J i m₁ s₁.heap → Cx s₀ Mut env.locals Γ' s₁ m₁ →
      wpAny (model prog w) A (assign target env v) (fun _ s₂ => wpAny (model prog w) A (execs body env) (fun f s₃ => f = .next ∧ ∃ m₃, Cx s₀ Mut env.locals Γ' s₃ m₃ ∧ J (i + 1) m₃ s₃.heap) (fun _ _ => False) s₂) (fun _ _ => False) s₁)
    (fin : ∀ m₁ s₁, J n m₁ s₁.heap → Cx s₀ Mut env.locals Γ s₁ m₁ → R (.ok .next) s₁) :
    codeAny (model prog w) A (.forLoop target (.ref I) body [] env) R s := by
  have hne : ∀ b, b ∈ Mut → b ∉ [I] := fun b hb x => hI (List.mem_singleton.mp x ▸ hb)
  refine codeAny_forLoop_any (fun k s' => ∃ i m', i ≤ n ∧ k = n + 1 - i ∧ St i s'.heap ∧ J i m' s'.heap ∧ Cx s₀ Mut env.locals (BoxI I Mut Γ) s' m') ?_ (n + 1) ⟨0, m, Nat.zero_le _, rfl, hst, h0, F⟩
  rintro k s' ⟨i, m', hi, rfl, hst', hJ', F'⟩
  by_cases hlt : i < n
  · refine W.item i _ _ _ hlt hst' fun v h₁ tk₁ hM hk₁ => ?_
    have F1 := F'.stepI (tk := tk₁) hI hk₁
    have J1 := hJ _ _ _ _ (fun b hb o e => hk₁ b o (hne b hb) e) hJ'
    refine W.go i v _ _ _ hM fun h₂ hP hst₂ hk₂ => ?_
    have F2 := F1.stepI (tk := tk₁) hI hk₂
    have J2 := hJ _ _ _ _ (fun b hb o e => hk₂ b o (hne b hb) e) J1
    have F3 := F2.and (Γ' := St (i + 1)) fun h' q => W.frame _ _ _ hst₂ fun b hb o e => q b o (hfp b hb) e
    refine wpAny_mono (turn i v m' _ _ (fun h q => q.1.now) hlt hP J2 F3) (fun _ s₃ h₃ => ?_) fun _ _ x => x.elim
    refine wpAny_mono h₃ (fun f s₄ h₄ => ?_) fun _ _ x => x.elim
    obtain ⟨rfl, m₂, F4, hJ4⟩ := h₄
    exact ⟨n + 1 - (i + 1), by omega, i + 1, m₂, hlt, rfl, F4.now.2, hJ4, F4.weak fun h q => q.1⟩
  · have hin : i = n := by omega
    subst hin
    refine W.done _ _ _ hst' fun h₁ tk₁ hk₁ => wpAny_execs_nil ?_
    exact fin m' _ (hJ _ _ _ _ (fun b hb o e => hk₁ b o (hne b hb) e) hJ') ((F'.stepI (tk := tk₁) hI hk₁).weak fun h q => q.now)

/-- what may be turned is taken out, and put back -/
theorem Cx.freeze {L C : Addr} (F : Cx s₀ (C :: Mut) L Γ s m) (X : Heap → Prop) (hX : X s.heap) (hC : C ∉ Mut) (hL : L ∈ Mut) (hst : ∀ h h' : Heap, (∀ o, h.get? C = some o → h'.get? C = some o) → X h → X h') :
    Cx s₀ Mut L (fun h => BoxI C Mut Γ h ∧ X h) s m :=
  ⟨F.same, F.ns, fun h' q => ⟨fun h'' q2 => F.box h'' fun b o hb e => q2 b o (fun x => hb (x ▸ List.mem_cons_self ..)) (fun x => hb (List.mem_cons_of_mem _ x)) (q b o (fun x => hb (List.mem_cons_of_mem _ x)) e), hst _ _ (fun o e => q C o hC e) hX⟩,
    hL, fun b hb => F.ex b (List.mem_cons_of_mem _ hb)⟩
theorem Cx.thaw {L C : Addr} (F : Cx s₀ Mut L Γ s m) (hb : ∀ h, Γ h → BoxI C Mut Γ' h) (hex : ∃ o, s.heap.get? C = some o ∧ ∀ xs n, o.data = .seq xs n → o.cls ≠ .type "tuple") : Cx s₀ (C :: Mut) L Γ' s m :=
  ⟨F.same, F.ns, fun h' q => hb _ F.now h' fun b o h1 h2 e => q b o (fun x => (List.mem_cons.mp x).elim h1 h2) e, List.mem_cons_of_mem _ F.mem, fun b hm => (List.mem_cons.mp hm).elim (fun x => x ▸ hex) (F.ex b)⟩
/-- a step that turns something out of Mut, other than the names -/
theorem Cx.turnAt {L C : Addr} (F : Cx s₀ Mut L Γ s m) {h' : Heap} {tk : Nat} (hC : C ∈ Mut) (hCL : C ≠ L) (hk : ∀ b o, b ≠ C → s.heap.get? b = some o → h'.get? b = some o) (hex : ∃ o, h'.get? C = some o ∧ ∀ xs n, o.data = .seq xs n → o.cls ≠ .type "tuple") :
    Cx s₀ Mut L Γ { s with heap := h', toks := tk } m := by
  obtain ⟨h1, tk1, e1⟩ := F.same
  refine ⟨⟨h', tk, by rw [e1]⟩, F.ns.at' fun o e => hk _ o (Ne.symm hCL) e, fun h2 q => F.box h2 fun b o hb e => q b o hb (hk b o (fun x => hb (x ▸ hC)) e), F.mem, fun b hb => ?_⟩
  by_cases hbC : b = C
  · rw [hbC]; exact hex
  · obtain ⟨o, e, r⟩ := F.ex b hb
    exact ⟨o, hk b o hbC e, r⟩
/-- something new that may be turned -/
theorem Cx.newMut {L : Addr} (F : Cx s₀ Mut L Γ s m) (o : Obj) (ho : ∀ xs n, o.data = .seq xs n → o.cls ≠ .type "tuple") (hf : o.isFreed = false) : Cx s₀ (s.heap.objs.size :: Mut) L Γ { s with heap := s.heap.push o } m := by
  obtain ⟨h1, tk1, e1⟩ := F.same
  refine ⟨⟨s.heap.push o, _, by rw [e1]⟩, F.ns.push o, fun h' q => F.box h' fun b o' hb e => q b o' (fun x => ?_) (Heap.get?_push_of_some _ e), List.mem_cons_of_mem _ F.mem, fun b hb => ?_⟩
  · rcases List.mem_cons.mp x with x | x
    · exact Nat.lt_irrefl _ (x ▸ Heap.lt_size e)
    · exact hb x
  · rcases List.mem_cons.mp hb with rfl | hb
    · exact ⟨o, Heap.get?_push_size _ hf, ho⟩
    · obtain ⟨o', e, r⟩ := F.ex b hb
      exact ⟨o', Heap.get?_push_of_some _ e, r⟩
end

/-! turns over a dict's views -/
section
variable {prog : Program} {w : World} {A : Around} {E : Value → Shared → Prop} {s₀ s : Shared} {Mut : List Addr} {env : Env} {Γ : Heap → Prop} {m : Str → Option Value}

theorem turnsItems {elts : List Expr} {kk : Nat} {pos : Pos} (hh : A.handled = none) (I d : Addr) (hne : d ≠ I) (es : Array DictEntry) (ep : Nat) :
    KTurns prog w A (.Tuple elts kk pos) I [I, d] [I] es.size
      (fun i v h => ∃ T e, v = .ref T ∧ es[i]? = some e ∧ IsTup h T #[e.key, e.val])
      (fun i v h => ∃ T e ok ov, v = .ref T ∧ es[i]? = some e ∧ IsTup h T #[e.key, e.val] ∧ IsItemIterOut h I d (i + 1) es.size ep ok ov T ∧ DE h d es ep ∧ T ≠ I)
      (fun i h => (∃ ok ov, IsItemIter h I d i es.size ep ok ov) ∧ DE h d es ep) where
  sub := fun b hb => by simp at hb; simp [hb]
  frame := fun i h h' st hk => by
    obtain ⟨⟨ok, ov, he⟩, hm⟩ := st
    exact ⟨⟨ok, ov, hk I (by simp) _ he⟩, hm.mov fun o e => hk d (by simp) o e⟩
  item := fun i s Q E hi st hQ => by
    obtain ⟨⟨ok, ov, he⟩, hm⟩ := st
    refine nextItem he hm hi fun h' T hT hTI hn ht ho hk => ?_
    exact hQ (.ref T) h' s.toks ⟨T, es[i], _, _, rfl, Array.getElem?_eq_getElem hi, ht, ho, hm.mov (fun o e => hk d o hne e), hTI⟩ fun b o hb e => hk b o (fun h => hb (by simp [h])) e
  go := fun i v s Q E hm hQ => by
    obtain ⟨T, e, ok, ov, rfl, hx, hT, ho, hd, hTI⟩ := hm
    refine wpAny_letOwnedTupleGo_items ho fun h' he hs => ?_
    obtain ⟨oT, hoT, r⟩ := hT
    exact hQ h' ⟨T, e, rfl, hx, ⟨oT, hs.extBut T _ hTI hoT, r⟩⟩ ⟨⟨ok, ov, he⟩, hd.mov fun o e => hs.extBut d o hne e⟩ fun b o hb e => hs.extBut b o (fun h => hb (by simp [h])) e
  done := fun s Q E st hQ => by
    obtain ⟨⟨ok, ov, he⟩, hm⟩ := st
    exact endItem hh he hm fun h' hx => hQ h' s.toks fun b o hb e => hx b o (fun h => hb (by simp [h])) e

theorem walksValues (hh : A.handled = none) (I d : Addr) (hne : d ≠ I) (es : Array DictEntry) (ep : Nat) :
    Walks prog w A I [I, d] [I] es.size (fun i v => ∃ e, es[i]? = some e ∧ v = e.val) (fun i h => h.IsValIter I d i es.size ep ∧ DE h d es ep) where
  sub := fun b hb => by simp at hb; simp [hb]
  frame := fun _ _ _ st hk => ⟨st.1.at fun o e => hk I (by simp) o e, st.2.mov fun o e => hk d (by simp) o e⟩
  item := fun i s Q E hi st hQ => nextValue st.1 st.2 hi fun h' hit' hs' =>
    hQ _ h' s.toks ⟨_, Array.getElem?_eq_getElem hi, rfl⟩ ⟨hit', st.2.mov fun o e => hs'.extBut d o hne e⟩ fun b o hb e => hs'.extBut b o (fun h => hb (by simp [h])) e
  done := fun s Q E st hQ => endValue hh st.1 st.2 fun h' he' => hQ h' s.toks fun b o hb e => he' b o (fun h => hb (by simp [h])) e
  self := fun _ _ _ _ st hQ => wpAny_pyIter_valiter st.1 hQ

/-- for x, y in view: -/
theorem loopItems {x y : Str} {px py pt : Pos} {kk : Nat} {body : List Stmt} {v d : Addr} {es : Array DictEntry} {ep : Nat} {R : Result → Shared → Prop}
    (hA : A.handled = none) (F : Cx s₀ Mut env.locals Γ s m) (hv : s.heap.IsItemsView v d) (hd : DE s.heap d es ep) (hdM : d ∉ Mut)
    (J : Nat → (Str → Option Value) → Heap → Prop) (hJ : ∀ i m h h', (∀ b ∈ Mut, b ≠ env.locals → ∀ o, h.get? b = some o → h'.get? b = some o) → J i m h → J i m h') (h0 : J 0 m s.heap)
    (turn : ∀ i e m₁ s₁ Γ', (∀ h, Γ' h → Γ h) → i < es.size → es[i]? = some e → (∃ m₀, m₁ = up (up m₀ x e.key) y e.val ∧ J i m₀ s₁.heap) → Cx s₀ Mut env.locals Γ' s₁ m₁ →
      wpAny (model prog w) A (execs body env) (fun f s₃ => f = .next ∧ ∃ m₃, Cx s₀ Mut env.locals Γ' s₃ m₃ ∧ J (i + 1) m₃ s₃.heap) (fun _ _ => False) s₁)
    (fin : ∀ m₁ s₁, J es.size m₁ s₁.heap → Cx s₀ Mut env.locals Γ s₁ m₁ → R (.ok .next) s₁)
    (hx : env.kindOf x = some .local := by rfl) (hy : env.kindOf y = some .local := by rfl) (hp : (env.scope.kind == .class || (env.scope.kind == .module && env.locals != env.globals)) = false := by rfl) :
    wpAny (model prog w) A (pyIter (.ref v)) (fun it s₂ => codeAny (model prog w) A (.forLoop (.Tuple [.Name x px, .Name y py] kk pt) it body [] env) R s₂) E s := by
  have hne : d ≠ s.heap.objs.size := Nat.ne_of_lt hd.lt
  refine iterItems hv hd ?_
  refine loopG (turnsItems hA s.heap.objs.size d hne es ep) (F.iter _) F.new_nin (fun b hb => ?_) ?_ J (fun i m h h' q => hJ i m h h' fun b hb _ o e => q b hb o e) (hJ 0 m _ _ (fun b _ _ o e => Heap.get?_push_of_some _ e) h0) ?_ fin
  · rcases List.mem_cons.mp hb with rfl | hb
    · exact F.new_nin
    · rw [List.mem_singleton.mp hb]; exact hdM
  · exact ⟨⟨_, _, Heap.get?_push_size _ rfl⟩, hd.mov fun o e => Heap.get?_push_of_some _ e⟩
  · rintro i vv m₁ s₁ Γ' hG hi ⟨T, e, rfl, he, hT⟩ hJ1 F1
    refine assign_Tuple_tuple (items := #[e.key, e.val]) hA hT rfl rfl fun h' hext => ?_
    have F2 := F1.extNew (tk := s₁.toks) hext
    have J2 : J i m₁ h' := hJ _ _ _ _ (fun b hb hbL o e => hext b o (Nat.ne_of_lt (Heap.lt_size e)) e) hJ1
    refine assignInOrder_cons (assign_Name (wpAny_storeName_local hx F2.ns (fun h3 hn3 hs3 => ?_) hp))
    have F3 := F2.set (tk := s₁.toks + 1) hn3 hs3
    have J3 : J i m₁ h3 := hJ _ _ _ _ (fun b hb hbL o e => hs3.extBut b o hbL e) J2
    refine assignInOrder_cons (assign_Name (wpAny_storeName_local hy F3.ns (fun h4 hn4 hs4 => ?_) hp))
    have F4 := F3.set (tk := s₁.toks + 1 + 1) hn4 hs4
    have J4 : J i m₁ h4 := hJ _ _ _ _ (fun b hb hbL o e => hs4.extBut b o hbL e) J3
    exact assignInOrder_nil (turn i e _ _ _ hG hi he ⟨m₁, rfl, J4⟩ F4)
end
/-! counts by level -/
def kb (n : Int) : List MK := [.inl (Str.ofString "below"), .inr n, .inl (Str.ofString "way")]
theorem kb_inj {a b : Int} (h : kb a = kb b) : a = b := by
  unfold kb at h
  injection h with _ h
  injection h with h _
  injection h
def getC (c : List (Int × Int)) (k : Int) : Option Int := (c.find? fun p => decide (p.1 = k)).map (·.2)
def putC (c : List (Int × Int)) (k v : Int) : List (Int × Int) := if (getC c k).isSome then c.map (fun p => if p.1 = k then (p.1, v) else p) else c ++ [(k, v)]
def copyC (c : List (Int × Int)) : List (Int × Int) := c.foldl (fun acc p => putC acc p.1 p.2) []
def addOne (acc : List (Int × Int)) (p : Int × Int) : List (Int × Int) := putC acc p.1 (match getC acc p.1 with | some m => m + p.2 | none => p.2)
def addC (c1 c2 : List (Int × Int)) : List (Int × Int) := c2.foldl addOne (copyC c1)
theorem putC_len (c : List (Int × Int)) (k v : Int) : (putC c k v).length ≤ c.length + 1 := by
  unfold putC; split <;> simp

inductive Ents : List (List MK × Addr × Value) → List (Int × Int) → Prop
  | nil : Ents [] []
  | cons (k n : Int) (a : Addr) (t : Tok) {xs c} : Ents xs c → Ents ((kb k, a, .int n t) :: xs) ((k, n) :: c)
theorem Ents.len {xs c} (h : Ents xs c) : xs.length = c.length := by
  induction h with
  | nil => rfl
  | cons _ _ _ _ _ ih => simp [ih]
theorem Ents.get {xs c} (h : Ents xs c) : ∀ (i : Nat) (x : List MK × Addr × Value), xs[i]? = some x → ∃ k n a t, x = (kb k, a, .int n t) ∧ c[i]? = some (k, n) := by
  induction h with
  | nil => intro i x hx; simp at hx
  | cons k n a t _ ih =>
    intro i x hx
    cases i with
    | zero => simp only [List.getElem?_cons_zero, Option.some.injEq] at hx; exact ⟨k, n, a, t, hx.symm, rfl⟩
    | succ j => rw [List.getElem?_cons_succ] at hx ⊢; exact ih j x hx
theorem Ents.append {xs c} (h : Ents xs c) (k n : Int) (a : Addr) (t : Tok) : Ents (xs ++ [(kb k, a, .int n t)]) (c ++ [(k, n)]) := by
  induction h with
  | nil => exact .cons k n a t .nil
  | cons k' n' a' t' _ ih => exact .cons k' n' a' t' ih
theorem Ents.map {xs c} (h : Ents xs c) (k v : Int) (t : Tok) : Ents (xs.map (putAt (kb k) (.int v t))) (c.map (fun p => if p.1 = k then (p.1, v) else p)) := by
  induction h with
  | nil => exact .nil
  | cons k' n' a' t' _ ih =>
    rw [List.map_cons, List.map_cons]
    by_cases hk : k' = k
    · subst hk
      simp only [putAt, if_true]
      exact .cons k' v a' t ih
    · have hk' : ¬ kb k' = kb k := fun e => hk (kb_inj e)
      simp only [putAt, hk, hk', if_false]
      exact .cons k' n' a' t' ih
theorem Ents.at {xs c} (h : Ents xs c) (k : Int) : match getC c k with | none => atKey xs (kb k) = none | some v => ∃ a t, atKey xs (kb k) = some (a, .int v t) := by
  induction h with
  | nil => rfl
  | cons k' n' a' t' _ ih =>
    by_cases hk : k' = k
    · subst hk
      simp only [getC, atKey, List.find?_cons, decide_true, Option.map_some]
      exact ⟨a', t', rfl⟩
    · have hk' : ¬ kb k' = kb k := fun e => hk (kb_inj e)
      simp only [getC, atKey, List.find?_cons, hk, hk', decide_false] at ih ⊢
      exact ih
theorem Ents.put {xs c} (h : Ents xs c) (k v : Int) (a : Addr) (t : Tok) : Ents (storedH xs (kb k) a (.int v t)) (putC c k v) := by
  have ha := h.at k
  unfold storedH putC
  cases hg : getC c k with
  | none =>
    rw [hg] at ha
    simp only at ha
    rw [ha]
    simp only [Option.isSome_none, Bool.false_eq_true, if_false]
    exact h.append k v a t
  | some m =>
    rw [hg] at ha
    obtain ⟨a', t', e⟩ := ha
    rw [e]
    simp only [Option.isSome_some, if_true]
    exact h.map k v t
theorem storedH_mem {K : Type} [DecidableEq K] {xs : List (K × Addr × Value)} {k : K} {a : Addr} {v : Value} : ∀ x ∈ storedH xs k a v, (∃ y ∈ xs, y.1 = x.1 ∧ y.2.1 = x.2.1) ∨ (x.1 = k ∧ x.2.1 = a) := by
  intro x hx
  unfold storedH at hx
  split at hx
  · obtain ⟨y, hy, rfl⟩ := List.mem_map.mp hx
    refine .inl ⟨y, hy, ?_⟩
    unfold putAt
    split <;> exact ⟨rfl, rfl⟩
  · rcases List.mem_append.mp hx with h | h
    · exact .inl ⟨x, h, rfl, rfl⟩
    · rw [List.mem_singleton.mp h]; exact .inr ⟨rfl, rfl⟩

section
variable (prog : Program) (w : World)
abbrev TKd : HeapKind prog w (List MK) := tupleKind (mixKind prog w)
/-- a dict of counts -/
def Cnt (h : Heap) (d : Addr) (c : List (Int × Int)) : Prop := (d == sysModules) = false ∧ ∃ xs, Ents xs c ∧ h.DictOfH (TKd prog w) d xs
/-- the same, its keys told by what stays -/
def CntR (Γ : Heap → Prop) (h : Heap) (d : Addr) (c : List (Int × Int)) : Prop :=
  ∃ xs es ep, Ents xs c ∧ DE h d es ep ∧ es.toList = xs.map (entryOfKey (TKd prog w)) ∧ (∀ x ∈ xs, ∀ h, Γ h → (TKd prog w).is h x.1 x.2.1) ∧ (xs.map (·.1)).Nodup
end
section
variable {prog : Program} {w : World}
theorem CntR.mov {Γ : Heap → Prop} {h h' : Heap} {d c} (x : CntR prog w Γ h d c) (e : ∀ o, h.get? d = some o → h'.get? d = some o) : CntR prog w Γ h' d c :=
  let ⟨xs, es, ep, a, b, r⟩ := x; ⟨xs, es, ep, a, b.mov e, r⟩
theorem IsTupleKey.mov {h h' : Heap} {ks : List MK} {a : Addr} (x : IsTupleKey (mixKind prog w) h ks a) (k : ∀ o, IsImm o → h.get? a = some o → h'.get? a = some o) : IsTupleKey (mixKind prog w) h' ks a :=
  let ⟨o, items, n, ho, hc, hd, r⟩ := x; ⟨o, items, n, k o ⟨hc, items, n, hd⟩ ho, hc, hd, r⟩
/-- a dict is told again where everything but what may be turned stays -/
theorem dict_mov {h h' : Heap} {d : Addr} {xs} (hd : h.DictOfH (TKd prog w) d xs) (h1 : ∀ o, h.get? d = some o → h'.get? d = some o) (h2 : Imm h h') : h'.DictOfH (TKd prog w) d xs := by
  obtain ⟨o, es, ep, ho, hc, hdat, he, hk, hn⟩ := hd
  exact ⟨o, es, ep, h1 o ho, hc, hdat, he, fun x hx => IsTupleKey.mov (hk x hx) fun o i e => h2 _ o i e, hn⟩
theorem Cnt.keeps {s s' : Shared} {d c} (x : Cnt prog w s.heap d c) (k : Keeps s s') : Cnt prog w s'.heap d c := by
  obtain ⟨h1, xs, e, hd⟩ := x
  refine ⟨h1, xs, e, dict_mov hd ?_ (Keeps.imm k)⟩
  obtain ⟨h, tk, rfl, q⟩ := k
  exact fun o e => q _ o e
theorem Cnt.base {h h' : Heap} {d c} (x : Cnt prog w h d c) (k : ∀ b o, h.get? b = some o → h'.get? b = some o) : Cnt prog w h' d c := by
  obtain ⟨h1, xs, e, hd⟩ := x
  exact ⟨h1, xs, e, dict_mov hd (fun o e => k _ o e) fun b o _ e => k b o e⟩
end
section
variable {prog : Program} {w : World} {A : Around} {E : Value → Shared → Prop} {s s₀ : Shared} {Mut : List Addr} {env : Env} {Γ Γ' : Heap → Prop} {m : Str → Option Value} {L D : Addr}

theorem DictOfH.cntR {h : Heap} {xs} {c} (hd : h.DictOfH (TKd prog w) D xs) (he : Ents xs c) (hk : ∀ x ∈ xs, ∀ h, Γ h → (TKd prog w).is h x.1 x.2.1) : CntR prog w Γ h D c := by
  obtain ⟨o, es, ep, ho, hc, hdat, hes, _, hn⟩ := hd
  exact ⟨xs, es, ep, he, ⟨o, ho, hc, hdat⟩, hes, hk, hn⟩
theorem CntR.dict {h : Heap} {c} (x : CntR prog w Γ h D c) (hG : Γ h) : ∃ xs, Ents xs c ∧ h.DictOfH (TKd prog w) D xs ∧ ∀ x ∈ xs, ∀ h, Γ h → (TKd prog w).is h x.1 x.2.1 := by
  obtain ⟨xs, es, ep, he, ⟨o, ho, hc, hdat⟩, hes, hk, hn⟩ := x
  exact ⟨xs, he, ⟨o, es, ep, ho, hc, hdat, hes, fun x hx => hk x hx _ hG, hn⟩, hk⟩

theorem stLH {x : Str} {v : Value} {Q : Unit → Shared → Prop} (F : Cx s₀ Mut env.locals Γ s m) (h : ∀ s', Cx s₀ Mut env.locals Γ s' (up m x v) → (∀ b o, b ≠ env.locals → s.heap.get? b = some o → s'.heap.get? b = some o) → Q () s')
    (hl : env.kindOf x = some .local := by rfl) (hp : (env.scope.kind == .class || (env.scope.kind == .module && env.locals != env.globals)) = false := by rfl) :
    wpAny (model prog w) A (storeName env x v) Q E s := wpAny_storeName_local hl F.ns (fun _ hn hs => h _ (F.set hn hs) fun b o hb e => hs.extBut b o hb e) hp
/-- d[key] = n, D one that may be turned -/
theorem setD {c : List (Int × Int)} {k n : Int} {a : Addr} {t : Tok} {N : Nat} {Q : Unit → Shared → Prop} (ak : Ak A N) (F : Cx s₀ Mut L Γ' s m) (hG : ∀ h, Γ' h → Γ h) (x : CntR prog w Γ s.heap D c) (hk : ∀ h, Γ h → (TKd prog w).is h (kb k) a)
    (hD : D ∈ Mut) (hDL : D ≠ L) (hz : c.length ≤ 1000)
    (h : ∀ s', Cx s₀ Mut L Γ' s' m → CntR prog w Γ s'.heap D (putC c k n) → Q () s') :
    wpAny (model prog w) A (setItem (.ref D) (.ref a) (.int n t)) Q E s := by
  obtain ⟨xs, he, hd, hks⟩ := x.dict (hG _ F.now)
  refine wpAny_setItem_heap (knd := TKd prog w) (k := kb k) (tupleKind_room_in1 ak.u2) (hk _ (hG _ F.now)) hd (fun h' hd' hs => ?_) (by rw [he.len, sizeLine_eq]; omega)
  refine h _ (F.turnAt hD hDL (fun b o hb e => hs.extBut b o hb e) ?_) (DictOfH.cntR hd' (he.put k n a t) fun y hy => ?_)
  · obtain ⟨o, es, ep, ho, hc, hdat, _⟩ := hd'
    exact ⟨o, ho, fun xs n e => by rw [hdat] at e; cases e⟩
  · rcases storedH_mem y hy with ⟨z, hz, e1, e2⟩ | ⟨e1, e2⟩
    · rw [← e1, ← e2]; exact hks z hz
    · rw [e1, e2]; exact hk
theorem inD {c : List (Int × Int)} {k : Int} {a : Addr} {N : Nat} {Q : Value → Shared → Prop} (ak : Ak A N) (F : Cx s₀ Mut L Γ' s m) (hG : ∀ h, Γ' h → Γ h) (x : CntR prog w Γ s.heap D c) (hk : ∀ h, Γ h → (TKd prog w).is h (kb k) a) (hD : (D == sysModules) = false)
    (h : ∀ s', Cx s₀ Mut L Γ' s' m → CntR prog w Γ s'.heap D c → Q (.bool (getC c k).isSome) s') :
    wpAny (model prog w) A (compareOp .In (.ref a) (.ref D)) Q E s := by
  obtain ⟨xs, he, hd, hks⟩ := x.dict (hG _ F.now)
  refine wpAny_in_heap (knd := TKd prog w) (k := kb k) (tupleKind_room_in1 ak.u2) (hk _ (hG _ F.now)) hD hd ?_
  have e : (atKey xs (kb k)).isSome = (getC c k).isSome := by
    have ha := he.at k
    cases hg : getC c k with
    | none => rw [hg] at ha; simp only at ha; rw [ha]; rfl
    | some v => rw [hg] at ha; obtain ⟨a', t', e⟩ := ha; rw [e]; rfl
  rw [e]
  exact h _ (F.toks _) x
theorem getD {c : List (Int × Int)} {k n : Int} {a : Addr} {N : Nat} {Q : Value → Shared → Prop} (ak : Ak A N) (F : Cx s₀ Mut L Γ' s m) (hG : ∀ h, Γ' h → Γ h) (x : CntR prog w Γ s.heap D c) (hk : ∀ h, Γ h → (TKd prog w).is h (kb k) a) (hn : getC c k = some n)
    (h : ∀ t s', Cx s₀ Mut L Γ' s' m → CntR prog w Γ s'.heap D c → Q (.int n t) s') :
    wpAny (model prog w) A (getItem (.ref D) (.ref a)) Q E s := by
  obtain ⟨xs, he, hd, hks⟩ := x.dict (hG _ F.now)
  have ha := he.at k
  rw [hn] at ha
  obtain ⟨a', t', e⟩ := ha
  exact wpAny_getItem_heap (knd := TKd prog w) (k := kb k) (p := (a', .int n t')) (tupleKind_room_in1 ak.u2) (hk _ (hG _ F.now)) hd e (h t' _ (F.toks _) x)

/-- x.items() of a dict that stays -/
theorem DictOfH.de {h : Heap} {xs} (hd : h.DictOfH (TKd prog w) D xs) : ∃ es ep, DE h D es ep ∧ es.toList = xs.map (entryOfKey (TKd prog w)) := by
  obtain ⟨o, es, ep, ho, hc, hdat, hes, _⟩ := hd
  exact ⟨es, ep, ⟨o, ho, hc, hdat⟩, hes⟩
theorem methItems {x : Str} {px pa pos : Pos} {d : Addr} {es ep} {Q : Value → Shared → Prop} (F : Cx s₀ Mut env.locals Γ s m) (hv : m x = some (.ref d)) (hd : DE s.heap d es ep) (h1 : (d == sysModules) = false)
    (h : ∀ V h', Cx s₀ Mut env.locals Γ { s with heap := h' } m → h'.IsItemsView V d → Keeps s { s with heap := h' } → Q (.ref V) { s with heap := h' })
    (hl : (pa.endLine == pos.line) = true) (hb : attributeBase (.Name x px) (Str.ofString "items") env (eval (.Name x px) env) = eval (.Name x px) env)
    (hk : env.scope.kind = .function := by rfl) (hloc : env.kindOf x = some .local := by rfl) (hdbg : (x == ("__debug__" : Str)) = false := by decide) :
    wpAny (model prog w) A (eval (.Call (.Attribute (.Name x px) (Str.ofString "items") pa) [] [] pos) env) Q E s := by
  refine Call_method0 hb hl (ldL F hv ⟨"dict", "dict.items", PySem.F.plainAttrs_dict, PySem.F.slot_dict_items, PySem.F.type_dict_items, hd.typeIs, ?_, ?_⟩ hk hloc hdbg)
  · intro b e
    injection e with e
    subst e
    obtain ⟨o, ho, hc, _⟩ := hd
    exact ⟨o, ho, hc.2.1⟩
  · refine Calls.callWith_builtin (args := []) rfl (PySem.evalArgs_none ?_)
    exact viewItems hd h1 (h _ _ (F.push _) ⟨_, Heap.get?_push_size _ rfl, rfl, rfl⟩ ⟨_, s.toks, rfl, fun _ _ e => Heap.get?_push_of_some _ e⟩)
end

theorem Keeps.get {s s' : Shared} (k : Keeps s s') : ∀ b o, s.heap.get? b = some o → s'.heap.get? b = some o := by
  obtain ⟨h, tk, rfl, q⟩ := k
  exact q
/-- what was there before the call is not what may be turned -/
theorem Cx.old_nin {s₀ s : Shared} {Mut : List Addr} {L : Addr} {Γ : Heap → Prop} {m : Str → Option Value} (F : Cx s₀ Mut L Γ s m) (hB : ∀ h, Γ h → Base s₀ h) {b : Addr} {o : Obj} (ho : s₀.heap.get? b = some o) : b ∉ Mut := fun hm => by
  have e1 := hB _ F.now b o ho
  have e2 := hB _ (F.box (s.heap.update b fun _ => { o with slots := o.slots.push none }) fun x o' hx e => (Heap.get?_update_other _ _ (fun h => hx (by rw [← h]; exact hm))).trans e) b o ho
  have e3 := Heap.get?_update_self (h := s.heap) (a := b) (fun _ => { o with slots := o.slots.push none }) e1 (by have h1 := (Heap.get?_some_iff.mp e1).2; obtain ⟨_, _, dt, _⟩ := o; cases dt <;> exact h1)
  rw [e2] at e3
  have e4 := congrArg (fun x : Option Obj => x.map fun y => y.slots.size) e3
  simp at e4

theorem addc_spec {prog : Program} {w : World} {A : Around} {E : Value → Shared → Prop} {s : Shared} {d1 d2 : Addr} {c1 c2 : List (Int × Int)} {n : Nat} {Q : Value → Shared → Prop}
    (a : Ak A (n + 1)) (W : W0 w s.heap) (h1 : Cnt prog w s.heap d1 c1) (h2 : Cnt prog w s.heap d2 c2) (hz : c1.length + c2.length ≤ 500)
    (h : ∀ s' D, Keeps s s' → s.heap.get? D = none → Cnt prog w s'.heap D (addC c1 c2) → Q (.ref D) s') :
    wpAny (model prog w) A (call (.ref 39) [.ref d1, .ref d2]) Q E s := by
  refine enter (n := n) (binds := [("target", .ref d1), ("source", .ref d2)]) (f := 39) a W rfl rfl rfl (locs rfl) fun L s₁ A' a F => ?_
  have hW : ∀ h, Base s h → W0 w h := fun h q => W.keeps q
  refine wpAny_execs_cons (wpAny_Assign_Name (wpAny_Dict_empty ?_))
  have hf0 : s.heap.get? s₁.heap.objs.size = none := fresh_back (F.keepsOf fun h q => q) (Heap.get?_none_of_le (Nat.le_refl _))
  have hD1 : (s₁.heap.objs.size == sysModules) = false := by
    have : (70 : Nat) < s₁.heap.objs.size := Heap.lt_size ((hW _ F.now).k 70 _ rfl)
    refine beq_eq_false_iff_ne.mpr fun e => ?_
    rw [e] at this
    exact absurd this (by decide)
  have hL : L ≠ s₁.heap.objs.size := Nat.ne_of_lt (F.lt F.mem)
  have x0 : CntR prog w (Base s) (s₁.heap.push { cls := .type "dict", data := .dict #[] }) s₁.heap.objs.size [] := ⟨[], #[], 0, .nil, ⟨_, Heap.get?_push_size _ rfl, ⟨rfl, rfl, rfl⟩, rfl⟩, rfl, fun x hx => by simp at hx, List.nodup_nil⟩
  have F := F.newMut { cls := .type "dict", data := .dict #[] } (fun xs n e => by cases e) rfl
  generalize s₁.heap.objs.size = D at F x0 hf0 hD1 hL ⊢
  refine stLH F fun s2 F k => ?_
  replace x0 := x0.mov fun o e => k D o (Ne.symm hL) e
  obtain ⟨g1, xs1, e1, hd1⟩ := id h1
  obtain ⟨g2, xs2, e2, hd2⟩ := id h2
  obtain ⟨es1, ep1, de1, l1⟩ := DictOfH.de hd1
  obtain ⟨es2, ep2, de2, l2⟩ := DictOfH.de hd2
  have sz1 : es1.size = c1.length := by rw [← Array.length_toList, l1, List.length_map, e1.len]
  have sz2 : es2.size = c2.length := by rw [← Array.length_toList, l2, List.length_map, e2.len]
  have ent : ∀ {es : Array DictEntry} {xs : List (List MK × Addr × Value)} {c : List (Int × Int)}, es.toList = xs.map (entryOfKey (TKd prog w)) → Ents xs c → (∀ x ∈ xs, (TKd prog w).is s.heap x.1 x.2.1) → ∀ (i : Nat) (e : DictEntry), es[i]? = some e → ∃ k nn b t, e.key = .ref b ∧ e.val = .int nn t ∧ c[i]? = some (k, nn) ∧ ∀ h, Base s h → (TKd prog w).is h (kb k) b := by
    intro es xs c hl he hk i e hi
    rw [← Array.getElem?_toList, hl, List.getElem?_map] at hi
    cases hx : xs[i]? with
    | none => rw [hx] at hi; cases hi
    | some y =>
      rw [hx] at hi
      obtain ⟨k, nn, b, t, rfl, hc⟩ := he.get i y hx
      have hi : entryOfKey (TKd prog w) (kb k, b, Value.int nn t) = e := Option.some.inj hi
      subst hi
      exact ⟨k, nn, b, t, rfl, rfl, hc, fun h q => IsTupleKey.mov (hk _ (List.mem_of_getElem? hx)) fun o _ e => q _ o e⟩
  have keyOf : ∀ {d : Addr} {xs}, s.heap.DictOfH (TKd prog w) d xs → ∀ x ∈ xs, (TKd prog w).is s.heap x.1 x.2.1 := by
    rintro d xs ⟨_, _, _, _, _, _, _, hk, _⟩
    exact hk
  have ent1 := ent l1 e1 (keyOf hd1)
  have ent2 := ent l2 e2 (keyOf hd2)
  have F := F.and (Γ' := fun h => DE h d1 es1 ep1 ∧ DE h d2 es2 ep2) fun h' q => by
    have := F.box h' q
    exact ⟨de1.mov fun o e => this _ o e, de2.mov fun o e => this _ o e⟩
  -- the first loop
  refine wpAny_execs_cons (wpAny_For (methItems F (d := d1) (by walk_at "lk") F.now.2.1 g1 (fun V h' F hV k => ?_) rfl rfl))
  have x0 : CntR prog w (Base s) h' D [] := x0.mov fun o e => Keeps.get k D o e
  have B : ∀ h, Base s h ∧ DE h d1 es1 ep1 ∧ DE h d2 es2 ep2 → Base s h := fun h q => q.1
  have M1 : d1 ∉ [D, L] := let ⟨_, _, _, ho, _⟩ := hd1; F.old_nin B ho
  have M2 : d2 ∉ [D, L] := let ⟨_, _, _, ho, _⟩ := hd2; F.old_nin B ho
  refine loopItems a.hh F hV F.now.2.1 M1 (fun i m h => m (Str.ofString "target") = some (.ref d1) ∧ m (Str.ofString "source") = some (.ref d2) ∧ m (Str.ofString "new_callers") = some (.ref D) ∧ ∃ c, c.length ≤ i ∧ (c1.take i).foldl (fun acc p => putC acc p.1 p.2) [] = c ∧ CntR prog w (Base s) h D c) ?_ ?_ ?_ ?_
  · rintro i m h h' q ⟨i1, i2, i3, c, i4, i5, i6⟩
    exact ⟨i1, i2, i3, c, i4, i5, i6.mov fun o e => q D (by simp) (Ne.symm hL) o e⟩
  · exact ⟨by walk_at "lk", by walk_at "lk", by walk_at "lk", [], by simp, by simp, x0⟩
  · rintro i e m₁ s₁ Γ' hG hi he ⟨m₀, rfl, i1, i2, i3, c, i4, i5, i6⟩ F
    obtain ⟨k, nn, b, t, ek, ev, hc, hk⟩ := ent1 i e he
    rw [ek, ev] at F
    refine wpAny_execs_cons (wpAny_Assign_Subscript ?_)
    refine ldL F (v := .int nn t) (by walk_at "lk") (ldL F (v := .ref D) (by walk_at "lk") (ldL F (v := .ref b) (by walk_at "lk") ?_))
    refine setD a F (fun h q => (hG h q).1) i6 hk (by simp) (Ne.symm hL) (by omega) fun s5 F x5 => wpAny_execs_nil ⟨rfl, _, F, by walk_at "lk", by walk_at "lk", by walk_at "lk", _, Nat.le_trans (putC_len c k nn) (by omega), ?_, x5⟩
    rw [take_snoc hc, List.foldl_append, i5]
    rfl
  · rintro m₁ s₁ ⟨i1, i2, i3, c, i4, i5, i6⟩ F
    have i5 : copyC c1 = c := by rw [← i5, sz1, List.take_length]; rfl
    rw [sz1] at i4
    show wpAny _ _ _ _ _ _
    -- the second loop
    refine wpAny_execs_cons (wpAny_For (methItems F (d := d2) (by walk_at "lk") F.now.2.2 g2 (fun V h' F hV k => ?_) rfl rfl))
    have x1 : CntR prog w (Base s) h' D c := i6.mov fun o e => Keeps.get k D o e
    refine loopItems a.hh F hV F.now.2.2 M2 (fun i m h => m (Str.ofString "new_callers") = some (.ref D) ∧ ∃ c', c'.length ≤ c1.length + i ∧ (c2.take i).foldl addOne c = c' ∧ CntR prog w (Base s) h D c') ?_ ?_ ?_ ?_
    · rintro i m h h' q ⟨i3, c, i4, i5, i6⟩
      exact ⟨i3, c, i4, i5, i6.mov fun o e => q D (by simp) (Ne.symm hL) o e⟩
    · exact ⟨by walk_at "lk", c, by omega, by simp, x1⟩
    · rintro i e m₁ s₁ Γ' hG hi he ⟨m₀, rfl, i3, c', i4', i5', i6'⟩ F
      obtain ⟨k, nn, b, t, ek, ev, hc, hk⟩ := ent2 i e he
      rw [ek, ev] at F
      refine wpAny_execs_cons (wpAny_If (wpAny_isTrue_Compare1 ?_))
      refine ldL F (v := .ref b) (by walk_at "lk") (ldL F (v := .ref D) (by walk_at "lk") (inD a F (fun h q => (hG h q).1) i6' hk hD1 fun s2 F x2 => wpAny_truthy_bool (split_bool (fun hg => ?_) fun hg => ?_)))
      · refine wpAny_execs_cons (wpAny_If (wpAny_isTrue_value (Call_ ?_)))
        refine ldB F (fun h q => hW h (hG h q).1) (g_isinstance w) b_isinstance (PyProof.Rows.callWith_builtin1 (args_cons ?_))
        refine ldL F (v := .int nn t) (by walk_at "lk") (args_cons (ldB F (fun h q => hW h (hG h q).1) (g_tuple w) b_tuple (args_nil (PySem.IsiPair.int_tuple (wpAny_truthy_bool ?_)))))
        rw [if_neg (by decide)]
        have F := F.toks (s2.toks + 1)
        refine wpAny_execs_cons (wpAny_AugAssign_Subscript ?_)
        obtain ⟨mm, hmm⟩ := Option.isSome_iff_exists.mp hg
        refine ldL F (v := .ref D) (by walk_at "lk") (ldL F (v := .ref b) (by walk_at "lk") (getD a F (fun h q => (hG h q).1) x2 hk hmm fun t3 s3 F x3 => ?_))
        refine ldL F (v := .int nn t) (by walk_at "lk") ?_
        refine iadd_int ?_
        refine setD a (F.toks _) (fun h q => (hG h q).1) x3 hk (by simp) (Ne.symm hL) (by omega) fun s5 F x5 => wpAny_execs_nil (wpAny_execs_nil (wpAny_execs_nil ⟨rfl, _, F, by walk_at "lk", _, Nat.le_trans (putC_len c' k _) (by omega), ?_, x5⟩))
        rw [take_snoc hc, List.foldl_append, i5']
        simp only [List.foldl, addOne, hmm]
      · refine wpAny_execs_cons (wpAny_Assign_Subscript ?_)
        refine ldL F (v := .int nn t) (by walk_at "lk") (ldL F (v := .ref D) (by walk_at "lk") (ldL F (v := .ref b) (by walk_at "lk") ?_))
        refine setD a F (fun h q => (hG h q).1) x2 hk (by simp) (Ne.symm hL) (by omega) fun s5 F x5 => wpAny_execs_nil (wpAny_execs_nil ⟨rfl, _, F, by walk_at "lk", _, Nat.le_trans (putC_len c' k nn) (by omega), ?_, x5⟩)
        have hgn : getC c' k = none := by
          cases hg' : getC c' k with
          | none => rfl
          | some v => rw [hg'] at hg; cases hg
        rw [take_snoc hc, List.foldl_append, i5']
        simp only [List.foldl, addOne, hgn]
    · rintro m₁ s₁ ⟨i3, c', i4', i5', i6'⟩ F
      have i5' : addC c1 c2 = c' := by rw [← i5', sz2, List.take_length, ← i5]; rfl
      show wpAny _ _ _ _ _ _
      refine wpAny_execs_cons (wpAny_Return_some (ldL F (v := .ref D) (by walk_at "lk") ?_))
      obtain ⟨xs, he, hd, _⟩ := i6'.dict F.now.1
      rw [← i5'] at he
      exact h _ D (F.keepsOf fun h q => q.1) hf0 ⟨hD1, xs, he, hd⟩
def sumC (c : List (Int × Int)) : Int := c.foldl (fun a p => a + p.2) 0

section
variable {prog : Program} {w : World} {A : Around} {E : Value → Shared → Prop} {s s₀ : Shared} {Mut : List Addr} {env : Env} {Γ Γ' : Heap → Prop} {m : Str → Option Value} {L D : Addr}
theorem methValues {x : Str} {px pa pos : Pos} {d : Addr} {es ep} {Q : Value → Shared → Prop} (F : Cx s₀ Mut env.locals Γ s m) (hv : m x = some (.ref d)) (hd : DE s.heap d es ep) (h1 : (d == sysModules) = false)
    (h : ∀ V h', Cx s₀ Mut env.locals Γ { s with heap := h' } m → h'.IsValuesView V d → Keeps s { s with heap := h' } → Q (.ref V) { s with heap := h' })
    (hl : (pa.endLine == pos.line) = true) (hb : attributeBase (.Name x px) (Str.ofString "values") env (eval (.Name x px) env) = eval (.Name x px) env)
    (hk : env.scope.kind = .function := by rfl) (hloc : env.kindOf x = some .local := by rfl) (hdbg : (x == ("__debug__" : Str)) = false := by decide) :
    wpAny (model prog w) A (eval (.Call (.Attribute (.Name x px) (Str.ofString "values") pa) [] [] pos) env) Q E s := by
  refine Call_method0 hb hl (ldL F hv ⟨"dict", "dict.values", PySem.F.plainAttrs_dict, PySem.F.slot_dict_values, PySem.F.type_dict_values, hd.typeIs, ?_, ?_⟩ hk hloc hdbg)
  · intro b e
    injection e with e
    subst e
    obtain ⟨o, ho, hc, _⟩ := hd
    exact ⟨o, ho, hc.2.1⟩
  · refine Calls.callWith_builtin (args := []) rfl (PySem.evalArgs_none ?_)
    exact viewValues hd h1 (h _ _ (F.push _) ⟨_, Heap.get?_push_size _ rfl, rfl, rfl⟩ ⟨_, s.toks, rfl, fun _ _ e => Heap.get?_push_of_some _ e⟩)
end

theorem countc_spec {prog : Program} {w : World} {A : Around} {E : Value → Shared → Prop} {s : Shared} {d : Addr} {c : List (Int × Int)} {n : Nat} {Q : Value → Shared → Prop}
    (a : Ak A (n + 1)) (W : W0 w s.heap) (h1 : Cnt prog w s.heap d c)
    (h : ∀ t s', Keeps s s' → Q (.int (sumC c) t) s') :
    wpAny (model prog w) A (call (.ref 46) [.ref d]) Q E s := by
  refine enter (n := n) (binds := [("callers", .ref d)]) (f := 46) a W rfl rfl rfl (locs rfl) fun L s₁ A' a F => ?_
  refine wpAny_execs_cons (wpAny_Assign_Name (cInt F fun t1 s2 F => stL F fun s3 F => ?_))
  obtain ⟨g1, xs, e1, hd⟩ := id h1
  obtain ⟨es, ep, de, l1⟩ := DictOfH.de hd
  have sz : es.size = c.length := by rw [← Array.length_toList, l1, List.length_map, e1.len]
  have dM : d ∉ [L] := let ⟨_, _, _, ho, _⟩ := hd; F.old_nin (fun h q => q) ho
  have F := F.and (Γ' := fun h => DE h d es ep) fun h' q => de.mov fun o e => F.box h' q _ o e
  refine wpAny_execs_cons (wpAny_For (methValues F (d := d) (by walk_at "lk") F.now.2 g1 (fun V h' F hV k => ?_) rfl rfl))
  have hne : d ≠ h'.objs.size := Nat.ne_of_lt F.now.2.lt
  refine iterValues (s := { s3 with heap := h' }) hV F.now.2 ?_
  refine loopW (walksValues a.hh h'.objs.size d hne es ep) (F.iter _) F.new_nin (fun b hb => ?_) ?_ (fun i m => ∃ u, m (Str.ofString "nc") = some (.int (sumC (c.take i)) u)) ⟨t1, by walk_at "lk"⟩ ?_ ?_
  · rcases List.mem_cons.mp hb with rfl | hb
    · exact F.new_nin
    · rw [List.mem_singleton.mp hb]; exact dM
  · exact ⟨⟨_, Heap.get?_push_size _ rfl, rfl, rfl⟩, F.now.2.mov fun o e => Heap.get?_push_of_some _ e⟩
  · rintro i v m1 s4 Γ' hG hi ⟨e, he, rfl⟩ ⟨u, hu⟩ F
    rw [← Array.getElem?_toList, l1, List.getElem?_map] at he
    cases hx : xs[i]? with
    | none => rw [hx] at he; cases he
    | some y =>
      rw [hx] at he
      obtain ⟨k, nn, b, t, rfl, hc⟩ := e1.get i y hx
      have he : entryOfKey (TKd prog w) (kb k, b, Value.int nn t) = e := Option.some.inj he
      subst he
      have F : Cx s [L] L Γ' s4 (up m1 (Str.ofString "calls") (.int nn t)) := F
      refine wpAny_execs_cons (wpAny_AugAssign_Name ?_)
      refine ldn' F (v := .int (sumC (c.take i)) u) (by walk_at "lk") (ldL F (v := .int nn t) (by walk_at "lk") (oIadd F fun t2 s5 F => stL F fun s6 F => wpAny_execs_nil ⟨rfl, _, F, t2, ?_⟩))
      have es : sumC (c.take i ++ [(k, nn)]) = sumC (c.take i) + nn := by unfold sumC; rw [List.foldl_append]; rfl
      rw [take_snoc hc, es]
      walk_at "lk"
  · rintro m1 s4 ⟨u, hu⟩ F
    rw [sz, List.take_length] at hu
    show wpAny _ _ _ _ _ _
    refine wpAny_execs_cons (wpAny_Return_some (ldL F (v := .int (sumC c) u) (by walk_at "lk") ?_))
    exact h u _ (F.keepsOf fun h q => q.1)
/-! sorted() of a list of tuples of ints that stands sorted already -/
section
variable {prog : Program} {w : World} {A : Around} {E : Value → Shared → Prop} {s : Shared}

def lexB : List Int → List Int → Bool
  | x :: xs, y :: ys => if x = y then lexB xs ys else decide (x < y)
  | _, _ => false

theorem lexAsk : ∀ {xs ys : List Value} {a b : List Int} (_ : IntsAre xs a) (_ : IntsAre ys b) (i : Nat) {Q : Bool → Shared → Prop}, Q (lexB a b) s → KatLex prog w A true false Q (xs.zip ys) i s
  | _, _, _, _, .nil, _, i, Q, h => by rw [List.zip_nil_left]; exact kat_nil h
  | _, _, _, _, .cons x t hx, .nil, i, Q, h => by rw [List.zip_nil_right]; exact kat_nil h
  | _, _, _, _, .cons x t hx, .cons y u hy, i, Q, h => by
    rw [List.zip_cons_cons]
    refine kat_cons (wpAny_eqBool_int ?_)
    by_cases e : x = y
    · rw [show (x == y) = true by simpa using e]
      refine kat_yes (lexAsk hx hy (i + 1) ?_)
      rw [lexB, if_pos e] at h
      exact h
    · rw [show (x == y) = false by simpa using e]
      refine kat_no ?_
      rw [lexB, if_neg e] at h
      by_cases hi : i = 0
      · subst hi
        exact oneLt_int h
      · rw [show (true && i == 0) = false by simpa using hi]
        exact kat_one _ _ (lt_int h)

theorem tupAsk {x y : Value} {a b : List Int} {Q : Bool → Shared → Prop} (hx : TupI s.heap x a) (hy : TupI s.heap y b) (hl : a.length = b.length) (h : Q (lexB a b) s) : wpAny (model prog w) A (keyLt' (tuples' true) x y) Q E s := by
  obtain ⟨ax, xs, rfl, ⟨ox, hox, _, nx, dx⟩, ix⟩ := hx
  obtain ⟨ay, ys, rfl, ⟨oy, hoy, _, ny, dy⟩, iy⟩ := hy
  refine kat_lt hox dx hoy dy ?_
  have e1 : xs.length = a.length := ix.length
  have e2 : ys.length = b.length := iy.length
  rw [show decide (xs.toArray.size < ys.toArray.size) = false by simp; omega]
  exact lexAsk ix iy 0 h

/-- the ascending run: never a step down -/
theorem ascRun {cmp : Nat → Nat → (Bool → Shared → Prop) → Shared → Prop} {N : Nat} (hc : ∀ i (C : Bool → Shared → Prop), 1 ≤ i → i < N → C false s → cmp i (i - 1) C s) :
    ∀ (f n : Nat) {Q : Nat → Shared → Prop}, 1 ≤ n → n + f = N → Q N s → (kas_asc (List.toArray (List.range N)) f n).kasWp cmp Q s
  | 0, n, Q, _, e, h => by
    have : n = N := by omega
    subst this
    exact h
  | f + 1, n, Q, h1, e, h => by
    have g : ∀ k, k < N → (List.toArray (List.range N)).getD k 0 = k := fun k hk => by simp [Array.getD, hk]
    show cmp _ _ _ s
    rw [g n (by omega), g (n - 1) (by omega)]
    refine hc n _ h1 (by omega) ?_
    show (if false = true then _ else kas_asc (List.toArray (List.range N)) f (n + 1)).kasWp cmp Q s
    rw [if_neg (by decide)]
    exact ascRun hc f (n + 1) (by omega) (by omega) h
theorem sortRun {cmp : Nat → Nat → (Bool → Shared → Prop) → Shared → Prop} {N : Nat} (hc : ∀ i (C : Bool → Shared → Prop), 1 ≤ i → i < N → C false s → cmp i (i - 1) C s) (h1 : 1 ≤ N)
    {G : Array Nat → Shared → Prop} (h : G (List.toArray (List.range N)) s) : (kas_sort N).kasWp cmp G s := by
  unfold kas_sort
  rw [KasT.kasWp_bind]
  unfold kas_count
  rw [KasT.kasWp_bind]
  refine ascRun hc (N - 1) 1 (Nat.le_refl _) (by omega) ?_
  rw [if_pos (by simp)]
  show (if N < N then _ else KasT.ret (List.toArray (List.range N))).kasWp cmp G s
  rw [if_neg (Nat.lt_irrefl _)]
  exact h
end
/-- all that stands in a heap but at L -/
def allObjs (h : Heap) (L : Addr) : List (Addr × Obj) := (List.range h.objs.size).filterMap fun b => if b = L then none else (h.get? b).map fun o => (b, o)
theorem mem_allObjs {h : Heap} {L b : Addr} {o : Obj} : (b, o) ∈ allObjs h L ↔ b ≠ L ∧ h.get? b = some o := by
  unfold allObjs
  rw [List.mem_filterMap]
  constructor
  · rintro ⟨x, _, e⟩
    by_cases hx : x = L
    · rw [if_pos hx] at e; cases e
    · rw [if_neg hx] at e
      cases hg : h.get? x with
      | none => rw [hg] at e; cases e
      | some o' =>
        rw [hg] at e
        have e := Option.some.inj e
        injection e with e1 e2
        subst e1 e2
        exact ⟨hx, hg⟩
  · rintro ⟨hb, e⟩
    exact ⟨b, List.mem_range.mpr (Heap.lt_size e), by rw [if_neg hb, e]; rfl⟩

section
variable {prog : Program} {w : World} {A : Around} {E : Value → Shared → Prop} {s₀ s : Shared} {Mut : List Addr} {L : Addr} {Γ : Heap → Prop} {m : Str → Option Value}
theorem Cx.setExt (F : Cx s₀ Mut L Γ s m) {h' : Heap} {tk : Nat} {m' : Str → Option Value} (hn : h'.Ns L m') (hk : ∀ b o, b ≠ L → s.heap.get? b = some o → h'.get? b = some o) : Cx s₀ Mut L Γ { s with heap := h', toks := tk } m' := by
  obtain ⟨h1, tk1, e1⟩ := F.same
  refine ⟨⟨h', tk, by rw [e1]⟩, hn, fun h2 q => F.box h2 fun b o hb e => q b o hb (hk b o (fun x => hb (x ▸ F.mem)) e), F.mem, fun b hb => ?_⟩
  by_cases hbL : b = L
  · subst hbL
    obtain ⟨o, es, ep, ho, hd, _⟩ := hn
    exact ⟨o, ho, fun xs n e => by rw [hd] at e; cases e⟩
  · obtain ⟨o, e, r⟩ := F.ex b hb
    exact ⟨o, hk b o hbL e, r⟩

theorem firsts {h : Heap} : ∀ {vs : List Value} {ws : List (List Int)}, TupsI h vs ws → (∀ x ∈ ws, x ≠ []) → ∃ fs, KatTups h vs fs ∧ fs.length = vs.length ∧ ∀ v ∈ fs, ∃ n t, v = .int n t
  | [], _, _, _ => ⟨[], .nil, rfl, fun _ h => nomatch h⟩
  | v :: vs, [], hT, _ => absurd hT.len (by simp)
  | v :: vs, w :: ws, hT, hw => by
    obtain ⟨n, hn, t⟩ := hT.get 0 v rfl
    have hn : w = n := Option.some.inj hn
    subst hn
    have hT' : TupsI h vs ws := by
      refine ⟨by have := hT.len; simpa using this, fun i v hv => ?_⟩
      obtain ⟨n, hn, t⟩ := hT.get (i + 1) v (by simpa using hv)
      exact ⟨n, by simpa using hn, t⟩
    obtain ⟨fs, k, hl, hf⟩ := firsts hT' fun x hx => hw x (List.mem_cons_of_mem _ hx)
    obtain ⟨a, us, rfl, ⟨o, ho, hc, n, hd⟩, hi⟩ := t
    cases hi with
    | nil => exact absurd rfl (hw _ (List.mem_cons_self ..))
    | cons x tx _ =>
      refine ⟨.int x tx :: fs, .cons ho hc hd rfl k, by simp [hl], fun v hv => ?_⟩
      rcases List.mem_cons.mp hv with rfl | hv
      · exact ⟨x, tx, rfl⟩
      · exact hf v hv
theorem Looks.int {M : Model} {h : Heap} {n : Int} {t : Tok} : Looks M h (typeOf (.int n t)) (.type "int") := fun _ _ _ _ _ q => wpAny_of_eq rfl q

theorem sortedT {l : Addr} {vs : List Value} {ws : List (List Int)} {k : Nat} {Q : Value → Shared → Prop} (F : Cx s₀ Mut L Γ s m) (hl : s.heap.IsList l vs.toArray) (hT : TupsI s.heap vs ws)
    (hw : ∀ x ∈ ws, x.length = k) (hk : 0 < k) (hs : ∀ i a b, 1 ≤ i → ws[i]? = some a → ws[i - 1]? = some b → lexB a b = false) (h2 : 2 ≤ vs.length) (h64 : vs.length < 64)
    (h : ∀ s' D, Cx s₀ Mut L Γ s' m → (∀ b o, b ≠ L → s.heap.get? b = some o → s'.heap.get? b = some o) → s.heap.get? D = none → s'.heap.PlainList D vs.toArray → Q (.ref D) s') :
    wpAny (model prog w) A (call (.builtin "sorted") [.ref l]) Q E s := by
  have F0 : Fr { objs := #[] } L s.heap m := ⟨F.ns, fun b o e => absurd (Heap.lt_size e) (Nat.not_lt_zero _), Nat.zero_le _⟩
  have N0 : News { objs := #[] } L s.heap (allObjs s.heap L) := fun p hp => by
    obtain ⟨h1, h2⟩ := mem_allObjs.mp (show (p.1, p.2) ∈ allObjs s.heap L from hp)
    exact ⟨h2, h1, Heap.get?_none_of_le (Nat.zero_le _)⟩
  refine kat_sorted F0 N0 hl h2 h64 fun D e1 h' F1 N1 hD => ?_
  have keep : ∀ b o, b ≠ L → s.heap.get? b = some o → h'.get? b = some o := fun b o hb e => (N1 (b, o) (List.mem_cons_of_mem _ (mem_allObjs.mpr ⟨hb, e⟩))).1
  have im : Imm s.heap h' := Imm.of keep fun o e => not_imm_ns F.ns e
  have T1 := hT.imm im
  obtain ⟨fs, hf, hfl, hfi⟩ := firsts T1 fun x hx e => by have := hw x hx; rw [e] at this; simp at this; omega
  refine kat_kind (s := { s with heap := h' }) (T := .type "int") hf (by omega) (fun v hv => by obtain ⟨n, t, rfl⟩ := hfi v hv; exact Looks.int) (by decide) ?_
  rw [show (Value.type "int" != Value.type "tuple") = true by decide]
  have hlen := T1.len
  refine sortRun (fun i C hi1 hi2 hC => ?_) (by omega) ?_
  · have e1 : vs.getD i Value.none = vs[i] := by simp [hi2]
    have hi3 : i - 1 < vs.length := by omega
    have e2 : vs.getD (i - 1) Value.none = vs[i - 1] := by simp [hi3]
    obtain ⟨a, ha, ta⟩ := T1.get i vs[i] (by simp)
    obtain ⟨b, hb, tb⟩ := T1.get (i - 1) vs[i - 1] (by simp)
    unfold kas_ask
    rw [e1, e2]
    refine tupAsk ta tb ?_ ?_
    · rw [hw a (List.mem_of_getElem? ha), hw b (List.mem_of_getElem? hb)]
    · rw [hs i a b hi1 ha hb]; exact hC
  · refine KasFin.intro F1 N1 (UpdF.head fun p hp => Nat.ne_of_lt (hD p hp)) fun h'' c F2 N2 => ?_
    have keep2 : ∀ b o, b ≠ L → s.heap.get? b = some o → h''.get? b = some o := fun b o hb e => (N2 (b, o) (List.mem_cons_of_mem _ (mem_allObjs.mpr ⟨hb, e⟩))).1
    refine h _ D (F.setExt (tk := s.toks) F2.ns keep2) keep2 ?_ ?_
    · cases hg : s.heap.get? D with
      | none => rfl
      | some o => exact absurd (hD (D, o) (mem_allObjs.mpr ⟨(N1 _ (List.mem_cons_self ..)).2.1, hg⟩)) (Nat.lt_irrefl _)
    · have := (N2 _ (List.mem_cons_self ..)).1
      have e : List.map (fun i => vs.getD i Value.none) (List.toArray (List.range vs.length)).toList = vs := by
        apply List.ext_getElem
        · simp
        · intro i h1 h2
          simp [h2]
      rw [e] at this
      exact ⟨c, this⟩
end
section
variable {prog : Program} {w : World} {A : Around} {E : Value → Shared → Prop} {s : Shared}

theorem sort1 {a : Addr} {x : Value} {n : Nat} {P : PySem.Fin → Shared → Prop} (ho : s.heap.get? a = some (seqObj "list" #[x] n))
    (h : ∀ h', h'.PlainList a #[x] → (∀ b o, b ≠ a → s.heap.get? b = some o → h'.get? b = some o) → P (.done (.ret .none)) { s with heap := h' }) :
    wpAny (model prog w) A (Builtin.«list.sort» ⟨[.ref a], []⟩) P E s := by
  rw [list_sort_plain]
  have hlt : a < s.heap.objs.size := Heap.lt_size ho
  refine wpAny_bind (listItems_at ho rfl (wpAny_bind (listUpdate_at ho rfl ?_)))
  obtain ⟨e1, h1⟩ : ∃ e1, (s.heap.update a (Obj.mapSeq fun _ => #[])).get? a = some (seqObj "list" #[] e1) := ⟨_, get?_update_seq ho (fun _ => #[])⟩
  have k1 : ∀ b o, b ≠ a → s.heap.get? b = some o → (s.heap.update a (Obj.mapSeq fun _ => #[])).get? b = some o := fun b o hb e => (Heap.get?_update_other _ _ (Ne.symm hb)).trans e
  refine wpAny_bind (seqEpoch_at h1 rfl (wpAny_bind (wpAny_newTuple (wpAny_bind (wpAny_newList (wpAny_holding ?_))))))
  dsimp only
  generalize s.heap.update a (Obj.mapSeq fun _ => #[]) = H at h1 k1 ⊢
  have h2 := Heap.get?_push_of_some { cls := .type "list", data := .seq ([] : List Value).toArray } (Heap.get?_push_of_some { cls := .type "tuple", data := .seq (Array.toList #[x]).toArray } h1)
  have k2 : ∀ b o, b ≠ a → s.heap.get? b = some o → ((H.push { cls := .type "tuple", data := .seq (Array.toList #[x]).toArray }).push { cls := .type "list", data := .seq ([] : List Value).toArray }).get? b = some o :=
    fun b o hb e => Heap.get?_push_of_some _ (Heap.get?_push_of_some _ (k1 b o hb e))
  generalize (H.push { cls := .type "tuple", data := .seq (Array.toList #[x]).toArray }).push { cls := .type "list", data := .seq ([] : List Value).toArray } = H2 at h2 k2 ⊢
  have hs : (#[x] : Array Value).size < 2 := by simp
  have he : Array.map (fun y : Keyed => y.snd) (arrOf (SortSt.mk' general' ((#[x] : Array Value).zip #[x]) #[] 7 none)) = #[x] := by
    show Array.map (fun y : Keyed => y.snd) ((#[x] : Array Value).zip #[x]) = #[x]
    simp
  rw [if_pos hs, if_pos hs]
  refine wpAny_bind (wpAny_pure ?_)
  rw [StateT.run_pure]
  refine wpAny_bind (wpAny_pure ?_)
  dsimp only
  refine wpAny_bind (seqEpoch_at (s := { s with heap := H2 }) h2 rfl (wpAny_bind (listUpdate_at (s := { s with heap := H2 }) h2 rfl ?_ (hsz2 := by rw [he]; simp))))
  simp only [bne_self_eq_false, Bool.false_eq_true, if_false]
  refine wpAny_pure (h _ ?_ fun b o hb e => (Heap.get?_update_other _ _ (Ne.symm hb)).trans (k2 b o hb e))
  have := get?_update_seq h2 fun _ => Array.map (fun y : Keyed => y.snd) (arrOf (SortSt.mk' general' ((#[x] : Array Value).zip #[x]) #[] 7 none))
  rw [he] at this ⊢
  exact ⟨_, this⟩

theorem sorted1 {l : Addr} {x : Value} {Q : Value → Shared → Prop} (hl : s.heap.IsList l #[x])
    (h : ∀ s' D, Keeps s s' → s.heap.get? D = none → s'.heap.PlainList D #[x] → Q (.ref D) s') :
    wpAny (model prog w) A (call (.builtin "sorted") [.ref l]) Q E s := by
  refine Calls.call_function_entry kind_sorted plain_sorted entry_sorted (args_sorted1 _) ?_
  unfold Builtin.«sorted»
  refine wpAny_bind (m := checkCount "sorted" 1 1 _) (wpAny_pure ?_)
  refine wpAny_bind (collect_list (vs := [x]) hl (wpAny_bind (wpAny_newList ?_)))
  have hz : ((s.heap.push { cls := .type "list", data := .seq ([] : List Value).toArray }).update s.heap.objs.size (Obj.mapSeq (· ++ #[x]))).objs.size = s.heap.objs.size + 1 := by
    rw [Heap.size_update, Heap.size_push]
  have k1 : ∀ b o, s.heap.get? b = some o → ((s.heap.push { cls := .type "list", data := .seq ([] : List Value).toArray }).update s.heap.objs.size (Obj.mapSeq (· ++ #[x]))).get? b = some o := fun b o e =>
    (Heap.get?_update_other _ _ (Nat.ne_of_gt (Heap.lt_size e))).trans (Heap.get?_push_of_some _ e)
  generalize (s.heap.push { cls := .type "list", data := .seq ([] : List Value).toArray }).update s.heap.objs.size (Obj.mapSeq (· ++ #[x])) = H at hz k1 ⊢
  have h2 : (H.push (seqObj "list" #[x] 0)).get? H.objs.size = some (seqObj "list" #[x] 0) := Heap.get?_push_size _ rfl
  have k2 : ∀ b o, s.heap.get? b = some o → (H.push (seqObj "list" #[x] 0)).get? b = some o := fun b o e => Heap.get?_push_of_some _ (k1 b o e)
  have hn : s.heap.get? H.objs.size = none := Heap.get?_none_of_le (by rw [hz]; exact Nat.le_succ _)
  show wpAny _ _ _ _ _ { s with heap := H.push (seqObj "list" #[x] 0) }
  generalize H.push (seqObj "list" #[x] 0) = H2 at h2 k2 ⊢
  generalize H.objs.size = D at h2 hn ⊢
  refine wpAny_bind (wpAny_holding (wpAny_call_entry slot_list_sort ⟨_, h2, rfl⟩ entry_list_sort (sort1 (s := { s with heap := H2 }) h2 fun h3 p3 k3 => ⟨_, rfl, ?_⟩) (args_list_sort _)))
  refine wpAny_pure ⟨_, rfl, h _ D ⟨h3, s.toks, rfl, fun b o e => k3 b o (fun hb => ?_) (k2 b o e)⟩ hn p3⟩
  subst hb
  rw [hn] at e
  cases e
end
noncomputable def lawPack : { p : Str × Arguments × List Stmt × Scope // ∀ w, ∃ oc od pm cd doc osl, (KF w).lookup 70 = some ⟨oc, od, .func (docDef p.1 p.2.1 p.2.2.1 p.2.2.2 pm cd doc), osl⟩ } := ⟨(_, _, _, _), fun w => ⟨_, _, _, _, _, _, rfl⟩⟩
noncomputable def lawBody : List Stmt := lawPack.1.2.2.1
noncomputable def lawEnv (L fa : Addr) (cd : Value) : Env := envOfC lawPack.1.1 lawPack.1.2.2.2 L fa cd

theorem preSum_list (ns : List Int) : ∀ j, j ≤ ns.length → preSum (fun i => ns.getD i 0) j = (ns.take j).sum := by
  intro j
  induction j with
  | zero => intro _; rfl
  | succ j ih =>
    intro h
    have hj : j < ns.length := h
    have e : ns[j]? = some ns[j] := by simp
    rw [preSum, ih (by omega), take_snoc e, List.sum_append]
    simp [e]
section
variable {prog : Program} {w : World} {A : Around} {E : Value → Shared → Prop} {s₀ s : Shared} {Mut : List Addr} {L : Addr} {Γ : Heap → Prop} {m : Str → Option Value}
theorem sumW {x : Value} {vs : List Value} {ns : List Int} {Q : Value → Shared → Prop} (hi : IntsAre vs ns)
    (hp : wpAny (model prog w) A.in1 (pyIter x) (fun it s₂ => ∃ I fp P St, it = .ref I ∧ Walks prog w A.in1 I fp [I] vs.length P St ∧ St 0 s₂.heap ∧ (∀ b ∈ fp, b < s₂.heap.objs.size) ∧ (∀ i v, P i v → vs[i]? = some v) ∧ Keeps s s₂ ∧ s.heap.get? I = none) E s)
    (h : ∀ t s', Keeps s s' → Q (.int ns.sum t) s') : wpAny (model prog w) A (call (.builtin "sum") [x]) Q E s := by
  refine call_sum_walkG (wpAny_mono hp (fun it s₂ h₂ => ?_) fun _ _ e => e)
  obtain ⟨I, fp, P, St, rfl, W, hst, hfp, hP, k, hn⟩ := h₂
  refine ⟨I, fp, [I], vs.length, P, St, fun i => ns.getD i 0, rfl, W, hst, hfp, fun i v hv => ?_, fun h' tk t' q => ?_⟩
  · obtain ⟨n, t, hn, rfl⟩ := ints_at hi (hP i v hv)
    exact ⟨t, by simp [hn]⟩
  · rw [hi.length, preSum_list ns _ (Nat.le_refl _), List.take_length]
    obtain ⟨h2, tk2, rfl, q2⟩ := k
    refine h t' _ ⟨h', tk, rfl, fun b o e => q b o (fun hb => ?_) (q2 b o e)⟩
    rw [List.mem_singleton.mp hb, hn] at e
    cases e
theorem sumLst {l : Addr} {vs : List Value} {ns : List Int} {Q : Value → Shared → Prop} (hh : A.handled = none) (hl : s.heap.IsList l vs.toArray) (hi : IntsAre vs ns)
    (h : ∀ t s', Keeps s s' → Q (.int ns.sum t) s') : wpAny (model prog w) A (call (.builtin "sum") [.ref l]) Q E s := by
  have hne : l ≠ s.heap.objs.size := let ⟨_, ho, _⟩ := hl; Nat.ne_of_lt (Heap.lt_size ho)
  have hlt : @LT.lt Nat _ l s.heap.objs.size := let ⟨_, ho, _⟩ := hl; Heap.lt_size ho
  refine sumW hi (wpAny_pyIter_list hl ?_) h
  have W := Walks.list (prog := prog) (w := w) (A := A.in1) hh s.heap.objs.size l hne vs.toArray
  rw [List.size_toArray] at W
  refine ⟨_, _, _, _, rfl, W, ⟨⟨_, Heap.get?_push_size _ rfl, rfl, rfl⟩, hl.push _⟩, fun b hb => ?_, fun i v hv => by simpa using hv, ⟨_, s.toks, rfl, fun _ _ e => Heap.get?_push_of_some _ e⟩, Heap.get?_none_of_le (Nat.le_refl _)⟩
  rw [Heap.size_push]
  rcases List.mem_cons.mp hb with rfl | hb
  · exact Nat.lt_succ_self _
  · rw [List.mem_singleton.mp hb]; exact Nat.lt_succ_of_lt hlt
theorem sumTup {l : Addr} {vs : List Value} {ns : List Int} {Q : Value → Shared → Prop} (hh : A.handled = none) (hl : IsTup s.heap l vs.toArray) (hi : IntsAre vs ns)
    (h : ∀ t s', Keeps s s' → Q (.int ns.sum t) s') : wpAny (model prog w) A (call (.builtin "sum") [.ref l]) Q E s := by
  have hne : l ≠ s.heap.objs.size := let ⟨_, ho, _⟩ := hl; Nat.ne_of_lt (Heap.lt_size ho)
  have hlt : @LT.lt Nat _ l s.heap.objs.size := let ⟨_, ho, _⟩ := hl; Heap.lt_size ho
  refine sumW hi (wpAny_pyIter_tuple hl ?_) h
  have W := Walks.tuple (prog := prog) (w := w) (A := A.in1) hh s.heap.objs.size l hne vs.toArray
  rw [List.size_toArray] at W
  refine ⟨_, _, _, _, rfl, W, ⟨⟨_, Heap.get?_push_size _ rfl, rfl, rfl⟩, hl.push _⟩, fun b hb => ?_, fun i v hv => by simpa using hv, ⟨_, s.toks, rfl, fun _ _ e => Heap.get?_push_of_some _ e⟩, Heap.get?_none_of_le (Nat.le_refl _)⟩
  rw [Heap.size_push]
  rcases List.mem_cons.mp hb with rfl | hb
  · exact Nat.lt_succ_self _
  · rw [List.mem_singleton.mp hb]; exact Nat.lt_succ_of_lt hlt
end

section
variable {prog : Program} {w : World} {A : Around} {E : Value → Shared → Prop} {s₀ s : Shared} {Mut : List Addr} {L fa : Addr} {cd : Value} {Γ : Heap → Prop} {m : Str → Option Value} {N : Nat}
theorem step1 {l : Addr} {vs : List Value} {ns : List Int} {Q : Flow → Shared → Prop} (a : Ak A N) (F : Cx s₀ Mut L Γ s m) (hW : ∀ h, Γ h → W0 w h) (hm : m (Str.ofString "script") = some (.ref l)) (hl : s.heap.IsList l vs.toArray) (hi : IntsAre vs ns)
    (h : ∀ t s', Cx s₀ Mut L Γ s' (up m (Str.ofString "many") (.int (ns.sum.fmod 4) t)) → Q .next s') :
    wpAny (model prog w) A (exec (lawBody.getD 0 default) (lawEnv L fa cd)) Q E s := by
  refine wpAny_Assign_Name (wpAny_BinOp (Call_ ?_))
  refine ldB (env := lawEnv L fa cd) F hW (g_sum w) b_sum (PyProof.Rows.callWith_builtin1 (args_cons ?_))
  refine ldL (env := lawEnv L fa cd) F hm (args_nil (sumLst a.hh hl hi fun t s1 k => ?_))
  refine cInt (env := lawEnv L fa cd) (F.keeps k) fun t2 s2 F => oMod F (by decide) fun t3 s3 F => ?_
  exact stL (env := lawEnv L fa cd) F fun s4 F => h t3 s4 F

/-- order, calls = ([], {}) -/
theorem step2 {Q : Flow → Shared → Prop} (a : Ak A N) (F : Cx s₀ Mut L Γ s m) (hW : ∀ h, Γ h → W0 w h)
    (h : ∀ o d s', o ≠ d → s.heap.get? o = none → s.heap.get? d = none → (∀ b o, b ≠ L → s.heap.get? b = some o → s'.heap.get? b = some o) → s'.heap.PlainList o #[] → Cnt prog w s'.heap d [] → Cx s₀ Mut L Γ s' (up (up m (Str.ofString "calls") (.ref d)) (Str.ofString "order") (.ref o)) → Q .next s') :
    wpAny (model prog w) A (exec (lawBody.getD 1 default) (lawEnv L fa cd)) Q E s := by
  refine Assign_Tuple_swapped (names := [Str.ofString "order", Str.ofString "calls"]) ?_
  refine wpAny_Tuple (wpAny_items_cons (wpAny_List (wpAny_items_nil ⟨by rw [sizeLine_eq]; simp, ?_⟩)))
  refine wpAny_items_cons (wpAny_Dict_empty (wpAny_items_nil ⟨by rw [sizeLine_eq]; simp, ?_⟩))
  have hD1 : (s.heap.push { cls := .type "list", data := .seq ([] : List Value).toArray }).objs.size = s.heap.objs.size + 1 := Heap.size_push ..
  have hO : ((s.heap.push { cls := .type "list", data := .seq ([] : List Value).toArray }).push { cls := .type "dict", data := .dict #[] }).PlainList s.heap.objs.size #[] := ⟨0, Heap.get?_push_of_some _ (Heap.get?_push_size _ rfl)⟩
  have hd : ((s.heap.push { cls := .type "list", data := .seq ([] : List Value).toArray }).push { cls := .type "dict", data := .dict #[] }).DictOfH (TKd prog w) (s.heap.push { cls := .type "list", data := .seq ([] : List Value).toArray }).objs.size [] := Heap.DictOfH.new _
  have hk : ∀ b o, s.heap.get? b = some o → ((s.heap.push { cls := .type "list", data := .seq ([] : List Value).toArray }).push { cls := .type "dict", data := .dict #[] }).get? b = some o := fun b o e => Heap.get?_push_of_some _ (Heap.get?_push_of_some _ e)
  have hn1 : s.heap.get? s.heap.objs.size = none := Heap.get?_none_of_le (Nat.le_refl _)
  have hn2 : s.heap.get? (s.heap.push { cls := .type "list", data := .seq ([] : List Value).toArray }).objs.size = none := Heap.get?_none_of_le (by rw [hD1]; exact Nat.le_succ _)
  have hne : s.heap.objs.size ≠ (s.heap.push { cls := .type "list", data := .seq ([] : List Value).toArray }).objs.size := by rw [hD1]; exact Nat.ne_of_lt (Nat.lt_succ_self _)
  have hsys : ((s.heap.push { cls := .type "list", data := .seq ([] : List Value).toArray }).objs.size == sysModules) = false := by
    have : (70 : Nat) < s.heap.objs.size := Heap.lt_size ((hW _ F.now).k 70 _ rfl)
    rw [hD1]
    refine beq_eq_false_iff_ne.mpr fun e => ?_
    have e : s.heap.objs.size + 1 = 1 := e
    omega
  have F0 := F
  have F := F.heap (tk := s.toks) hk
  have hL : ∀ x, s.heap.get? x = none → x ≠ L := fun x hx e => by
    obtain ⟨o, es, ep, ho, _⟩ := F0.ns
    rw [e, ho] at hx
    cases hx
  generalize (s.heap.push { cls := .type "list", data := .seq ([] : List Value).toArray }).objs.size = d at hd hne hn2 hsys ⊢
  show wpAny (model prog w) A (unpackItems (.ref (Heap.push (Heap.push s.heap { cls := .type "list", data := .seq ([] : List Value).toArray }) { cls := .type "dict", data := .dict #[] }).objs.size) _ _) _ _ { s with heap := ((s.heap.push { cls := .type "list", data := .seq ([] : List Value).toArray }).push { cls := .type "dict", data := .dict #[] }).push { cls := .type "tuple", data := .seq [Value.ref s.heap.objs.size, .ref d].toArray } }
  generalize (s.heap.push { cls := .type "list", data := .seq ([] : List Value).toArray }).push { cls := .type "dict", data := .dict #[] } = h1 at F hO hd hk ⊢
  generalize s.heap.objs.size = o at hO hn1 hne ⊢
  have F1 := F.push { cls := .type "tuple", data := .seq [Value.ref o, .ref d].toArray }
  refine unpackItems_tuple (items := #[.ref o, .ref d]) a.hh ⟨_, Heap.get?_push_size _ rfl, rfl, 0, rfl⟩ fun h' he => ?_
  have F2 := F1.extNew (tk := s.toks) he
  have k2 : ∀ b o, h1.get? b = some o → h'.get? b = some o := fun b o e => he b o (Nat.ne_of_lt (by rw [Heap.size_push]; exact Nat.lt_succ_of_lt (Heap.lt_size e))) (Heap.get?_push_of_some _ e)
  refine assignInOrder_cons (wpAny_bindName (stLH (env := lawEnv L fa cd) F2 fun s3 F3 k3 => ?_))
  refine assignInOrder_cons (wpAny_bindName (stLH (env := lawEnv L fa cd) F3 fun s4 F4 k4 => ?_))
  have k : ∀ b x, b ≠ L → h1.get? b = some x → s4.heap.get? b = some x := fun b x hb e => k4 b x hb (k3 b x hb (k2 b x e))
  refine assignInOrder_nil (h o d s4 hne hn1 hn2 (fun b x hb e => k b x hb (hk b x e)) (hO.at fun x e => k o x (hL o hn1) e) ⟨hsys, [], .nil, dict_mov hd (fun x e => k d x (hL d hn2) e) (Imm.of k fun x e => not_imm_ns F.ns e)⟩ F4)
end
def IsItr (o : Obj) : Prop := o.cls = .type "list_iterator" ∧ ∃ xs, o.data = .fields xs
/-- all but list iterators stay -/
def StayI (h h' : Heap) : Prop := ∀ b o, ¬ IsItr o → h.get? b = some o → h'.get? b = some o

section
variable {prog : Program} {w : World} {A : Around} {E : Value → Shared → Prop} {s₀ s : Shared} {Mut : List Addr} {env : Env} {Γ : Heap → Prop} {m : Str → Option Value} {L fa : Addr} {cd : Value} {N : Nat}

/-- a for over a list -/
theorem loopLst {target : Expr} {body : List Stmt} {l : Addr} {vs : List Value} {R : Result → Shared → Prop}
    (hA : A.handled = none) (F : Cx s₀ Mut env.locals Γ s m) (hl : s.heap.IsList l vs.toArray) (hlM : l ∉ Mut)
    (J : Nat → (Str → Option Value) → Heap → Prop) (hJ : ∀ i m h h', StayI h h' → J i m h → J i m h') (h0 : J 0 m s.heap)
    (turn : ∀ i v m₁ s₁ Γ', (∀ h, Γ' h → Γ h) → i < vs.length → vs[i]? = some v → J i m₁ s₁.heap → Cx s₀ Mut env.locals Γ' s₁ m₁ →
      wpAny (model prog w) A (assign target env v) (fun _ s₂ => wpAny (model prog w) A (execs body env) (fun f s₃ => f = .next ∧ ∃ m₃, Cx s₀ Mut env.locals Γ' s₃ m₃ ∧ J (i + 1) m₃ s₃.heap) (fun _ _ => False) s₂) (fun _ _ => False) s₁)
    (fin : ∀ m₁ s₁, J vs.length m₁ s₁.heap → Cx s₀ Mut env.locals Γ s₁ m₁ → R (.ok .next) s₁)
    (ht : ∀ it v, letOwnedTupleGo target it v = pure () := by intro _ _; rfl) :
    wpAny (model prog w) A (pyIter (.ref l)) (fun it s₂ => codeAny (model prog w) A (.forLoop target it body [] env) R s₂) E s := by
  have hne : l ≠ s.heap.objs.size := let ⟨_, ho, _⟩ := hl; Nat.ne_of_lt (Heap.lt_size ho)
  refine wpAny_pyIter_list hl ?_
  have F0 := F.iter { cls := .type "list_iterator", data := .fields #[.ref l, .int 0 0] }
  have hI := F.new_nin
  have hfp : ∀ b ∈ [s.heap.objs.size, l], b ∉ Mut := fun b hb => by
    rcases List.mem_cons.mp hb with rfl | hb
    · exact hI
    · rw [List.mem_singleton.mp hb]; exact hlM
  have hst0 : (s.heap.push { cls := .type "list_iterator", data := .fields #[.ref l, .int 0 0] }).IsListIter s.heap.objs.size l 0 ∧ (s.heap.push { cls := .type "list_iterator", data := .fields #[.ref l, .int 0 0] }).IsList l vs.toArray := ⟨⟨_, Heap.get?_push_size _ rfl, rfl, rfl⟩, hl.push _⟩
  have J0 := hJ 0 m _ (s.heap.push { cls := .type "list_iterator", data := .fields #[.ref l, .int 0 0] }) (fun b o _ e => Heap.get?_push_of_some _ e) h0
  have itr : ∀ i (h : Heap), h.IsListIter s.heap.objs.size l i → ∀ h', (∀ b o, b ∉ [s.heap.objs.size] → h.get? b = some o → h'.get? b = some o) → StayI h h' := by
    rintro i h ⟨oI, hoI, hcI, hdI⟩ h' hk b o hn e
    refine hk b o (fun hb => ?_) e
    rw [List.mem_singleton.mp hb, hoI] at e
    cases e
    exact hn ⟨hcI, _, hdI⟩
  generalize s.heap.objs.size = I at hne F0 hI hfp hst0 itr ⊢
  have W := Walks.list (prog := prog) (w := w) hA I l hne vs.toArray
  rw [List.size_toArray] at W
  have hne' : ∀ b, b ∈ Mut → b ∉ [I] := fun b hb x => hI (List.mem_singleton.mp x ▸ hb)
  refine codeAny_forLoop (fun k s' => ∃ i m', i ≤ vs.length ∧ k = vs.length + 1 - i ∧ (s'.heap.IsListIter I l i ∧ s'.heap.IsList l vs.toArray) ∧ J i m' s'.heap ∧ Cx s₀ Mut env.locals (BoxI I Mut Γ) s' m') ?_ (vs.length + 1) ⟨0, m, Nat.zero_le _, rfl, hst0, J0, F0⟩ (ht _)
  rintro k s' ⟨i, m', hi, rfl, hst', hJ', F'⟩
  by_cases hlt : i < vs.length
  · refine W.item i _ _ _ hlt hst' fun v h₁ tk₁ hv hst₁ hk₁ => ?_
    have F1 := F'.stepI (tk := tk₁) hI hk₁
    have J1 := hJ _ _ _ _ (itr _ _ hst'.1 _ hk₁) hJ'
    have F3 := F1.and (Γ' := fun h => h.IsListIter I l (i + 1) ∧ h.IsList l vs.toArray) fun h' q => W.frame _ _ _ hst₁ fun b hb o e => q b o (hfp b hb) e
    refine wpAny_mono (turn i v m' _ _ (fun h q => q.1.now) hlt (by simpa using hv) J1 F3) (fun _ s₃ h₃ => ?_) fun _ _ x => x.elim
    refine wpAny_mono h₃ (fun f s₄ h₄ => ?_) fun _ _ x => x.elim
    obtain ⟨rfl, m₂, F4, hJ4⟩ := h₄
    exact ⟨vs.length + 1 - (i + 1), by omega, i + 1, m₂, hlt, rfl, F4.now.2, hJ4, F4.weak fun h q => q.1⟩
  · have hin : i = vs.length := by omega
    subst hin
    refine W.done _ _ _ hst' fun h₁ tk₁ hk₁ => wpAny_execs_nil ?_
    exact fin m' _ (hJ _ _ _ _ (itr _ _ hst'.1 _ hk₁) hJ') ((F'.stepI (tk := tk₁) hI hk₁).weak fun h q => q.now)

theorem ldC {x : Str} {pos : Pos} {c : Addr} {v : Value} {Q : Value → Shared → Prop} (hv : s.heap.IsCell c (some v)) (h : Q v s)
    (hc : env.cells.lookup x = some c) (hk : env.scope.kind = .function := by rfl) (hl : env.kindOf x = some .cell := by rfl) (hd : (x == ("__debug__" : Str)) = false := by decide) :
    wpAny (model prog w) A (eval (.Name x pos) env) Q E s := wpAny_Name (wpAny_loadName_cell hk hl hc hv h) hd
theorem cStrK {x : Str} {k : Nat} {pos : Pos} {Q : Value → Shared → Prop} (h : ∀ t s', Keeps s s' → Q (.str x t) s') :
    wpAny (model prog w) A (eval (.Constant (.str x) k pos) env) Q E s := wpAny_Constant_str (h _ _ ⟨s.heap, _, rfl, fun _ _ e => e⟩)

/-- {('below', _law_below(way), 'way'): 1} -/
theorem dict1 {v : Value} {x : List Int} {p1 p2 p3 p4 p5 p6 p7 p8 : Pos} {k1 k2 k3 k4 : Nat} {Q : Value → Shared → Prop} (a : Ak A (N + 2)) (F : Cx s₀ Mut L Γ s m) (hW : ∀ h, Γ h → W0 w h) (hv : TupI s.heap v x) (hc : s.heap.IsCell (L + 1) (some v))
    (h : ∀ s' D, Keeps s s' → s.heap.get? D = none → Cnt prog w s'.heap D [((bel x).2, 1)] → Q (.ref D) s') :
    wpAny (model prog w) A (eval (.Dict [some (.Tuple [.Constant (.str (Str.ofString "below")) k1 p1, .Call (.Name (Str.ofString "_law_below") p2) [.Name (Str.ofString "way") p3] [] p4, .Constant (.str (Str.ofString "way")) k2 p5] k3 p6)] [.Constant (.int 1) k4 p7] p8) (lawEnv L fa cd)) Q E s := by
  refine wpAny_Dict_any rfl rfl (by simp) (by simp) ?_
  have hsys : (s.heap.objs.size == sysModules) = false := by
    have : (70 : Nat) < s.heap.objs.size := Heap.lt_size ((hW _ F.now).k 70 _ rfl)
    refine beq_eq_false_iff_ne.mpr fun e => ?_
    have e : s.heap.objs.size = 1 := e
    omega
  have hn : s.heap.get? s.heap.objs.size = none := Heap.get?_none_of_le (Nat.le_refl _)
  have hd : (s.heap.push { cls := .type "dict", data := .dict #[] }).DictOfH (TKd prog w) s.heap.objs.size [] := Heap.DictOfH.new _
  have k1 : Keeps s { s with heap := s.heap.push { cls := .type "dict", data := .dict #[] } } := ⟨_, s.toks, rfl, fun _ _ e => Heap.get?_push_of_some _ e⟩
  generalize s.heap.objs.size = D at hsys hn hd ⊢
  generalize e1 : { s with heap := s.heap.push { cls := .type "dict", data := .dict #[] } } = s1 at k1 ⊢
  have hd : s1.heap.DictOfH (TKd prog w) D [] := by rw [← e1]; exact hd
  refine pairTrees_cons_walk (wpAny_Tuple (wpAny_items_cons (cStrK fun t1 s2 k2 => ?_)))
  have kk := Keeps.trans k1 k2
  refine wpAny_items_cons (Call_ ?_)
  refine ldG (env := lawEnv L fa cd) (F.keeps kk) hW (flawbelow w) (callDef rfl rfl (args_cons ?_))
  refine ldC (env := lawEnv L fa cd) (hc.keeps (Keeps.get kk)) (args_nil ⟨hW _ (F.keeps kk).now, ?_⟩) rfl
  refine below_spec (n := N) (a.le (by omega)) (hW _ (F.keeps kk).now) (hv.keeps kk) fun t2 s3 k3 => ?_
  refine wpAny_items_cons (cStrK fun t3 s4 k4 => wpAny_items_nil ⟨by rw [sizeLine_eq]; simp, ?_⟩)
  have kk := Keeps.trans k2 (Keeps.trans k3 k4)
  have hk : IsTupleKey (mixKind prog w) (s4.heap.push { cls := .type "tuple", data := .seq [Value.str (Str.ofString "below") t1, .int (bel x).2 t2, .str (Str.ofString "way") t3].toArray }) (kb (bel x).2) s4.heap.objs.size :=
    ⟨_, _, 0, Heap.get?_push_size _ rfl, rfl, rfl, .cons (by simp [mixKind, mixIs, Value.isStrOf]) (.cons (by simp [mixKind, mixIs, Value.isInt]) (.cons (by simp [mixKind, mixIs, Value.isStrOf]) .nil))⟩
  have k5 : Keeps s4 { s4 with heap := s4.heap.push { cls := .type "tuple", data := .seq [Value.str (Str.ofString "below") t1, .int (bel x).2 t2, .str (Str.ofString "way") t3].toArray } } := ⟨_, s4.toks, rfl, fun _ _ e => Heap.get?_push_of_some _ e⟩
  have kk := Keeps.trans kk k5
  generalize e5 : { s4 with heap := s4.heap.push { cls := .type "tuple", data := .seq [Value.str (Str.ofString "below") t1, .int (bel x).2 t2, .str (Str.ofString "way") t3].toArray } } = s5 at kk ⊢
  have hk : IsTupleKey (mixKind prog w) s5.heap (kb (bel x).2) s4.heap.objs.size := by rw [← e5]; exact hk
  generalize s4.heap.objs.size = ak at hk ⊢
  refine wpAny_Constant_int (pairTrees_nil_walk ?_)
  have k6 : Keeps s5 { s5 with toks := s5.toks + 1 } := ⟨s5.heap, _, rfl, fun _ _ e => e⟩
  have hk : IsTupleKey (mixKind prog w) (Shared.heap { s5 with toks := s5.toks + 1 }) (kb (bel x).2) ak := hk
  have kk := Keeps.trans kk k6
  generalize { s5 with toks := s5.toks + 1 } = s6 at kk hk ⊢
  have hd6 : s6.heap.DictOfH (TKd prog w) D [] := dict_mov hd (fun o e => Keeps.get kk D o e) (Keeps.imm kk)
  unfold storeAll
  rw [List.forIn_cons]
  refine wpAny_bind (wpAny_bind (wpAny_dictSet_heap (knd := TKd prog w) (k := kb (bel x).2) (show A.units < cLine from a.u1) hk hd6 (fun h' hd' hs => ?_) (by simp)))
  refine wpAny_pure ?_
  show wpAny _ _ (forIn [] PUnit.unit _) _ _ _
  rw [List.forIn_nil]
  refine wpAny_pure (h _ D ?_ hn ⟨hsys, _, ?_, hd'⟩)
  · obtain ⟨h7, tk7, e7, q7⟩ := Keeps.trans k1 kk
    refine ⟨h', _, by rw [e7], fun b o e => hs.extBut b o (fun hb => ?_) ?_⟩
    · rw [hb, hn] at e; cases e
    · rw [e7]; exact q7 b o e
  · exact .cons _ _ _ _ .nil
end
def ordStep (acc : List (List Int)) (x : List Int) : List (List Int) := ins acc (bis acc x) x
def ordL (ws : List (List Int)) : List (List Int) := ws.foldl ordStep []
def cntStep (c : List (Int × Int)) (x : List Int) : List (Int × Int) := addC c [((bel x).2, 1)]
def cntL (ws : List (List Int)) : List (Int × Int) := ws.foldl cntStep []
theorem ins_len {α : Type} (l : List α) (k : Nat) (x : α) : (ins l k x).length = l.length + 1 := by
  unfold ins
  rw [List.length_append, List.length_cons, List.length_take, List.length_drop]
  omega
theorem ordL_len (ws : List (List Int)) : (ordL ws).length = ws.length := by
  unfold ordL
  have : ∀ acc : List (List Int), (ws.foldl ordStep acc).length = acc.length + ws.length := by
    induction ws with
    | nil => intro acc; rfl
    | cons w ws ih => intro acc; rw [List.foldl_cons, ih, ordStep, ins_len, List.length_cons]; omega
  simpa using this []
theorem copyC_len (c : List (Int × Int)) : (copyC c).length ≤ c.length := by
  unfold copyC
  have : ∀ acc : List (Int × Int), (c.foldl (fun acc p => putC acc p.1 p.2) acc).length ≤ acc.length + c.length := by
    induction c with
    | nil => intro acc; simp
    | cons p c ih => intro acc; rw [List.foldl_cons, List.length_cons]; exact Nat.le_trans (ih _) (by have := putC_len acc p.1 p.2; omega)
  simpa using this []
theorem cntStep_len (c : List (Int × Int)) (x : List Int) : (cntStep c x).length ≤ c.length + 1 := by
  have := copyC_len c
  unfold cntStep addC
  simp only [List.foldl, addOne]
  exact Nat.le_trans (putC_len _ _ _) (by omega)
theorem cntL_len (ws : List (List Int)) : (cntL ws).length ≤ ws.length := by
  unfold cntL
  have : ∀ acc : List (Int × Int), (ws.foldl cntStep acc).length ≤ acc.length + ws.length := by
    induction ws with
    | nil => intro acc; simp
    | cons w ws ih => intro acc; rw [List.foldl_cons, List.length_cons]; exact Nat.le_trans (ih _) (by have := cntStep_len acc w; omega)
  simpa using this []

theorem TupsI.take {h : Heap} {vs : List Value} {ws : List (List Int)} (a : TupsI h vs ws) (k : Nat) : TupsI h (vs.take k) (ws.take k) := by
  refine ⟨by rw [List.length_take, List.length_take, a.len], fun i v hv => ?_⟩
  rw [List.getElem?_take] at hv ⊢
  split at hv
  · rw [if_pos (by assumption)]; exact a.get i v hv
  · cases hv
theorem TupsI.drop {h : Heap} {vs : List Value} {ws : List (List Int)} (a : TupsI h vs ws) (k : Nat) : TupsI h (vs.drop k) (ws.drop k) := by
  refine ⟨by rw [List.length_drop, List.length_drop, a.len], fun i v hv => ?_⟩
  rw [List.getElem?_drop] at hv ⊢
  exact a.get _ v hv
theorem TupsI.ins {h : Heap} {vs : List Value} {ws : List (List Int)} {v : Value} {x : List Int} {k : Nat} (a : TupsI h vs ws) (t : TupI h v x) : TupsI h (Mine.ins vs k v) (Mine.ins ws k x) :=
  (a.take k).append (.cons t (a.drop k))

/-! what list iterators do not touch -/
theorem StayI.imm {h h' : Heap} (x : StayI h h') : Imm h h' := fun b o i e => x b o (fun q => by have := q.1; rw [i.1] at this; exact absurd this (by simp)) e
theorem StayI.plain {h h' : Heap} (x : StayI h h') {l : Addr} {xs : Array Value} (p : h.PlainList l xs) : h'.PlainList l xs :=
  let ⟨n, ho⟩ := p; ⟨n, x l _ (fun q => absurd q.1 (by simp)) ho⟩
theorem StayI.cnt {prog : Program} {w : World} {h h' : Heap} (x : StayI h h') {d : Addr} {c : List (Int × Int)} (p : Cnt prog w h d c) : Cnt prog w h' d c := by
  obtain ⟨h1, xs, e, hd⟩ := p
  refine ⟨h1, xs, e, dict_mov hd (fun o ho => x d o (fun q => ?_) ho) x.imm⟩
  obtain ⟨o', es, ep, ho', hc, _⟩ := hd
  rw [ho] at ho'
  cases ho'
  have h1 := q.1
  rw [hc.1] at h1
  exact absurd h1 (by simp)
theorem StayI.cell {h h' : Heap} (x : StayI h h') {c : Addr} {v : Option Value} (p : h.IsCell c v) : h'.IsCell c v :=
  let ⟨o, ho, hd⟩ := p; ⟨o, x c o (fun q => by obtain ⟨_, xs, e⟩ := q; rw [hd] at e; cases e) ho, hd⟩
theorem Cnt.but {prog : Program} {w : World} {h h' : Heap} {d c : Addr} {cc : List (Int × Int)} (p : Cnt prog w h d cc) (k : ∀ b o, b ≠ c → h.get? b = some o → h'.get? b = some o) (hdc : d ≠ c) (hn : ∀ o, h.get? c = some o → ¬ IsImm o) : Cnt prog w h' d cc := by
  obtain ⟨h1, xs, e, hd⟩ := p
  exact ⟨h1, xs, e, dict_mov hd (fun o e => k d o hdc e) (Imm.of k hn)⟩
theorem Cnt.ne_list {prog : Program} {w : World} {h : Heap} {d o : Addr} {cc : List (Int × Int)} {xs : Array Value} (p : Cnt prog w h d cc) (q : h.PlainList o xs) : d ≠ o := by
  rintro rfl
  obtain ⟨_, _, _, o', es, ep, ho', hc, _⟩ := p
  obtain ⟨n, ho⟩ := q
  rw [ho] at ho'
  cases ho'
  exact absurd hc.1 (by simp)
theorem Cnt.ne_cell {prog : Program} {w : World} {h : Heap} {d c : Addr} {cc : List (Int × Int)} {v : Option Value} (p : Cnt prog w h d cc) (q : h.IsCell c v) : d ≠ c := by
  rintro rfl
  obtain ⟨_, _, _, o', es, ep, ho', hc, hd, _⟩ := p
  obtain ⟨o, ho, hq⟩ := q
  rw [ho] at ho'
  cases ho'
  rw [hd] at hq
  cases hq
theorem cell_not_imm {h : Heap} {c : Addr} {v : Option Value} (q : h.IsCell c v) : ∀ o, h.get? c = some o → ¬ IsImm o := by
  rintro o ho ⟨_, xs, n, hd⟩
  obtain ⟨o', ho', hq⟩ := q
  rw [ho] at ho'
  cases ho'
  rw [hd] at hq
  cases hq
theorem cell_ex {h : Heap} {c : Addr} {v : Option Value} (q : h.IsCell c v) : ∃ o, h.get? c = some o ∧ ∀ xs n, o.data = .seq xs n → o.cls ≠ .type "tuple" := by
  obtain ⟨o, ho, hq⟩ := q
  exact ⟨o, ho, fun xs n e => by rw [hq] at e; cases e⟩
theorem plain_ex {h : Heap} {c : Addr} {xs : Array Value} (q : h.PlainList c xs) : ∃ o, h.get? c = some o ∧ ∀ xs n, o.data = .seq xs n → o.cls ≠ .type "tuple" := by
  obtain ⟨n, ho⟩ := q
  exact ⟨_, ho, fun xs n e => by simp⟩

section
variable {prog : Program} {w : World} {A : Around} {E : Value → Shared → Prop} {s₀ s : Shared} {Mut : List Addr} {env : Env} {Γ : Heap → Prop} {m : Str → Option Value} {L fa : Addr} {cd : Value} {N : Nat}
theorem step3 {K : Nat} {o d : Addr} {t : Tok} {v0 : Option Value} {Q : Flow → Shared → Prop} (hK : K ≤ 3) (a : Ak A (N + 12)) (F : Cx s₀ [L + 1, o, L] L Γ s m) (hW : ∀ h, Γ h → W0 w h)
    (h1 : m (Str.ofString "many") = some (.int (K : Int) t)) (h2 : m (Str.ofString "order") = some (.ref o)) (h3 : m (Str.ofString "calls") = some (.ref d))
    (hO : s.heap.PlainList o #[]) (hD : Cnt prog w s.heap d []) (hC : s.heap.IsCell (L + 1) v0) (hdL : d ≠ L) (hoL : o ≠ L)
    (h : ∀ s' m' d' vs, Cx s₀ [L + 1, o, L] L Γ s' m' → m' (Str.ofString "many") = some (.int (K : Int) t) → m' (Str.ofString "order") = some (.ref o) → m' (Str.ofString "calls") = some (.ref d') → d' ≠ L →
      s'.heap.PlainList o (List.toArray vs) → TupsI s'.heap vs (ordL (ways (2 * K) K K)) → Cnt prog w s'.heap d' (cntL (ways (2 * K) K K)) → (∃ v, s'.heap.IsCell (L + 1) v) → Q .next s') :
    wpAny (model prog w) A (exec (lawBody.getD 2 default) (lawEnv L fa cd)) Q E s := by
  have hwl := ways_len (2 * K) K K (by omega)
  have hwl2 : (ways (2 * K) K K).length ≤ 64 := Nat.le_trans (hwl.2 (by omega)) (show 2 ^ (2 * K) ≤ 2 ^ 6 from Nat.pow_le_pow_right (by omega) (by omega))
  have hoC : o ≠ L + 1 := fun e => by
    subst e
    obtain ⟨n, ho⟩ := hO
    obtain ⟨o', ho', hd⟩ := hC
    rw [ho] at ho'
    cases ho'
    cases hd
  refine wpAny_For (Call_ ?_)
  refine ldG (env := lawEnv L fa cd) F hW (flawways w) (callDef rfl rfl (args_cons ?_))
  refine ldL (env := lawEnv L fa cd) F h1 (args_cons (ldL (env := lawEnv L fa cd) F h1 (args_nil ⟨hW _ F.now, ?_⟩)))
  refine ways_spec (2 * K) (n := N) (by omega) (by omega) rfl rfl (a.le (by omega)) (hW _ F.now) fun s1 W vw k1 f1 P1 T1 => ?_
  have hWM : W ∉ [L + 1, o, L] := fun hm => by
    obtain ⟨o', ho', _⟩ := F.ex W hm
    rw [f1] at ho'
    cases ho'
  have hO := hO.at fun x e => Keeps.get k1 _ x e
  have hD := hD.keeps k1
  have hC := hC.keeps (Keeps.get k1)
  have F := ((F.keeps k1).plain P1 hWM).tups T1
  have hLC : L ≠ L + 1 := Nat.ne_of_lt (Nat.lt_succ_self _)
  have hCM : L + 1 ∉ [o, L] := fun hm => by
    rcases List.mem_cons.mp hm with e | e
    · exact hoC e.symm
    · exact hLC (List.mem_singleton.mp e).symm
  refine loopLst (env := lawEnv L fa cd) a.hh F P1.isList hWM (fun i m h => m (Str.ofString "many") = some (.int (K : Int) t) ∧ m (Str.ofString "order") = some (.ref o) ∧ ∃ vs d, m (Str.ofString "calls") = some (.ref d) ∧ d ≠ L ∧ h.PlainList o (List.toArray vs) ∧ TupsI h vs (ordL ((ways (2 * K) K K).take i)) ∧ Cnt prog w h d (cntL ((ways (2 * K) K K).take i)) ∧ ∃ v, h.IsCell (L + 1) v) ?_ ?_ ?_ ?_
  · rintro i m h h' q ⟨i1, i2, vs, d, i3, i4, i5, i6, i7, v, i8⟩
    exact ⟨i1, i2, vs, d, i3, i4, q.plain i5, i6.imm q.imm, q.cnt i7, v, q.cell i8⟩
  · exact ⟨h1, h2, [], d, h3, hdL, hO, by simpa [ordL] using TupsI.nil, by simpa [cntL] using hD, v0, hC⟩
  · rintro i v m₁ s2 Γ' hG hi hv ⟨i1, i2, vs, d, i3, i4, i5, i6, i7, v1, i8⟩ F
    have hG1 : ∀ h, Γ' h → W0 w h := fun h q => hW h (hG h q).1.1
    obtain ⟨x, hx, tx⟩ := T1.get i v hv
    obtain ⟨x', hx', tx⟩ := (hG _ F.now).2.get i v hv
    obtain rfl : x = x' := Option.some.inj (hx.symm.trans hx')
    have hoL' : (ordL ((ways (2 * K) K K).take i)).length ≤ 64 := by rw [ordL_len, List.length_take]; omega
    have hcL' : (cntL ((ways (2 * K) K K).take i)).length ≤ 64 := Nat.le_trans (cntL_len _) (by rw [List.length_take]; omega)
    -- way = v
    refine wpAny_assign_Name (wpAny_storeName_cell (env := lawEnv L fa cd) (c := L + 1) rfl rfl rfl i8 fun h3 hc3 hs3 => ?_)
    have b3 : ∀ b o, b ≠ L + 1 → s2.heap.get? b = some o → h3.get? b = some o := fun b o hb e => hs3.extBut b o hb e
    have im3 : Imm s2.heap h3 := Imm.of b3 (cell_not_imm i8)
    have F := F.turnAt (tk := s2.toks) (List.mem_cons_self ..) (Ne.symm hLC) b3 (cell_ex hc3)
    have i5 := i5.at fun x e => b3 o x hoC e
    have i6 := i6.imm im3
    have i7 := i7.but b3 (i7.ne_cell i8) (cell_not_imm i8)
    have tx := tx.imm im3
    have F := F.freeze (fun h => h.IsCell (L + 1) (some v)) hc3 hCM (List.mem_cons_of_mem _ (List.mem_singleton.mpr rfl)) (fun h h' q e => let ⟨o, ho, hd⟩ := e; ⟨o, q o ho, hd⟩)
    -- insort_left(order, way)
    refine wpAny_execs_cons (wpAny_Expr (Call_ ?_))
    have hG2 : ∀ h, (BoxI (L + 1) [o, L] Γ' h ∧ h.IsCell (L + 1) (some v)) → W0 w h := fun h q => hG1 h q.1.now
    refine ldG (env := lawEnv L fa cd) F hG2 (finsortleft w) (callDef rfl rfl (args_cons ?_))
    refine ldL (env := lawEnv L fa cd) F (v := .ref o) (by walk_at "lk") (args_cons (ldC (env := lawEnv L fa cd) (v := v) F.now.2 (args_nil ⟨hG2 _ F.now, ?_⟩) rfl))
    refine insort_spec (n := N) (a.le (by omega)) (hG2 _ F.now) i5 i6 tx (by omega) fun s4 T4 P4 => ?_
    obtain ⟨h4, tk4, rfl, q4⟩ := T4
    have im4 : Imm h3 h4 := Imm.of q4 fun x e => not_imm_list i5 e
    have hdo := i7.ne_list i5
    have i7 := i7.but q4 hdo fun x e => not_imm_list i5 e
    have i6 := i6.imm im4
    have tx := tx.imm im4
    have F := F.turnAt (tk := tk4) (List.mem_cons_self ..) hoL q4 (plain_ex P4)
    -- calls = add_callers(calls, ...)
    refine wpAny_execs_cons (wpAny_Assign_Name (Call_ ?_))
    refine ldG (env := lawEnv L fa cd) F hG2 (faddcallers w) (callDef rfl rfl (args_cons ?_))
    refine ldL (env := lawEnv L fa cd) F (v := .ref d) (by walk_at "lk") (args_cons ?_)
    refine dict1 (N := N) (a.le (by omega)) F hG2 tx F.now.2 fun s5 D1 k5 f5 C5 => args_nil ⟨hG2 _ (F.keeps k5).now, ?_⟩
    have F := F.keeps k5
    have i7 := i7.keeps k5
    refine addc_spec (n := N) (a.le (by omega)) (hG2 _ F.now) i7 C5 (by simp; omega) fun s6 D2 k6 f6 C6 => ?_
    have hD2L : D2 ≠ L := fun e => by
      obtain ⟨o', ho', _⟩ := F.ex L (by simp)
      rw [e, ho'] at f6
      cases f6
    have F := F.keeps k6
    have P6 := P4.at fun x e => Keeps.get (Keeps.trans k5 k6) o x e
    have i6 := (TupsI.keeps (s := { s2 with heap := h4, toks := tk4 }) i6 k5).keeps k6
    have ns6 := F.ns
    refine stLH (env := lawEnv L fa cd) F fun s7 F k7 => wpAny_execs_nil ?_
    have im7 : Imm s6.heap s7.heap := Imm.of k7 fun x e => not_imm_ns ns6 e
    refine ⟨rfl, _, F.thaw (fun h q => q.1) (cell_ex F.now.2), by walk_at "lk", by walk_at "lk", _, D2, by walk_at "lk", hD2L, P6.at fun x e => k7 o x hoL e, ?_, ?_, _, F.now.2⟩
    · have e : ordL ((ways (2 * K) K K).take (i + 1)) = ordStep (ordL ((ways (2 * K) K K).take i)) x := by
        rw [take_snoc hx, ordL, List.foldl_append]; rfl
      rw [e]
      exact (i6.imm im7).ins (((tx.keeps (s := { s2 with heap := h4, toks := tk4 }) k5).keeps k6).imm im7)
    · have e : cntL ((ways (2 * K) K K).take (i + 1)) = cntStep (cntL ((ways (2 * K) K K).take i)) x := by
        rw [take_snoc hx, cntL, List.foldl_append]; rfl
      rw [e]
      exact C6.but k7 hD2L fun x e => not_imm_ns ns6 e
  · rintro m₁ s2 ⟨i1, i2, vs, d, i3, i4, i5, i6, i7, i8⟩ F
    have e : (ways (2 * K) K K).take vw.length = ways (2 * K) K K := by rw [T1.len, List.take_length]
    rw [e] at i6 i7
    exact h s2 m₁ d vs (F.weak fun h q => q.1.1) i1 i2 i3 i4 i5 i6 i7 i8
end
def dueL : List Int := [1, 1, 2, 5, 14]
section
variable {prog : Program} {w : World} {A : Around} {E : Value → Shared → Prop} {s₀ s : Shared} {Mut : List Addr} {env : Env} {Γ : Heap → Prop} {m : Str → Option Value} {L fa : Addr} {cd : Value} {N : Nat}

/-- value[name], value any expression: what it made is let go -/
theorem subAny {value : Expr} {x : Str} {p pos : Pos} {Q : Value → Shared → Prop}
    (h : wpAny (model prog w) A (eval value env) (fun o s₁ => wpAny (model prog w) A (eval (.Name x p) env) (fun i s₂ => SubscriptOn (model prog w) A o i Q E s₂) E s₁) E s) :
    wpAny (model prog w) A (eval (.Subscript value (.Name x p) pos) env) Q E s :=
  PyProof.Rows.Subscript_ (wpAny_mono h (fun o s₁ h₁ => wpAny_mono h₁ (fun i s₂ ⟨_, _, hl, hT, hg⟩ => tail_any (ops := [o, i]) hT hl hg rfl) fun _ _ x => x) fun _ _ x => x)

theorem step4 {K : Nat} {t : Tok} {v0 : Option Value} {Q : Flow → Shared → Prop} (hK : K ≤ 3) (F : Cx s₀ ((L + 2) :: Mut) L Γ s m)
    (h1 : m (Str.ofString "many") = some (.int (K : Int) t)) (hC : s.heap.IsCell (L + 2) v0)
    (h : ∀ s' t', Cx s₀ ((L + 2) :: Mut) L Γ s' m → s'.heap.IsCell (L + 2) (some (.int (dueL.getD K 0) t')) → (∀ b o, b ≠ L + 2 → s.heap.get? b = some o → s'.heap.get? b = some o) → Q .next s') :
    wpAny (model prog w) A (exec (lawBody.getD 3 default) (lawEnv L fa cd)) Q E s := by
  refine wpAny_Assign_Name (subAny (wpAny_List ?_))
  refine wpAny_items_cons (cIntK F fun t1 s1 F k1 => wpAny_items_cons (cIntK F fun t2 s2 F k2 => wpAny_items_cons (cIntK F fun t3 s3 F k3 => wpAny_items_cons (cIntK F fun t4 s4 F k4 => wpAny_items_cons (cIntK F fun t5 s5 F k5 => wpAny_items_nil ⟨by rw [sizeLine_eq]; simp, ?_⟩)))))
  have kk := Keeps.trans k1 (Keeps.trans k2 (Keeps.trans k3 (Keeps.trans k4 k5)))
  have k6 : Keeps s5 { s5 with heap := s5.heap.push { cls := .type "list", data := .seq [Value.int 1 t1, .int 1 t2, .int 2 t3, .int 5 t4, .int 14 t5].toArray } } := ⟨_, s5.toks, rfl, fun _ _ e => Heap.get?_push_of_some _ e⟩
  have hl : (s5.heap.push { cls := .type "list", data := .seq [Value.int 1 t1, .int 1 t2, .int 2 t3, .int 5 t4, .int 14 t5].toArray }).IsList s5.heap.objs.size [Value.int 1 t1, .int 1 t2, .int 2 t3, .int 5 t4, .int 14 t5].toArray := Heap.PlainList.isList ⟨0, Heap.get?_push_size _ rfl⟩
  have F := F.keeps k6
  have kk := Keeps.trans kk k6
  refine ldL (env := lawEnv L fa cd) F h1 ⟨"list", _, slot_list_getitem.lookup, hl.typeIs, ?_⟩
  obtain ⟨t', hx⟩ : ∃ t', [Value.int 1 t1, .int 1 t2, .int 2 t3, .int 5 t4, .int 14 t5].toArray[(K : Int).toNat]? = some (.int (dueL.getD K 0) t') := by
    rw [Int.toNat_natCast]
    match K, hK with
    | 0, _ => exact ⟨t1, rfl⟩
    | 1, _ => exact ⟨t2, rfl⟩
    | 2, _ => exact ⟨t3, rfl⟩
    | 3, _ => exact ⟨t4, rfl⟩
  refine wpAny_getItem_list hl (by omega) (by omega) hx ?_
  have hC := hC.keeps (Keeps.get kk)
  refine wpAny_storeName_cell (env := lawEnv L fa cd) (c := L + 2) rfl rfl rfl hC fun h7 hc7 hs7 => ?_
  have b7 := fun b o hb e => hs7.extBut b o hb e
  exact h _ t' (F.turnAt (List.mem_cons_self ..) (Nat.ne_of_gt (by have : (L : Nat) < L + 2 := Nat.lt_add_of_pos_right (by decide); exact this)) b7 (cell_ex hc7)) hc7 fun b o hb e => b7 b o hb (Keeps.get kk b o e)
end
section
variable {prog : Program} {w : World} {A : Around} {E : Value → Shared → Prop} {env : Env}

/-- [elt for x, y in view if c], where c never holds -/
theorem compItems0 {elt iter c : Expr} {x y : Str} {px py tp pos : Pos} {kk : Nat} {scope : Scope} {cl : List (Str × Addr)} {s : Shared} {V d : Addr} {es : Array DictEntry} {ep : Nat} {Q : Value → Shared → Prop}
    (hA : A.handled = none) (hv : s.heap.IsItemsView V d) (hd : DE s.heap d es ep)
    (turn : ∀ (i : Nat) (e : DictEntry) C s₁ Γ' m, (∀ h, Γ' h → Base s h) → es[i]? = some e → m x = some e.key → m y = some e.val → Cx s [C] C Γ' s₁ m →
      wpAny (model prog w) A (isTrue c (compEnvC scope cl C env) (eval c (compEnvC scope cl C env))) (fun ok s₃ => ok = false ∧ Cx s [C] C Γ' s₃ m) (fun _ _ => False) s₁)
    (fin : ∀ s' D, Keeps s s' → s.heap.get? D = none → s'.heap.PlainList D #[] → Q (.ref D) s')
    (hcell : ∀ y ∈ scope.names, y.2 ≠ .cell := by decide) (hkind : scope.kind = .function := by rfl) (hx : scope.names.lookup x = some .local := by rfl) (hy : scope.names.lookup y = some .local := by rfl) (hxy : x ≠ y := by decide) :
    wpAny (model prog w) A (pyIter (.ref V)) (fun it s₂ => wpAny (model prog w) A (newList []) (fun acc s₃ => wpAny (model prog w) A (newFunctionEnv scope env.globals cl [] env.qual none .none (some env)) (fun cenv s₄ =>
      codeAny (model prog w) A (.compStart (.ListComp elt [⟨.Tuple [.Name x px, .Name y py] kk tp, iter, [c], 0⟩] scope pos) 0 it acc { cenv with scope := relabel scope env }) (compPost (model prog w) A E none Q acc cenv.locals) s₄) E s₃) E s₂) E s := by
  have hne : d ≠ s.heap.objs.size := Nat.ne_of_lt hd.lt
  refine iterItems hv hd ?_
  refine wpAny_newObj_type (wpAny_newFunctionEnv hcell (by intro y hy; simp at hy) (fun h₁ hns₁ hsb₁ => ?_) hkind)
  dsimp only at hns₁ hsb₁ ⊢
  -- the three that are made: the iterator, the list, the names
  have z1 : (s.heap.push { cls := .type "dict_itemiterator", data := .fields #[.none, .bool false, .ref d, .int 0 0, .int es.size 0, .int ep 0, .none, .none] }).objs.size = s.heap.objs.size + 1 := Heap.size_push ..
  have i1 : IsItemIter (s.heap.push { cls := .type "dict_itemiterator", data := .fields #[.none, .bool false, .ref d, .int 0 0, .int es.size 0, .int ep 0, .none, .none] }) s.heap.objs.size d 0 es.size ep .none .none := Heap.get?_push_size _ rfl
  have k1 : ∀ b o, s.heap.get? b = some o → (s.heap.push { cls := .type "dict_itemiterator", data := .fields #[.none, .bool false, .ref d, .int 0 0, .int es.size 0, .int ep 0, .none, .none] }).get? b = some o := fun b o e => Heap.get?_push_of_some _ e
  generalize s.heap.push { cls := .type "dict_itemiterator", data := .fields #[.none, .bool false, .ref d, .int 0 0, .int es.size 0, .int ep 0, .none, .none] } = H1 at hns₁ hsb₁ z1 i1 k1 ⊢
  have z2 : (H1.push { cls := .type "list", dict := none, data := .seq ([] : List Value).toArray }).objs.size = s.heap.objs.size + 2 := by rw [Heap.size_push, z1]
  have p2 : (H1.push { cls := .type "list", dict := none, data := .seq ([] : List Value).toArray }).PlainList H1.objs.size #[] := ⟨0, Heap.get?_push_size _ rfl⟩
  have k2 : ∀ b o, H1.get? b = some o → (H1.push { cls := .type "list", dict := none, data := .seq ([] : List Value).toArray }).get? b = some o := fun b o e => Heap.get?_push_of_some _ e
  generalize H1.push { cls := .type "list", dict := none, data := .seq ([] : List Value).toArray } = H2 at hns₁ hsb₁ z2 p2 k2 ⊢
  have hI : s.heap.get? s.heap.objs.size = none := Heap.get?_none_of_le (Nat.le_refl _)
  have hD : s.heap.get? H1.objs.size = none := Heap.get?_none_of_le (by rw [z1]; exact Nat.le_succ _)
  have hC : s.heap.get? H2.objs.size = none := Heap.get?_none_of_le (by rw [z2]; exact Nat.le_add_right _ _)
  have hDC : H1.objs.size ≠ H2.objs.size := by rw [z1, z2]; exact Nat.ne_of_lt (Nat.lt_succ_self _)
  have hIC : s.heap.objs.size ≠ H2.objs.size := by rw [z2]; exact Nat.ne_of_lt (Nat.lt_add_of_pos_right (by decide))
  have hID : s.heap.objs.size ≠ H1.objs.size := by rw [z1]; exact Nat.ne_of_lt (Nat.lt_succ_self _)
  generalize s.heap.objs.size = I at hne i1 hI hIC hID ⊢
  generalize H1.objs.size = D at p2 hD hDC hID ⊢
  generalize hCC : H2.objs.size = C at hns₁ hsb₁ hC hDC hIC ⊢
  have b1 : ∀ b o, b ≠ C → H2.get? b = some o → h₁.get? b = some o := fun b o hb e => hsb₁.extBut b o hb (Heap.get?_push_of_some _ e)
  have cne : ∀ b o, s.heap.get? b = some o → b ≠ I ∧ b ≠ D ∧ b ≠ C := fun b o e => ⟨fun x => (by rw [x, hI] at e; cases e), fun x => (by rw [x, hD] at e; cases e), fun x => (by rw [x, hC] at e; cases e)⟩
  have base₁ : ∀ b o, s.heap.get? b = some o → h₁.get? b = some o := fun b o e => b1 b o (cne b o e).2.2 (k2 b o (k1 b o e))
  have it₁ : IsItemIter h₁ I d 0 es.size ep .none .none := b1 I _ hIC (k2 I _ i1)
  have acc₁ : h₁.PlainList D #[] := p2.at fun o e => b1 D o hDC e
  have mkCx : ∀ (h : Heap) (tk : Nat) (mC : Str → Option Value), h.Ns C mC → (∀ b o, s.heap.get? b = some o → h.get? b = some o) → Cx s [C] C (Base s) { s with heap := h, toks := tk } mC := by
    intro h tk mC hN hk
    refine ⟨⟨h, tk, rfl⟩, hN, fun h' q b o e => q b o (fun hb => (cne b o e).2.2 (List.mem_singleton.mp hb)) (hk b o e), by simp, fun b hb => ?_⟩
    rw [List.mem_singleton.mp hb]
    obtain ⟨o, es, ep, ho, hd, _⟩ := hN
    exact ⟨o, ho, fun xs n e => by rw [hd] at e; cases e⟩
  have dn : ∀ h : Heap, (∀ b o, s.heap.get? b = some o → h.get? b = some o) → DE h d es ep := fun h q => hd.mov fun o e => q d o e
  have W := turnsItems (prog := prog) (w := w) (elts := [.Name x px, .Name y py]) (kk := kk) (pos := tp) hA I d hne es ep
  have hCI : C ∉ [I] := fun h => hIC (List.mem_singleton.mp h).symm
  have hDI : D ∉ [I] := fun h => hID (List.mem_singleton.mp h).symm
  have sI : ∀ b o, s.heap.get? b = some o → b ∉ [I] := fun b o e h => (cne b o e).1 (List.mem_singleton.mp h)
  have loop : ∀ s₃ : Shared, s₃ = { s with heap := h₁, toks := s.toks + ([] : List (Str × Value)).length } →
      codeAny (model prog w) A (.compLoop (.ListComp elt [⟨.Tuple [.Name x px, .Name y py] kk tp, iter, [c], 0⟩] scope pos) 0 (.ref I) (.ref D) (compEnvC scope cl C env)) (compPost (model prog w) A E none Q (.ref D) C) s₃ := by
    rintro s₃ rfl
    refine kct_loop (fun k s' => ∃ i mC, i ≤ es.size ∧ k = es.size + 1 - i ∧ (∃ ok ov, IsItemIter s'.heap I d i es.size ep ok ov) ∧ s'.heap.PlainList D #[] ∧ (∃ h tk, s' = { s with heap := h, toks := tk } ∧ h.Ns C mC ∧ ∀ b o, s.heap.get? b = some o → h.get? b = some o)) ?_ (es.size + 1)
      ⟨0, _, Nat.zero_le _, rfl, ⟨_, _, it₁⟩, acc₁, h₁, _, rfl, hns₁, base₁⟩
    rintro k s' ⟨i, mC, hi, rfl, hit, hacc, h', tk', rfl, hns, hb⟩
    by_cases hlt : i < es.size
    · refine W.item i _ _ _ hlt ⟨hit, dn h' hb⟩ fun v h2 tk2 hMd hk2 => ?_
      refine W.go i v _ _ _ hMd fun h3 hP hst3 hk3 => ?_
      obtain ⟨T, e, rfl, he, hT⟩ := hP
      have kk3 : ∀ b o, b ∉ [I] → h'.get? b = some o → h3.get? b = some o := fun b o hbI e => hk3 b o hbI (hk2 b o hbI e)
      have F3 := mkCx h3 tk2 mC (hns.at' fun o e => kk3 C o hCI e) fun b o e => kk3 b o (sI b o e) (hb b o e)
      have acc3 := hacc.at fun o e => kk3 D o hDI e
      refine assign_Tuple_tuple (items := #[e.key, e.val]) hA hT rfl rfl fun h4 hext => ?_
      have kk4 : ∀ b o, h3.get? b = some o → h4.get? b = some o := fun b o e => hext b o (Nat.ne_of_lt (Heap.lt_size e)) e
      refine assignInOrder_cons (assign_Name (wpAny_storeName_local (lookup_relabel_local hx) (F3.ns.at' fun o e => kk4 C o e) (fun h5 hn5 hs5 => ?_) (by simp [compEnvC, relabel, hkind])))
      refine assignInOrder_cons (assign_Name (wpAny_storeName_local (lookup_relabel_local hy) hn5 (fun h6 hn6 hs6 => ?_) (by simp [compEnvC, relabel, hkind])))
      refine assignInOrder_nil ?_
      have kk6 : ∀ b o, b ≠ C → h3.get? b = some o → h6.get? b = some o := fun b o hbC e => hs6.extBut b o hbC (hs5.extBut b o hbC (kk4 b o e))
      have F6 := mkCx h6 (tk2 + 1 + 1) _ hn6 fun b o e => kk6 b o (cne b o e).2.2 (F3.now b o e)
      obtain ⟨⟨ok, ov, it3⟩, _⟩ := hst3
      have it6 : IsItemIter h6 I d (i + 1) es.size ep ok ov := kk6 I _ hIC it3
      have acc6 : h6.PlainList D #[] := acc3.at fun o e => kk6 D o hDC e
      have F7 := F6.and (Γ' := fun h => (∃ ok ov, IsItemIter h I d (i + 1) es.size ep ok ov) ∧ h.PlainList D #[]) fun h' q =>
        ⟨⟨ok, ov, q I _ (fun hm => hIC (List.mem_singleton.mp hm)) it6⟩, acc6.at fun o e => q D o (fun hm => hDC (List.mem_singleton.mp hm)) e⟩
      refine wpAny_mono (turn i e C _ _ _ (fun h q => q.1) he (by simp [hxy]) (by simp) F7) (fun ok s8 h8 => ?_) fun _ _ x => x.elim
      obtain ⟨rfl, F8⟩ := h8
      rw [if_neg (by decide)]
      obtain ⟨hh8, tk8, rfl⟩ := F8.same
      exact ⟨es.size + 1 - (i + 1), by omega, i + 1, _, hlt, rfl, F8.now.2.1, F8.now.2.2, hh8, tk8, rfl, F8.ns, F8.now.1⟩
    · have hin : i = es.size := by omega
      subst hin
      refine W.done _ _ _ ⟨hit, dn h' hb⟩ fun h2 tk2 hk2 => ?_
      refine ⟨mC, hns.at' fun o e => hk2 C o hCI e, fun h4 hsb4 => ?_⟩
      refine fin _ D ⟨h4, tk2, rfl, fun b o e => hsb4.extBut b o (cne b o e).2.2 (hk2 b o (sI b o e) (hb b o e))⟩ hD (hacc.at fun o e => hsb4.extBut D o hDC (hk2 D o hDI e))
  exact codeAny_compStart_list (loop _ rfl) (kcp_self (s := { s with heap := h₁, toks := s.toks + ([] : List (Str × Value)).length }) it₁ (loop _ rfl))
end
/-! equality of lists -/
theorem readsInts {h : Heap} : ∀ {vs : List Value} {ns : List Int}, IntsAre vs ns → ∃ as, ReadsAll h vs (ns.map .int) as
  | _, _, .nil => ⟨_, .nil⟩
  | _, _, .cons n t r => let ⟨_, q⟩ := readsInts r; ⟨_, .cons (.int n t) q⟩
theorem readsTup {h : Heap} {v : Value} {ns : List Int} (x : TupI h v ns) : ∃ as, Reads h v (.tuple (ns.map .int)) as := by
  obtain ⟨a, vs, rfl, ⟨o, ho, hc, n, hd⟩, hi⟩ := x
  obtain ⟨as, q⟩ := readsInts (h := h) hi
  exact ⟨_, .tuple ho hc hd q⟩
theorem readsTups {h : Heap} : ∀ {vs : List Value} {ws : List (List Int)}, TupsI h vs ws → ∃ as, ReadsAll h vs (ws.map fun n => .tuple (n.map .int)) as
  | [], [], _ => ⟨_, .nil⟩
  | [], _ :: _, x => absurd x.len (by simp)
  | _ :: _, [], x => absurd x.len (by simp)
  | v :: vs, n :: ws, x => by
    obtain ⟨n', hn, t⟩ := x.get 0 v rfl
    have hn : n = n' := Option.some.inj hn
    subst hn
    obtain ⟨as, q⟩ := readsTup t
    have r : TupsI h vs ws := ⟨by simpa using x.len, fun i v hv => by
      obtain ⟨n, hn, t⟩ := x.get (i + 1) v (by simpa using hv)
      exact ⟨n, by simpa using hn, t⟩⟩
    obtain ⟨bs, q2⟩ := readsTups r
    exact ⟨_, .cons q q2⟩
theorem lay_ints : ∀ ns : List Int, PyData.canLayAll0 (ns.map .int) = true
  | [] => by simp [PyData.canLayAll0]
  | n :: ns => by simp [PyData.canLayAll0, PyData.canLay0, lay_ints ns]
theorem lay_tups : ∀ ws : List (List Int), PyData.canLayAll0 (ws.map fun n => .tuple (n.map .int)) = true
  | [] => by simp [PyData.canLayAll0]
  | n :: ws => by simp [PyData.canLayAll0, PyData.canLay0, lay_ints n, lay_tups ws]
theorem dep_ints : ∀ ns : List Int, PyData.depthAll (ns.map .int) ≤ 1
  | [] => by simp [PyData.depthAll]
  | n :: ns => by have := dep_ints ns; simp [PyData.depthAll, PyData.depth]; omega
theorem dep_tups : ∀ ws : List (List Int), PyData.depthAll (ws.map fun n => .tuple (n.map .int)) ≤ 2
  | [] => by simp [PyData.depthAll]
  | n :: ws => by have := dep_ints n; have := dep_tups ws; simp [PyData.depthAll, PyData.depth]; omega

section
variable {prog : Program} {w : World} {A : Around} {E : Value → Shared → Prop} {s₀ s : Shared} {Mut : List Addr} {env : Env} {Γ : Heap → Prop} {m : Str → Option Value} {L fa : Addr} {cd : Value} {N : Nat}

theorem neSame {l b : Addr} {vs : List Value} {ws : List (List Int)} {Q : Value → Shared → Prop} (a : Ak A N) (hl : s.heap.IsList l vs.toArray) (hb : s.heap.IsList b vs.toArray) (hT : TupsI s.heap vs ws) (h : Q (.bool false) s) :
    wpAny (model prog w) A (compareOp .NotEq (.ref l) (.ref b)) Q E s := by
  obtain ⟨as, q⟩ := readsTups hT
  obtain ⟨o, ho, hc, n, hd⟩ := hl
  obtain ⟨o', ho', hc', n', hd'⟩ := hb
  have hlay : PyData.canLay0 (.list (ws.map fun n => .tuple (n.map .int))) = true := by simpa [PyData.canLay0] using lay_tups ws
  refine SeqAt.compareNe_reads (.list ho hc hd q) (.list ho' hc' hd' q) hlay hlay ?_ ?_
  · have := dep_tups ws
    have := a.un
    simp only [PyData.depth, Nat.min_self]
    omega
  · rw [SeqAt.eqv_refl _ hlay]; exact h
theorem neNil {l b : Addr} {Q : Value → Shared → Prop} (a : Ak A N) (hl : s.heap.IsList l #[]) (hb : s.heap.IsList b #[]) (h : Q (.bool false) s) :
    wpAny (model prog w) A (compareOp .NotEq (.ref l) (.ref b)) Q E s := neSame a (vs := []) (ws := []) hl hb .nil h
theorem eqNil {l b : Addr} {vs : List Value} {Q : Value → Shared → Prop} (a : Ak A N) (hl : s.heap.IsList l vs.toArray) (hb : s.heap.IsList b #[]) (h : Q (.bool (decide (vs = []))) s) :
    wpAny (model prog w) A (compareOp .Eq (.ref l) (.ref b)) Q E s := by
  by_cases e : vs = []
  · subst e
    exact SeqAt.eq_listAt (e := fun _ => true) hl hb rfl a.u1 (fun j h1 => absurd h1 (by simp)) h
  · refine SeqAt.eq_list_lengthsAt hl hb ?_ a.u1 ?_
    · simp only [List.size_toArray]
      cases vs with
      | nil => exact absurd rfl e
      | cons v vs => simp
    · rw [decide_eq_false e] at h; exact h
/-- a list display of nothing -/
theorem listNil {pos : Pos} {Q : Value → Shared → Prop} (h : ∀ s' D, Keeps s s' → s.heap.get? D = none → s'.heap.PlainList D #[] → Q (.ref D) s') : wpAny (model prog w) A (eval (.List [] pos) env) Q E s :=
  wpAny_List (wpAny_items_nil ⟨by rw [sizeLine_eq]; simp, h _ _ ⟨_, s.toks, rfl, fun _ _ e => Heap.get?_push_of_some _ e⟩ (Heap.get?_none_of_le (Nat.le_refl _)) ⟨0, Heap.get?_push_size _ rfl⟩⟩)
end
section
variable {prog : Program} {w : World} {A : Around} {E : Value → Shared → Prop} {s₀ s : Shared} {Mut : List Addr} {env : Env} {Γ : Heap → Prop} {m : Str → Option Value} {L fa : Addr} {cd : Value} {N : Nat}

theorem entAt {es : Array DictEntry} {xs : List (List MK × Addr × Value)} {c : List (Int × Int)} (hl : es.toList = xs.map (entryOfKey (TKd prog w))) (he : Ents xs c) {i : Nat} {e : DictEntry} (hi : es[i]? = some e) :
    ∃ k n b t, xs[i]? = some (kb k, b, .int n t) ∧ e.key = .ref b ∧ e.val = .int n t ∧ c[i]? = some (k, n) := by
  rw [← Array.getElem?_toList, hl, List.getElem?_map] at hi
  cases hx : xs[i]? with
  | none => rw [hx] at hi; cases hi
  | some y =>
    rw [hx] at hi
    obtain ⟨k, nn, b, t, rfl, hc⟩ := he.get i y hx
    have hi : entryOfKey (TKd prog w) (kb k, b, Value.int nn t) = e := Option.some.inj hi
    subst hi
    exact ⟨k, nn, b, t, rfl, rfl, rfl, hc⟩
theorem kb_tup {h : Heap} {k : Int} {b : Addr} (x : IsTupleKey (mixKind prog w) h (kb k) b) : ∃ v0 t v2, IsTup h b [v0, .int k t, v2].toArray := by
  obtain ⟨o, items, n, ho, hc, hd, hi⟩ := x
  unfold kb at hi
  generalize hL : items.toList = vs at hi
  cases hi with
  | cons h0 hi =>
    cases hi with
    | cons h1 hi =>
      cases hi with
      | cons h2 hi =>
        cases hi with
        | nil =>
          simp only [mixKind, mixIs] at h1
          obtain ⟨t, rfl⟩ := Value.isInt_shape h1
          have hd' : o.data = .seq items.toList.toArray n := by simpa using hd
          rw [hL] at hd'
          exact ⟨_, t, _, o, ho, hc, n, hd'⟩

theorem listCompG {elt iter target : Expr} {pos : Pos} {ifs : List Expr} {scope : Scope} {s : Shared} {Q : Value → Shared → Prop} (cl : List (Str × Addr))
    (hclos : closureFor scope env = pure cl) (hkind : scope.kind = .function) (hnames : ∀ x ∈ scope.names, x.2 = .local → scope.names.lookup x.1 = some .local)
    (h : wpAny (model prog w) A (eval iter env) (fun xv s₁ => wpAny (model prog w) A (pyIter xv) (fun it s₂ =>
      wpAny (model prog w) A (newList []) (fun acc s₃ => wpAny (model prog w) A (newFunctionEnv scope env.globals cl [] env.qual none .none (some env)) (fun cenv s₄ =>
        codeAny (model prog w) A (.compStart (.ListComp elt [⟨target, iter, ifs, 0⟩] scope pos) 0 it acc { cenv with scope := relabel scope env }) (compPost (model prog w) A E none Q acc cenv.locals) s₄) E s₃) E s₂) E s₁) E s)
    (hs : ∀ x, foldedSetIterable iter env x = pure x := by intro _; rfl) :
    wpAny (model prog w) A (eval (.ListComp elt [⟨target, iter, ifs, 0⟩] scope pos) env) Q E s := by
  rw [eval_ListComp]
  exact wpAny_comprehension_free (use := none) rfl hs hclos hkind hnames h

theorem step5 {o d : Addr} {vs : List Value} {ws : List (List Int)} {c : List (Int × Int)} {due : Int} {t : Tok} {kk : Nat} {Q : Flow → Shared → Prop} (a : Ak A (N + 12)) (F : Cx s₀ [L] L Γ s m) (hW : ∀ h, Γ h → W0 w h)
    (h2 : m (Str.ofString "order") = some (.ref o)) (h3 : m (Str.ofString "calls") = some (.ref d))
    (hO : ∀ h, Γ h → h.PlainList o vs.toArray) (hT : ∀ h, Γ h → TupsI h vs ws) (hD : ∀ h, Γ h → Cnt prog w h d c) (hC : ∀ h, Γ h → h.IsCell (L + 2) (some (.int due t)))
    (hS : ws.length = 1 ∨ (2 ≤ ws.length ∧ ws.length < 64 ∧ 0 < kk ∧ (∀ x ∈ ws, x.length = kk) ∧ ∀ i a b, 1 ≤ i → ws[i]? = some a → ws[i - 1]? = some b → lexB a b = false))
    (hc : ∀ p ∈ c, p.1.fmod 2 = 0 ∧ p.2 = due)
    (h : ∀ s', Cx s₀ [L] L Γ s' m → Q .next s') :
    wpAny (model prog w) A (exec (lawBody.getD 4 default) (lawEnv L fa cd)) Q E s := by
  refine wpAny_If (wpAny_isTrue_BoolOp (or2C false false F (wpAny_isTrue_Compare1 ?_) (fun _ s F => wpAny_isTrue_Compare1 ?_) fun s F => ?_))
  · refine ldL (env := lawEnv L fa cd) F h2 (Call_ ?_)
    refine ldB (env := lawEnv L fa cd) F hW (g_sorted w) b_sorted (PyProof.Rows.callWith_builtin1 (args_cons ?_))
    refine ldL (env := lawEnv L fa cd) F h2 (args_nil ?_)
    have hlen := (hT _ F.now).len
    have fin : ∀ s' D, Cx s₀ [L] L Γ s' m → s'.heap.PlainList D vs.toArray → wpAny (model prog w) A (compareOp .NotEq (.ref o) (.ref D)) (fun c s₃ => wpAny (model prog w) A (truthy c) (fun b s' => b = false ∧ Cx s₀ [L] L Γ s' m) E s₃) E s' := fun s' D F P =>
      neSame a (hO _ F.now).isList P.isList (hT _ F.now) (wpAny_truthy_bool ⟨rfl, F⟩)
    rcases hS with h1 | ⟨h2', h64, hk, hw, hs⟩
    · rw [← hlen] at h1
      obtain ⟨x, rfl⟩ := List.length_eq_one_iff.mp h1
      exact sorted1 (hO _ F.now).isList fun s' D k _ P => fin s' D (F.keeps k) P
    · exact sortedT F (hO _ F.now).isList (hT _ F.now) hw hk hs (by omega) (by omega) fun s' D F _ _ P => fin s' D F P
  · refine listCompG [(Str.ofString "due", L + 2)] rfl rfl (by decide) ?_
    obtain ⟨g1, xs, e1, hd⟩ := hD _ F.now
    obtain ⟨es, ep, de, l1⟩ := DictOfH.de hd
    refine methItems (env := lawEnv L fa cd) F h3 de g1 (fun V h' F hV k => ?_) rfl rfl
    have de := de.mov fun o e => Keeps.get k d o e
    have kd : ∀ x ∈ xs, (TKd prog w).is h' x.1 x.2.1 := by
      obtain ⟨_, _, _, _, _, _, _, q, _⟩ := hd
      exact fun x hx => IsTupleKey.mov (q x hx) fun o _ e => Keeps.get k _ o e
    have G := F.box
    have hc2 := hC _ F.now
    refine compItems0 (env := lawEnv L fa cd) a.hh hV de (fun i e C s₁ Γ' mC hB he hx hy FC => ?_) (fun s' D k f P => ?_)
    · obtain ⟨lv, n, b, t', hxi, ek, ev, hcE⟩ := entAt l1 e1 he
      rw [ek] at hx
      rw [ev] at hy
      obtain ⟨hc1, hc3⟩ := hc _ (List.mem_of_getElem? hcE)
      have kdb := kd _ (List.mem_of_getElem? hxi)
      refine wpAny_isTrue_BoolOp (or2C false false FC (wpAny_isTrue_Compare1 (wpAny_BinOp ?_)) (fun _ s FC => wpAny_isTrue_Compare1 ?_) fun s FC => ⟨rfl, FC⟩)
      · obtain ⟨v0, tl, v2, ht⟩ := kb_tup (IsTupleKey.mov kdb fun o _ e => hB _ FC.now _ o e)
        refine wpAny_Subscript_Constant_late (ldL FC hx (cIntK FC fun t1 s1 FC1 k1 => ⟨"tuple", _, slot_tuple_getitem.lookup, (ht.keeps (Keeps.get k1)).typeIs, ?_⟩))
        refine PyProof.Rows.getItem_tuple (ht.keeps (Keeps.get k1)) (j := 1) (by decide) (by decide) (show seqIndex? 1 3 = some 1 by decide) (x := .int lv tl) rfl ?_
        refine cInt FC1 fun t2 s2 FC => oMod FC (by decide) fun t3 s3 FC => cInt FC fun t4 s4 FC => ne_int (wpAny_truthy_bool ⟨?_, FC⟩)
        rw [hc1]; rfl
      · refine ldL FC hy (ldC (c := L + 2) (v := .int due t) (hc2.keeps (hB _ FC.now)) (ne_int (wpAny_truthy_bool ⟨?_, FC⟩)) rfl)
        rw [show n = due from hc3]; simp
    · have F := F.keeps k
      refine listNil fun s'' D' k' f' P' => ?_
      exact neNil a (P.at fun o e => Keeps.get k' _ o e).isList P'.isList (wpAny_truthy_bool ⟨rfl, F.keeps k'⟩)
  · rw [if_neg (by decide)]
    exact wpAny_execs_nil (h s F)
end
section
variable {prog : Program} {w : World} {A : Around} {E : Value → Shared → Prop} {s₀ s : Shared} {Mut : List Addr} {env : Env} {Γ : Heap → Prop} {m : Str → Option Value} {L fa : Addr} {cd : Value} {N : Nat}

theorem or3C {c1 c2 c3 : Expr} {Q : Bool → Shared → Prop} (_F : Cx s₀ Mut L Γ s m)
    (h1 : wpAny (model prog w) A (isTrue c1 env (eval c1 env)) (fun b s' => b = false ∧ Cx s₀ Mut L Γ s' m) E s) (h2 : ∀ s', Cx s₀ Mut L Γ s' m → wpAny (model prog w) A (isTrue c2 env (eval c2 env)) (fun b s'' => b = false ∧ Cx s₀ Mut L Γ s'' m) E s')
    (h3 : ∀ s', Cx s₀ Mut L Γ s' m → wpAny (model prog w) A (isTrue c3 env (eval c3 env)) (fun b s'' => b = false ∧ Cx s₀ Mut L Γ s'' m) E s') (h : ∀ s', Cx s₀ Mut L Γ s' m → Q false s') :
    wpAny (model prog w) A (allTrue .Or [c1, c2, c3] env) Q E s := by
  refine wpAny_allTrue_Or_cons (wpAny_mono h1 (fun b s' hb => ?_) fun _ _ x => x)
  obtain ⟨rfl, hP⟩ := hb
  rw [if_neg (by decide)]
  refine wpAny_allTrue_Or_cons (wpAny_mono (h2 s' hP) (fun b s'' hb => ?_) fun _ _ x => x)
  obtain ⟨rfl, hP⟩ := hb
  rw [if_neg (by decide)]
  refine wpAny_allTrue_Or_cons (wpAny_mono (h3 s'' hP) (fun b s3 hb => ?_) fun _ _ x => x)
  obtain ⟨rfl, hP⟩ := hb
  rw [if_neg (by decide)]
  exact wpAny_allTrue_Or_nil (h s3 hP)

theorem lenD {d : Addr} {es : Array DictEntry} {ep : Nat} {Q : Value → Shared → Prop} (F : Cx s₀ Mut L Γ s m) (hd : DE s.heap d es ep) (h1 : (d == sysModules) = false) (hz : es.size ≤ 1000)
    (h : ∀ t s', Cx s₀ Mut L Γ s' m → Q (.int es.size t) s') : wpAny (model prog w) A (call (.builtin "len") [.ref d]) Q E s := by
  refine Calls.call_function_entry kind_len plain_len entry_len (args_len1 _) ?_
  obtain ⟨o, ho, hc, hdat⟩ := id hd
  unfold Builtin.«len»
  refine wpAny_bind (m := oneArg "len" _) (wpAny_pure ?_)
  refine wpAny_bind (m := callSpecial? (.ref d) (Str.ofString "__len__")) (wpAny_callSpecial?_slot (name := Str.ofString "__len__") hd.typeIs PySem.F.slot_dict_len
    (wpAny_call_entry PySem.F.slot_dict_len hd.typeIs PySem.F.entry_dict_len ?_ (PySem.F.args_dict_len_1 _)))
  show wpAny _ _ (dictSize d >>= _) _ _ s
  unfold dictSize
  refine wpAny_bind (wpAny_bind (wpAny_dictEntries ho hdat (wpAny_pure ?_)))
  show wpAny _ _ (Builtin.Dict.pendingCount d >>= _) _ _ s
  refine wpAny_bind (wpAny_pendingCount_other h1 ?_)
  refine wpAny_ret_mkInt ?_
  show wpAny _ _ _ _ _ { s with toks := s.toks + 1 }
  refine wpAny_bind (wpAny_holding (wpAny_pure (wpAny_bind (wpAny_letGo ?_))))
  show wpAny _ _ (if ((es.size : Nat) : Int) < 0 then _ else _) _ _ _
  rw [if_neg (by omega)]
  show wpAny _ _ (if ((es.size : Nat) : Int) ≥ 2 ^ 63 then _ else _) _ _ _
  rw [if_neg (by omega)]
  exact wpAny_bind (wpAny_mkInt (wpAny_pure ⟨_, rfl, h _ _ ((F.toks _).toks _)⟩))

theorem oMul {a b : Int} {t u : Tok} {Q : Value → Shared → Prop} (ha : -100000 ≤ a ∧ a ≤ 100000) (hb : -100000 ≤ b ∧ b ≤ 100000) (F : Cx s₀ Mut L Γ s m) (h : ∀ t s', Cx s₀ Mut L Γ s' m → Q (.int (a * b) t) s') : wpAny (model prog w) A (binaryOp .Mult (.int a t) (.int b u)) Q E s := PyProof.Rows.mul_int (h _ _ (F.toks _))

theorem step6 {o d : Addr} {vs : List Value} {ws : List (List Int)} {c : List (Int × Int)} {due K : Int} {t t0 : Tok} {Q : Flow → Shared → Prop} (a : Ak A (N + 12)) (F : Cx s₀ [L] L Γ s m) (hW : ∀ h, Γ h → W0 w h)
    (h1 : m (Str.ofString "many") = some (.int K t0)) (h2 : m (Str.ofString "order") = some (.ref o)) (h3 : m (Str.ofString "calls") = some (.ref d))
    (hO : ∀ h, Γ h → h.PlainList o vs.toArray) (hT : ∀ h, Γ h → TupsI h vs ws) (hD : ∀ h, Γ h → Cnt prog w h d c) (hC : ∀ h, Γ h → h.IsCell (L + 2) (some (.int due t)))
    (hz : ws.length ≤ 500) (hz2 : c.length ≤ 500) (hK : 0 ≤ K ∧ K ≤ 3) (hdue : 0 ≤ due ∧ due ≤ 100)
    (e1 : (c.length : Int) = K + 1) (e2 : sumC c = (ws.length : Int)) (e3 : (ws.length : Int) = due * (K + 1))
    (h : ∀ s', Cx s₀ [L] L Γ s' m → Q .next s') :
    wpAny (model prog w) A (exec (lawBody.getD 5 default) (lawEnv L fa cd)) Q E s := by
  have hlen : vs.length = ws.length := (hT _ F.now).len
  have hne : ∀ x y : Int, x = y → (x != y) = false := fun x y e => by rw [e]; simp
  refine wpAny_If (wpAny_isTrue_BoolOp (or3C F (wpAny_isTrue_Compare1 ?_) (fun s F => wpAny_isTrue_Compare1 ?_) (fun s F => wpAny_isTrue_Compare1 ?_) fun s F => ?_))
  · obtain ⟨g1, xs, ee, hd⟩ := hD _ F.now
    obtain ⟨es, ep, de, l1⟩ := DictOfH.de hd
    have sz : es.size = c.length := by rw [← Array.length_toList, l1, List.length_map, ee.len]
    refine Call_ (ldB (env := lawEnv L fa cd) F hW (g_len w) b_len (PyProof.Rows.callWith_builtin1 (args_cons ?_)))
    refine ldL (env := lawEnv L fa cd) F h3 (args_nil (lenD F de g1 (by omega) fun t1 s1 F => wpAny_BinOp ?_))
    refine ldL (env := lawEnv L fa cd) F h1 (cInt (env := lawEnv L fa cd) F fun t2 s2 F => oAdd F fun t3 s3 F => PyProof.Rows.ne_int (wpAny_truthy_bool ⟨hne _ _ (by rw [sz]; exact e1), F⟩))
  · refine Call_ (ldG (env := lawEnv L fa cd) F hW (fcountcalls w) (callDef rfl rfl (args_cons ?_)))
    refine ldL (env := lawEnv L fa cd) F h3 (args_nil ⟨hW _ F.now, ?_⟩)
    refine countc_spec (n := N) (a.le (by omega)) (hW _ F.now) (hD _ F.now) fun t1 s1 k1 => ?_
    have F := F.keeps k1
    refine Call_ (ldB (env := lawEnv L fa cd) F hW (g_len w) b_len (PyProof.Rows.callWith_builtin1 (args_cons ?_)))
    refine ldL (env := lawEnv L fa cd) F h2 (args_nil (lenL F (hO _ F.now).isList (by omega) fun s2 t2 F _ => PyProof.Rows.ne_int (wpAny_truthy_bool ⟨hne _ _ (by rw [hlen]; exact e2), F⟩)))
  · refine Call_ (ldB (env := lawEnv L fa cd) F hW (g_len w) b_len (PyProof.Rows.callWith_builtin1 (args_cons ?_)))
    refine ldL (env := lawEnv L fa cd) F h2 (args_nil (lenL F (hO _ F.now).isList (by omega) fun s2 t2 F _ => wpAny_BinOp ?_))
    refine ldC (env := lawEnv L fa cd) (c := L + 2) (hC _ F.now) (wpAny_BinOp ?_) rfl
    refine ldL (env := lawEnv L fa cd) F h1 (cInt (env := lawEnv L fa cd) F fun t2 s2 F => oAdd F fun t3 s3 F => oMul (by omega) (by omega) F fun t4 s4 F => PyProof.Rows.ne_int (wpAny_truthy_bool ⟨hne _ _ (by rw [hlen]; exact e3), F⟩))
  · rw [if_neg (by decide)]
    exact wpAny_execs_nil (h s F)
end
section
variable {prog : Program} {w : World} {A : Around} {E : Value → Shared → Prop} {s₀ s : Shared} {Mut : List Addr} {env : Env} {Γ : Heap → Prop} {m : Str → Option Value} {L fa : Addr} {cd : Value} {N : Nat}
theorem Ev.cell {x : Str} {pos : Pos} {c : Addr} {v : Value} (hv : s.heap.IsCell c (some v)) (hc : env.cells.lookup x = some c) (hk : env.scope.kind = .function := by rfl) (hl : env.kindOf x = some .cell := by rfl) (hd : (x == ("__debug__" : Str)) = false := by decide) : Ev prog w env s (.Name x pos) v :=
  fun _ _ _ h => ldC hv h hc hk hl hd

theorem tupOfList {l : Addr} {vs : List Value} {ns : List Int} {Q : Value → Shared → Prop} (hl : s.heap.IsList l vs.toArray) (hi : IntsAre vs ns) (hz : vs.length ≤ 1000)
    (h : ∀ s' v, Keeps s s' → TupI s'.heap v ns → Q v s') : wpAny (model prog w) A (call (.type "tuple") [.ref l]) Q E s := by
  refine call_tuple_list hl (fun h' k => ?_) (by rw [List.size_toArray, sizeLine_eq]; omega)
  refine h _ _ ⟨_, _, rfl, fun b o e => Heap.get?_push_of_some _ (k b o e)⟩ ⟨_, vs, rfl, ⟨_, Heap.get?_push_size _ rfl, rfl, 0, rfl⟩, hi⟩

/-- tuple([0 - step for step in way]) -/
theorem negTup {v : Value} {ns : List Int} {p1 p2 p3 p4 p5 p6 p7 p8 : Pos} {k1 : Nat} {Q : Value → Shared → Prop} (a : Ak A N) (F : Cx s₀ Mut L Γ s m) (hW : ∀ h, Γ h → W0 w h) (hT : TupI s.heap v ns) (hz : ns.length ≤ 100) (hC : s.heap.IsCell (L + 1) (some v))
    (h : ∀ s' v', Keeps s s' → TupI s'.heap v' (ns.map fun x => 0 - x) → Q v' s') :
    wpAny (model prog w) A (eval (.Call (.Name (Str.ofString "tuple") p1) [.ListComp (.BinOp (.Constant (.int 0) k1 p2) .Sub (.Name (Str.ofString "step") p3) p4) [⟨.Name (Str.ofString "step") p5, .Name (Str.ofString "way") p6, [], 0⟩] ⟨.function, [(Str.ofString ".0", .local), (Str.ofString "step", .local)], false, false, []⟩ p7] [] p8) (lawEnv L fa cd)) Q E s := by
  refine Call_ (ldB (env := lawEnv L fa cd) F hW (g_tuple w) b_tuple (PyProof.Rows.callWith_type1 (args_cons ?_)))
  refine listComp [] (closureFor_none (by decide)) rfl (by decide) ?_
  refine ldC (env := lawEnv L fa cd) hC ?_ rfl
  obtain ⟨t, vs, rfl, ht, hi⟩ := hT
  refine compT a.hh ht (by rw [hi.length]; omega) (fun i ys _ => IntsAre ys ((ns.take i).map fun x => 0 - x)) (fun _ => by simpa using IntsAre.nil) (fun _ _ _ _ r _ => r) (fun i v ys C s₁ Γ' mC hB hv hm FC hR => ?_) (fun s' D ys k f P hR => ?_)
  · obtain ⟨n, u, hn, rfl⟩ := ints_at hi hv
    refine wpAny_tests_nil ?_
    rw [if_pos rfl]
    refine wpAny_BinOp (cInt FC fun t1 s1 FC => ldL FC hm (oSub FC fun t2 s2 FC => ⟨FC, ?_⟩))
    rw [take_snoc hn, List.map_append]
    exact hR.append (.cons _ _ .nil)
  · have e : ns.take vs.length = ns := by rw [hi.length, List.take_length]
    rw [e] at hR
    refine args_nil (tupOfList P.isList hR ?_ fun s2 v' k2 T => h s2 v' (Keeps.trans k k2) T)
    rw [hR.length, List.length_map]; omega
end
def downs (x : List Int) : List Nat := (List.range x.length).filter fun k : Nat => decide ((psl x none (some (k : Int)) none).sum < 0)
def others (x : List Int) : List (List Int) := [x.map fun y => 0 - y, psl x none none (some (-1))]
def P7 (K : Nat) (ws : List (List Int)) (x : List Int) : Prop :=
  x.length ≤ 8 ∧ (∀ y ∈ others x, y.length ≤ 8 ∧ bis ws y < ws.length ∧ ws.getD (bis ws y) [] = y ∧ (bel y).2 = 2 * (K : Int) - (bel x).2) ∧ ((bel x).2 == 0) = decide (downs x = [])

section
variable {prog : Program} {w : World} {A : Around} {E : Value → Shared → Prop} {s₀ s : Shared} {Mut : List Addr} {env : Env} {Γ : Heap → Prop} {m : Str → Option Value} {L fa : Addr} {cd : Value} {N : Nat}

theorem step7 {K : Nat} {o : Addr} {vs : List Value} {ws : List (List Int)} {t0 : Tok} {v0 : Option Value} {Q : Flow → Shared → Prop} (hK : K ≤ 3) (a : Ak A (N + 12)) (F : Cx s₀ [L + 1, L] L Γ s m) (hW : ∀ h, Γ h → W0 w h)
    (h1 : m (Str.ofString "many") = some (.int (K : Int) t0)) (h2 : m (Str.ofString "order") = some (.ref o))
    (hO : ∀ h, Γ h → h.PlainList o vs.toArray) (hT : ∀ h, Γ h → TupsI h vs ws) (hC : s.heap.IsCell (L + 1) v0) (hoM : o ∉ [L + 1, L])
    (hz : ws.length ≤ 500) (hP : ∀ x ∈ ws, P7 K ws x)
    (h : ∀ s' m', Cx s₀ [L + 1, L] L Γ s' m' → m' (Str.ofString "many") = some (.int (K : Int) t0) → (∃ v, s'.heap.IsCell (L + 1) v) → Q .next s') :
    wpAny (model prog w) A (exec (lawBody.getD 6 default) (lawEnv L fa cd)) Q E s := by
  have hLC : L ≠ L + 1 := Nat.ne_of_lt (Nat.lt_succ_self _)
  have hCM : L + 1 ∉ [L] := fun hm => hLC (List.mem_singleton.mp hm).symm
  refine wpAny_For ?_
  refine ldL (env := lawEnv L fa cd) F h2 ?_
  refine loopLst (env := lawEnv L fa cd) a.hh F (hO _ F.now).isList hoM (fun i m h => m (Str.ofString "many") = some (.int (K : Int) t0) ∧ m (Str.ofString "order") = some (.ref o) ∧ ∃ v, h.IsCell (L + 1) v) ?_ ?_ ?_ ?_
  · rintro i m h h' q ⟨i1, i2, v, i3⟩
    exact ⟨i1, i2, v, q.cell i3⟩
  · exact ⟨h1, h2, _, hC⟩
  · rintro i v m₁ s2 Γ' hG hi hv ⟨i1, i2, v1, i3⟩ F
    obtain ⟨x, hx, tx⟩ := (hT _ (hG _ F.now)).get i v hv
    obtain ⟨hxl, hoth, hdn⟩ := hP x (List.mem_of_getElem? hx)
    -- way = v
    refine wpAny_assign_Name (wpAny_storeName_cell (env := lawEnv L fa cd) (c := L + 1) rfl rfl rfl i3 fun h3 hc3 hs3 => ?_)
    have b3 : ∀ b o, b ≠ L + 1 → s2.heap.get? b = some o → h3.get? b = some o := fun b o hb e => hs3.extBut b o hb e
    have tx := tx.imm (Imm.of b3 (cell_not_imm i3))
    have F := F.turnAt (tk := s2.toks) (List.mem_cons_self ..) (Ne.symm hLC) b3 (cell_ex hc3)
    have F := F.freeze (fun h => h.IsCell (L + 1) (some v)) hc3 hCM (List.mem_singleton.mpr rfl) (fun h h' q e => let ⟨o, ho, hd⟩ := e; ⟨o, q o ho, hd⟩)
    have hW : ∀ h, (BoxI (L + 1) [L] Γ' h ∧ h.IsCell (L + 1) (some v)) → W0 w h := fun h q => hW h (hG h q.1.now)
    have hO : ∀ h, (BoxI (L + 1) [L] Γ' h ∧ h.IsCell (L + 1) (some v)) → h.PlainList o vs.toArray := fun h q => hO h (hG h q.1.now)
    have hT : ∀ h, (BoxI (L + 1) [L] Γ' h ∧ h.IsCell (L + 1) (some v)) → TupsI h vs ws := fun h q => hT h (hG h q.1.now)
    have hlen : vs.length = ws.length := (hT _ F.now).len
    -- the inner loop
    refine wpAny_execs_cons (wpAny_For (wpAny_List (wpAny_items_cons ?_)))
    refine negTup (N := N + 12) a F hW tx (by omega) F.now.2 fun s4 v1' k4 T4 => wpAny_items_cons ?_
    have F := F.keeps k4
    refine slRev F (Ev.cell F.now.2 rfl) (tx.keeps k4) (by omega) fun s5 v2' F T5 k5 => wpAny_items_nil ⟨by rw [sizeLine_eq]; simp, ?_⟩
    have k6 : Keeps s5 { s5 with heap := s5.heap.push { cls := .type "list", data := .seq [v1', v2'].toArray } } := ⟨_, s5.toks, rfl, fun _ _ e => Heap.get?_push_of_some _ e⟩
    have T6 : TupsI (Shared.heap { s5 with heap := s5.heap.push { cls := .type "list", data := .seq [v1', v2'].toArray } }) [v1', v2'] (others x) := (TupsI.cons (T4.keeps k5) (.cons T5 .nil)).keeps k6
    have P6 : (Shared.heap { s5 with heap := s5.heap.push { cls := .type "list", data := .seq [v1', v2'].toArray } }).PlainList s5.heap.objs.size [v1', v2'].toArray := ⟨0, Heap.get?_push_size _ rfl⟩
    have tx := (tx.keeps (Keeps.trans k4 k5)).keeps k6
    have F := F.keeps k6
    have hlM := F.plain_nin P6
    generalize { s5 with heap := s5.heap.push { cls := .type "list", data := .seq [v1', v2'].toArray } } = s6 at F T6 P6 tx hlM ⊢
    generalize s5.heap.objs.size = lo at P6 hlM ⊢
    have F := (F.tups T6)
    have tv : ∀ h, ((BoxI (L + 1) [L] Γ' h ∧ h.IsCell (L + 1) (some v)) ∧ TupsI h [v1', v2'] (others x)) → TupI h v x := fun h q => by
      obtain ⟨x', hx', t'⟩ := (hT h q.1).get i v hv
      obtain rfl : x = x' := Option.some.inj (hx.symm.trans hx')
      exact t'
    refine loopLst (env := lawEnv L fa cd) a.hh F P6.isList hlM (fun i m h => m (Str.ofString "many") = some (.int (K : Int) t0) ∧ m (Str.ofString "order") = some (.ref o)) (fun i m h h' _ q => q) ⟨i1, i2⟩ ?_ ?_
    · rintro j vy m₂ s7 Γ2 hG2 hj hvy ⟨j1, j2⟩ F
      obtain ⟨y, hy, ty⟩ := (hG2 _ F.now).2.get j vy hvy
      obtain ⟨hyl, hb1, hb2, hb3⟩ := hoth y (List.mem_of_getElem? hy)
      refine wpAny_assign_Name (stL (env := lawEnv L fa cd) F fun s8 F => ?_)
      have hW2 : ∀ h, Γ2 h → W0 w h := fun h q => hW h (hG2 h q).1
      have hO2 : ∀ h, Γ2 h → h.PlainList o vs.toArray := fun h q => hO h (hG2 h q).1
      have hT2 : ∀ h, Γ2 h → TupsI h vs ws := fun h q => hT h (hG2 h q).1
      have hC2 : ∀ h, Γ2 h → h.IsCell (L + 1) (some v) := fun h q => (hG2 h q).1.2
      have hx2 : ∀ h, Γ2 h → TupI h v x := fun h q => tv h (hG2 h q)
      have hy2 : ∀ h, Γ2 h → TupI h vy y := fun h q => by
        obtain ⟨y', hy', t'⟩ := (hG2 h q).2.get j vy hvy
        obtain rfl : y = y' := Option.some.inj (hy.symm.trans hy')
        exact t'
      -- place = bisect_left(order, other)
      refine wpAny_execs_cons (wpAny_Assign_Name (Call_ ?_))
      refine ldG (env := lawEnv L fa cd) F hW2 (fbisectleft w) (callDef rfl rfl (args_cons ?_))
      refine ldL (env := lawEnv L fa cd) F (v := .ref o) (by walk_at "lk") (args_cons (ldL (env := lawEnv L fa cd) F (v := vy) (by walk_at "lk") (args_nil ⟨hW2 _ F.now, ?_⟩)))
      refine bis_spec (n := N) (t0 := 202) (a.le (by omega)) (hW2 _ F.now) (hO2 _ F.now).isList (hT2 _ F.now) (hy2 _ F.now) hz (.inl ⟨rfl, rfl⟩) fun tp s9 k9 => ?_
      refine stL (env := lawEnv L fa cd) (F.keeps k9) fun s10 F => ?_
      have hne : ∀ x y : Int, x = y → (x != y) = false := fun x y e => by rw [e]; simp
      refine wpAny_execs_cons (wpAny_If (wpAny_isTrue_BoolOp (or3C F (wpAny_isTrue_Compare1 ?_) (fun s F => wpAny_isTrue_Compare1 ?_) (fun s F => wpAny_isTrue_Compare1 ?_) fun s F => ?_)))
      · refine ldL (env := lawEnv L fa cd) F (v := .int (bis ws y) tp) (by walk_at "lk") (Call_ (ldB (env := lawEnv L fa cd) F hW2 (g_len w) b_len (PyProof.Rows.callWith_builtin1 (args_cons ?_))))
        refine ldL (env := lawEnv L fa cd) F (v := .ref o) (by walk_at "lk") (args_nil (lenL F (hO2 _ F.now).isList (by omega) fun s2 t2 F _ => PyProof.Rows.eq_int (wpAny_truthy_bool ⟨?_, F⟩)))
        rw [hlen]
        have : ((bis ws y : Nat) : Int) ≠ (ws.length : Int) := by omega
        simpa using this
      · refine itemL (Ev.loc (env := lawEnv L fa cd) F (v := .ref o) (by walk_at "lk")) (Ev.loc (env := lawEnv L fa cd) F (v := .int (bis ws y) tp) (by walk_at "lk")) rfl (hO2 _ F.now).isList (hT2 _ F.now) hb1 (by omega) fun vz tz => ?_
        rw [hb2] at tz
        refine ldL (env := lawEnv L fa cd) F (v := vy) (by walk_at "lk") (neT a.u1 tz (hy2 _ F.now) (wpAny_truthy_bool ⟨by simp, F⟩))
      · refine Call_ (ldG (env := lawEnv L fa cd) F hW2 (flawbelow w) (callDef rfl rfl (args_cons ?_)))
        refine ldL (env := lawEnv L fa cd) F (v := vy) (by walk_at "lk") (args_nil ⟨hW2 _ F.now, ?_⟩)
        refine below_spec (n := N) (a.le (by omega)) (hW2 _ F.now) (hy2 _ F.now) fun t1 s1 k1 => ?_
        have F := F.keeps k1
        refine wpAny_BinOp (wpAny_BinOp (cInt (env := lawEnv L fa cd) F fun t2 s2 F => ?_))
        refine ldL (env := lawEnv L fa cd) F (v := .int (K : Int) t0) (by walk_at "lk") (oMul (by omega) (by omega) F fun t3 s3 F => ?_)
        refine Call_ (ldG (env := lawEnv L fa cd) F hW2 (flawbelow w) (callDef rfl rfl (args_cons ?_)))
        refine ldC (env := lawEnv L fa cd) (hC2 _ F.now) (args_nil ⟨hW2 _ F.now, ?_⟩) rfl
        refine below_spec (n := N) (a.le (by omega)) (hW2 _ F.now) (hx2 _ F.now) fun t4 s4 k4 => ?_
        exact oSub (F.keeps k4) fun t5 s5 F => PyProof.Rows.ne_int (wpAny_truthy_bool ⟨hne _ _ hb3, F⟩)
      · rw [if_neg (by decide)]
        exact wpAny_execs_nil (wpAny_execs_nil ⟨rfl, _, F, by walk_at "lk", by walk_at "lk"⟩)
    · rintro m₂ s7 ⟨j1, j2⟩ F
      show wpAny _ _ _ _ _ _
      refine wpAny_execs_cons (wpAny_If (wpAny_isTrue_Compare1 (wpAny_Compare1 ?_)))
      have hW2 := hW _ F.now.1
      refine Call_ (ldG (env := lawEnv L fa cd) F (fun h q => hW h q.1) (flawbelow w) (callDef rfl rfl (args_cons ?_)))
      refine ldC (env := lawEnv L fa cd) F.now.1.2 (args_nil ⟨hW _ F.now.1, ?_⟩) rfl
      refine below_spec (n := N) (a.le (by omega)) (hW _ F.now.1) (tv _ F.now) fun t1 s1 k1 => ?_
      have F := F.keeps k1
      refine cInt (env := lawEnv L fa cd) F fun t2 s2 F => PyProof.Rows.eq_int (wpAny_Compare1 ?_)
      -- the ways down
      refine listComp [(Str.ofString "way", L + 1)] rfl rfl (by decide) (Call_ ?_)
      refine ldB (env := lawEnv L fa cd) F (fun h q => hW h q.1) (g_range w) b_range (PyProof.Rows.callWith_type1 (args_cons (Call_ ?_)))
      refine ldB (env := lawEnv L fa cd) F (fun h q => hW h q.1) (g_len w) b_len (PyProof.Rows.callWith_builtin1 (args_cons ?_))
      refine ldC (env := lawEnv L fa cd) F.now.1.2 (args_nil (lenT F (tv _ F.now) (by omega) fun s3 t3 F _ => args_nil (rng1 F fun s4 r tr ur vr F hr => ?_))) rfl
      have hcx := F.now.1.2
      have htx := tv _ F.now
      have hWx := hW _ F.now.1
      refine compR (n := x.length) a.hh hr (by omega) (by omega) (fun i ys _ => ys.length = ((List.range i).filter fun k : Nat => decide ((psl x none (some (k : Int)) none).sum < 0)).length) (fun _ => rfl) (fun _ _ _ _ r _ => r) (fun i tk ys C s₁ Γ3 mC hB hi hm FC hR => ?_) (fun s5 D ys k5 f5 P5 hR => ?_)
      · rw [Int.zero_add] at hm
        refine wpAny_tests_one (wpAny_isTrue_Compare1 (Call_ ?_))
        refine ldB FC (fun h q => hWx.keeps (hB h q)) (g_sum w) b_sum (PyProof.Rows.callWith_builtin1 (args_cons ?_))
        refine slTo FC (Ev.cell (hcx.keeps (hB _ FC.now)) rfl) (Ev.loc FC hm) (htx.base (hB _ FC.now)) (by omega) fun s6 v6 FC T6' k6 => args_nil ?_
        obtain ⟨t7, vs7, rfl, ht7, hi7⟩ := T6'
        refine sumTup a.hh ht7 hi7 fun t8 s8 k8 => ?_
        refine cInt (FC.keeps k8) fun t9 s9 FC => PyProof.Rows.lt_int (wpAny_truthy_bool ?_)
        rw [List.range_succ, List.filter_append]
        by_cases hd : (psl x none (some (i : Int)) none).sum < 0
        · rw [if_pos (by simpa using hd)]
          refine ldL FC hm ⟨FC, ?_⟩
          rw [List.length_append, List.length_append, hR]
          simp [hd]
        · rw [if_neg (by simpa using hd)]
          refine ⟨FC, ?_⟩
          rw [List.length_append, hR]
          simp [hd]
      · have F := F.keeps k5
        refine listNil fun s6 D6 k6 f6 P6' => ?_
        have F := F.keeps k6
        refine eqNil a (P5.at fun o e => Keeps.get k6 _ o e).isList P6'.isList ?_
        have e : decide (ys = []) = decide (downs x = []) := by
          have h1 : ys.length = (downs x).length := hR
          by_cases hy : ys = []
          · subst hy
            have : downs x = [] := List.length_eq_zero_iff.mp h1.symm
            simp [this]
          · have : downs x ≠ [] := fun e => hy (List.length_eq_zero_iff.mp (by rw [h1, e]; rfl))
            simp [hy, this]
        rw [e, hdn]
        refine PyProof.Rows.ne_bool (wpAny_truthy_bool ?_)
        rw [show (decide (downs x = []) != decide (downs x = [])) = false by simp]
        rw [if_neg (by decide)]
        refine wpAny_execs_nil (wpAny_execs_nil ⟨rfl, _, F.thaw (fun h q => q.1.1) (cell_ex F.now.1.2), j1, j2, _, F.now.1.2⟩)
  · rintro m₁ s2 ⟨i1, i2, i3⟩ F
    exact h s2 m₁ F i1 i3
end
abbrev scW : Scope := ⟨.function, [(Str.ofString ".0", .local), (Str.ofString "way", .cell), (Str.ofString "range", .globalImplicit), (Str.ofString "len", .globalImplicit)], false, false, []⟩

section
variable {prog : Program} {w : World} {A : Around} {E : Value → Shared → Prop} {s₀ s : Shared} {Mut : List Addr} {env : Env} {Γ : Heap → Prop} {m : Str → Option Value} {L fa : Addr} {cd : Value} {N : Nat}
theorem newEnvW {g : Addr} {qual : Str} {Q : Env → Shared → Prop}
    (h : Q { scope := scW, locals := s.heap.objs.size, globals := g, cells := [(Str.ofString "way", s.heap.objs.size + 1)], qual := qual, func := none, code := env.code, frame := env.frame, builtins := env.builtins }
      { s with heap := (s.heap.push { cls := .type "dict", data := .dict #[] }).push { cls := .type "cell", data := .cell none } }) :
    wpAny (model prog w) A (newFunctionEnv scW g [] [] qual none .none (some env)) Q E s := by
  unfold newFunctionEnv
  refine wpAny_bind (wpAny_alloc ?_)
  have z : (s.heap.push { cls := .type "dict", data := .dict #[] }).objs.size = s.heap.objs.size + 1 := Heap.size_push ..
  simp only [scW, List.forIn_cons, List.forIn_nil]
  have n1 : ¬ (NameKind.local == NameKind.cell) = true := by decide
  have n2 : ¬ (NameKind.globalImplicit == NameKind.cell) = true := by decide
  have y1 : (NameKind.cell == NameKind.cell) = true := by decide
  simp only [if_neg n1, if_pos y1, if_neg n2]
  refine wpAny_bind (wpAny_bind (wpAny_pure (wpAny_bind (wpAny_bind (wpAny_alloc (wpAny_pure (wpAny_bind (wpAny_pure (wpAny_bind (wpAny_pure (wpAny_pure (wpAny_bind (wpAny_pure (wpAny_pure ?_))))))))))))))
  show Q _ _
  rw [← z] at h
  exact h

/-- [way for way in list if c], way a cell -/
theorem compCell {iter c : Expr} {pe px pos : Pos} {l : Addr} {vs : List Value} {T : Nat → Bool} {Q : Value → Shared → Prop}
    (hA : A.handled = none) (hl : s.heap.IsList l vs.toArray) (hn : vs.length ≤ 1000)
    (turn : ∀ (i : Nat) v C Cw s₁ Γ' m, (∀ h, Γ' h → Base s h ∧ h.IsCell Cw (some v)) → vs[i]? = some v → Cx s [C] C Γ' s₁ m →
      wpAny (model prog w) A (isTrue c (compEnvC scW [(Str.ofString "way", Cw)] C env) (eval c (compEnvC scW [(Str.ofString "way", Cw)] C env))) (fun ok s₃ => ok = T i ∧ Cx s [C] C Γ' s₃ m) (fun _ _ => False) s₁)
    (fin : ∀ s' D ys, Keeps s s' → s.heap.get? D = none → s'.heap.PlainList D (List.toArray ys) → ys.length = ((List.range vs.length).filter T).length → Q (.ref D) s') :
    wpAny (model prog w) A (pyIter (.ref l)) (fun it s₂ => wpAny (model prog w) A (newList []) (fun acc s₃ => wpAny (model prog w) A (newFunctionEnv scW env.globals [] [] env.qual none .none (some env)) (fun cenv s₄ =>
      codeAny (model prog w) A (.compStart (.ListComp (.Name (Str.ofString "way") pe) [⟨.Name (Str.ofString "way") px, iter, [c], 0⟩] scW pos) 0 it acc { cenv with scope := relabel scW env }) (compPost (model prog w) A E none Q acc cenv.locals) s₄) E s₃) E s₂) E s := by
  have hne : l ≠ s.heap.objs.size := let ⟨_, ho, _⟩ := hl; Nat.ne_of_lt (Heap.lt_size ho)
  refine wpAny_pyIter_list hl ?_
  refine wpAny_newObj_type (newEnvW ?_)
  have z1 : (s.heap.push { cls := .type "list_iterator", data := .fields #[.ref l, .int 0 0] }).objs.size = s.heap.objs.size + 1 := Heap.size_push ..
  have i1 : (s.heap.push { cls := .type "list_iterator", data := .fields #[.ref l, .int 0 0] }).IsListIter s.heap.objs.size l 0 := ⟨_, Heap.get?_push_size _ rfl, rfl, rfl⟩
  have k1 : ∀ b o, s.heap.get? b = some o → (s.heap.push { cls := .type "list_iterator", data := .fields #[.ref l, .int 0 0] }).get? b = some o := fun b o e => Heap.get?_push_of_some _ e
  dsimp only
  generalize s.heap.push { cls := .type "list_iterator", data := .fields #[.ref l, .int 0 0] } = H1 at z1 i1 k1 ⊢
  have z2 : (H1.push { cls := .type "list", dict := none, data := .seq ([] : List Value).toArray }).objs.size = s.heap.objs.size + 2 := by rw [Heap.size_push, z1]
  have p2 : (H1.push { cls := .type "list", dict := none, data := .seq ([] : List Value).toArray }).PlainList H1.objs.size #[] := ⟨0, Heap.get?_push_size _ rfl⟩
  have k2 : ∀ b o, H1.get? b = some o → (H1.push { cls := .type "list", dict := none, data := .seq ([] : List Value).toArray }).get? b = some o := fun b o e => Heap.get?_push_of_some _ e
  generalize H1.push { cls := .type "list", dict := none, data := .seq ([] : List Value).toArray } = H2 at z2 p2 k2 ⊢
  have z3 : (H2.push { cls := .type "dict", data := .dict #[] }).objs.size = H2.objs.size + 1 := Heap.size_push ..
  have n3 : ((H2.push { cls := .type "dict", data := .dict #[] }).push { cls := .type "cell", data := .cell none }).Ns H2.objs.size (fun _ => none) := (Heap.Ns.new H2 (.type "dict")).push _
  have c3 : ((H2.push { cls := .type "dict", data := .dict #[] }).push { cls := .type "cell", data := .cell none }).IsCell (H2.objs.size + 1) none := by
    rw [← z3]; exact ⟨_, Heap.get?_push_size _ rfl, rfl⟩
  have k3 : ∀ b o, H2.get? b = some o → ((H2.push { cls := .type "dict", data := .dict #[] }).push { cls := .type "cell", data := .cell none }).get? b = some o := fun b o e => Heap.get?_push_of_some _ (Heap.get?_push_of_some _ e)
  generalize (H2.push { cls := .type "dict", data := .dict #[] }).push { cls := .type "cell", data := .cell none } = h₁ at n3 c3 k3 ⊢
  have hI : s.heap.get? s.heap.objs.size = none := Heap.get?_none_of_le (Nat.le_refl _)
  have hD : s.heap.get? H1.objs.size = none := Heap.get?_none_of_le (by rw [z1]; exact Nat.le_succ _)
  have hC : s.heap.get? H2.objs.size = none := Heap.get?_none_of_le (by rw [z2]; exact Nat.le_add_right _ _)
  have a1 : ∀ n : Nat, n ≤ n + 2 + 1 := by omega
  have a2 : ∀ n : Nat, n ≠ n + 2 + 1 := by omega
  have a3 : ∀ n : Nat, n + 1 ≠ n + 2 + 1 := by omega
  have hW : s.heap.get? (H2.objs.size + 1) = none := Heap.get?_none_of_le (by rw [z2]; exact a1 _)
  have hDC : H1.objs.size ≠ H2.objs.size := by rw [z1, z2]; exact Nat.ne_of_lt (Nat.lt_succ_self _)
  have hIC : s.heap.objs.size ≠ H2.objs.size := by rw [z2]; exact Nat.ne_of_lt (Nat.lt_add_of_pos_right (by decide))
  have hID : s.heap.objs.size ≠ H1.objs.size := by rw [z1]; exact Nat.ne_of_lt (Nat.lt_succ_self _)
  have hDW : H1.objs.size ≠ H2.objs.size + 1 := by rw [z1, z2]; exact a3 _
  have hIW : s.heap.objs.size ≠ H2.objs.size + 1 := by rw [z2]; exact a2 _
  have hCW : H2.objs.size ≠ H2.objs.size + 1 := Nat.ne_of_lt (Nat.lt_succ_self _)
  generalize s.heap.objs.size = I at hne i1 hI hIC hID hIW ⊢
  generalize H1.objs.size = D at p2 hD hDC hID hDW ⊢
  generalize H2.objs.size + 1 = Cw at c3 hW hDW hIW hCW ⊢
  generalize H2.objs.size = C at n3 hC hDC hIC hCW ⊢
  have cne : ∀ b o, s.heap.get? b = some o → b ≠ I ∧ b ≠ D ∧ b ≠ C ∧ b ≠ Cw := fun b o e => ⟨fun x => (by rw [x, hI] at e; cases e), fun x => (by rw [x, hD] at e; cases e), fun x => (by rw [x, hC] at e; cases e), fun x => (by rw [x, hW] at e; cases e)⟩
  have base₁ : ∀ b o, s.heap.get? b = some o → h₁.get? b = some o := fun b o e => k3 b o (k2 b o (k1 b o e))
  have it₁ : h₁.IsListIter I l 0 := i1.at fun o e => k3 I o (k2 I o e)
  have acc₁ : h₁.PlainList D #[] := p2.at fun o e => k3 D o e
  have ln : ∀ h : Heap, (∀ b o, s.heap.get? b = some o → h.get? b = some o) → h.IsList l vs.toArray := fun h q => hl.at fun o e => q l o e
  have mkCx : ∀ (h : Heap) (tk : Nat) (mC : Str → Option Value), h.Ns C mC → (∀ b o, s.heap.get? b = some o → h.get? b = some o) → Cx s [C] C (Base s) { s with heap := h, toks := tk } mC := by
    intro h tk mC hN hk
    refine ⟨⟨h, tk, rfl⟩, hN, fun h' q b o e => q b o (fun hb => (cne b o e).2.2.1 (List.mem_singleton.mp hb)) (hk b o e), by simp, fun b hb => ?_⟩
    rw [List.mem_singleton.mp hb]
    obtain ⟨o, es, ep, ho, hd, _⟩ := hN
    exact ⟨o, ho, fun xs n e => by rw [hd] at e; cases e⟩
  have W := Walks.list (prog := prog) (w := w) hA I l hne vs.toArray
  rw [List.size_toArray] at W
  have sI : ∀ b o, s.heap.get? b = some o → b ∉ [I] := fun b o e h => (cne b o e).1 (List.mem_singleton.mp h)
  have nI : ∀ x : Addr, I ≠ x → x ∉ [I] := fun x hx h => hx (List.mem_singleton.mp h).symm
  have nC : ∀ x : Addr, x ≠ C → x ∉ [C] := fun x hx h => hx (List.mem_singleton.mp h)
  have cnt : ∀ i, ((List.range i).filter T).length ≤ i := fun i => Nat.le_trans (List.length_filter_le ..) (by simp)
  have loop : ∀ s₃ : Shared, s₃ = { s with heap := h₁ } →
      codeAny (model prog w) A (.compLoop (.ListComp (.Name (Str.ofString "way") pe) [⟨.Name (Str.ofString "way") px, iter, [c], 0⟩] scW pos) 0 (.ref I) (.ref D) (compEnvC scW [(Str.ofString "way", Cw)] C env)) (compPost (model prog w) A E none Q (.ref D) C) s₃ := by
    rintro s₃ rfl
    refine kct_loop (fun k s' => ∃ i ys v0 mC, i ≤ vs.length ∧ k = vs.length + 1 - i ∧ ys.length = ((List.range i).filter T).length ∧ s'.heap.IsListIter I l i ∧ s'.heap.PlainList D (List.toArray ys) ∧ s'.heap.IsCell Cw v0 ∧ (∃ h tk, s' = { s with heap := h, toks := tk } ∧ h.Ns C mC ∧ ∀ b o, s.heap.get? b = some o → h.get? b = some o)) ?_ (vs.length + 1)
      ⟨0, [], none, _, Nat.zero_le _, rfl, rfl, it₁, acc₁, c3, h₁, s.toks, rfl, n3, base₁⟩
    rintro k s' ⟨i, ys, v0, mC, hi, rfl, hyl, hit, hacc, hcell, h', tk', rfl, hns, hb⟩
    by_cases hlt : i < vs.length
    · refine W.item i _ _ _ hlt ⟨hit, ln h' hb⟩ fun v h2 tk2 hv hst2 hk2 => ?_
      have hv : vs[i]? = some v := by simpa using hv
      have kk : ∀ x o, I ≠ x → h'.get? x = some o → h2.get? x = some o := fun x o hx e => hk2 x o (nI x hx) e
      refine wpAny_of_eq (a := ()) rfl ?_
      refine wpAny_assign_Name (wpAny_storeName_cell (env := compEnvC scW [(Str.ofString "way", Cw)] C env) (c := Cw) rfl rfl rfl (hcell.imp fun o e => ⟨kk Cw o hIW e.1, e.2⟩) fun h3 hc3 hs3 => ?_)
      have b3 : ∀ b o, b ≠ Cw → h2.get? b = some o → h3.get? b = some o := fun b o hb e => hs3.extBut b o hb e
      have F3 := mkCx h3 tk2 mC (hns.at' fun o e => b3 C o hCW (kk C o hIC e)) fun b o e => b3 b o (cne b o e).2.2.2 (hk2 b o (sI b o e) (hb b o e))
      have it3 : h3.IsListIter I l (i + 1) := hst2.1.at fun o e => b3 I o hIW e
      have acc3 : h3.PlainList D (List.toArray ys) := hacc.at fun o e => b3 D o hDW (kk D o hID e)
      have F4 := F3.and (Γ' := fun h => h.IsCell Cw (some v) ∧ h.IsListIter I l (i + 1) ∧ h.PlainList D (List.toArray ys)) fun h' q =>
        ⟨hc3.imp fun o e => ⟨q Cw o (nC Cw (Ne.symm hCW)) e.1, e.2⟩, it3.at fun o e => q I o (nC I hIC) e, acc3.at fun o e => q D o (nC D hDC) e⟩
      refine wpAny_mono (turn i v C Cw _ _ mC (fun h q => ⟨q.1, q.2.1⟩) hv F4) (fun ok s8 h8 => ?_) fun _ _ x => x.elim
      obtain ⟨rfl, F8⟩ := h8
      obtain ⟨b8, c8, it8, acc8⟩ := F8.now
      have hr : ((List.range (i + 1)).filter T).length = ((List.range i).filter T).length + if T i = true then 1 else 0 := by
        rw [List.range_succ, List.filter_append, List.length_append]
        by_cases hT : T i = true <;> simp [hT]
      by_cases hT : T i = true
      · rw [if_pos hT]
        refine ldC (env := compEnvC scW [(Str.ofString "way", Cw)] C env) c8 ?_ rfl
        refine wpAny_list_append_plain (hsz := by rw [List.size_toArray, sizeLine_eq]; have := cnt i; omega) acc8 fun h9 acc9 hs9 => ?_
        obtain ⟨hh8, tk8, rfl⟩ := F8.same
        have b9 : ∀ b o, b ≠ D → hh8.get? b = some o → h9.get? b = some o := fun b o hb e => hs9.extBut b o hb e
        refine ⟨vs.length + 1 - (i + 1), by omega, i + 1, ys ++ [v], some v, mC, hlt, rfl, ?_, it8.at fun o e => b9 I o hID e, ?_, c8.imp fun o e => ⟨b9 Cw o (Ne.symm hDW) e.1, e.2⟩, h9, tk8, rfl, F8.ns.at' fun o e => b9 C o (Ne.symm hDC) e, fun b o e => b9 b o (cne b o e).2.1 (b8 b o e)⟩
        · rw [hr, if_pos hT, List.length_append, hyl]; rfl
        · have e7 : (List.toArray ys).push v = List.toArray (ys ++ [v]) := by simp
          rw [← e7]; exact acc9
      · rw [if_neg hT]
        obtain ⟨hh8, tk8, rfl⟩ := F8.same
        exact ⟨vs.length + 1 - (i + 1), by omega, i + 1, ys, some v, mC, hlt, rfl, by rw [hr, if_neg hT, hyl]; rfl, it8, acc8, c8, hh8, tk8, rfl, F8.ns, b8⟩
    · have hin : i = vs.length := by omega
      subst hin
      refine W.done _ _ _ ⟨hit, ln h' hb⟩ fun h2 tk2 hk2 => ?_
      refine ⟨mC, hns.at' fun o e => hk2 C o (nI C hIC) e, fun h4 hsb4 => ?_⟩
      exact fin _ D ys ⟨h4, tk2, rfl, fun b o e => hsb4.extBut b o (cne b o e).2.2.1 (hk2 b o (sI b o e) (hb b o e))⟩ hD (hacc.at fun o e => hsb4.extBut D o hDC (hk2 D o (nI D hID) e)) hyl
  exact codeAny_compStart_list (loop _ rfl) (wpAny_pyIter_listiter (s := { s with heap := h₁ }) it₁ (loop _ rfl))
end
def lows (x : List Int) : List Nat := (List.range x.length).filter fun k : Nat => decide ((psl x none (some (1 + (k : Int))) none).sum ≤ 0)
def aboves (ws : List (List Int)) : Nat := ((List.range ws.length).filter fun i => decide (lows (ws.getD i []) = [])).length
def P8 (K q : Nat) : Prop := (∀ x ∈ ways (2 * K + q) (K + q) K, good x = (q : Int)) ∧ (aboves (ways (2 * K + q) (K + q) K) : Int) * (2 * (K : Int) + q) = q * ((ways (2 * K + q) (K + q) K).length : Int)

section
variable {prog : Program} {w : World} {A : Around} {E : Value → Shared → Prop} {s₀ s : Shared} {Mut : List Addr} {env : Env} {Γ : Heap → Prop} {m : Str → Option Value} {L fa : Addr} {cd : Value} {N : Nat}

/-- the test of the last comprehension: [k for k in range(1, len(way) + 1) if sum(way[:k]) <= 0] == [] -/
theorem lowTest {x : List Int} {v : Value} {C Cw : Addr} {p1 p2 p3 p4 p5 p6 p7 p8 p9 p10 p11 p12 p13 p14 p15 p16 p17 p18 p19 p20 p21 : Pos} {k1 k2 k3 : Nat} {Q : Bool → Shared → Prop} (a : Ak A N)
    (F : Cx s₀ Mut C Γ s m) (hW : ∀ h, Γ h → W0 w h) (hC : ∀ h, Γ h → h.IsCell Cw (some v)) (hT : ∀ h, Γ h → TupI h v x) (hz : x.length ≤ 50)
    (h : ∀ s', Cx s₀ Mut C Γ s' m → Q (decide (lows x = [])) s') :
    wpAny (model prog w) A (isTrue (.Compare (.ListComp (.Name (Str.ofString "k") p1) [⟨.Name (Str.ofString "k") p2, .Call (.Name (Str.ofString "range") p3) [.Constant (.int 1) k1 p4, .BinOp (.Call (.Name (Str.ofString "len") p5) [.Name (Str.ofString "way") p6] [] p7) .Add (.Constant (.int 1) k2 p8) p9] [] p10,
        [.Compare (.Call (.Name (Str.ofString "sum") p11) [.Subscript (.Name (Str.ofString "way") p12) (.Slice none (some (.Name (Str.ofString "k") p13)) none p14) p15] [] p16) [.LtE] [.Constant (.int 0) k3 p17] p18], 0⟩]
        ⟨.function, [(Str.ofString ".0", .local), (Str.ofString "k", .local), (Str.ofString "sum", .globalImplicit), (Str.ofString "way", .free)], false, false, []⟩ p19) [.Eq] [.List [] p20] p21) (compEnvC scW [(Str.ofString "way", Cw)] C (lawEnv L fa cd))
      (eval (.Compare (.ListComp (.Name (Str.ofString "k") p1) [⟨.Name (Str.ofString "k") p2, .Call (.Name (Str.ofString "range") p3) [.Constant (.int 1) k1 p4, .BinOp (.Call (.Name (Str.ofString "len") p5) [.Name (Str.ofString "way") p6] [] p7) .Add (.Constant (.int 1) k2 p8) p9] [] p10,
        [.Compare (.Call (.Name (Str.ofString "sum") p11) [.Subscript (.Name (Str.ofString "way") p12) (.Slice none (some (.Name (Str.ofString "k") p13)) none p14) p15] [] p16) [.LtE] [.Constant (.int 0) k3 p17] p18], 0⟩]
        ⟨.function, [(Str.ofString ".0", .local), (Str.ofString "k", .local), (Str.ofString "sum", .globalImplicit), (Str.ofString "way", .free)], false, false, []⟩ p19) [.Eq] [.List [] p20] p21) (compEnvC scW [(Str.ofString "way", Cw)] C (lawEnv L fa cd)))) Q E s := by
  refine wpAny_isTrue_Compare1 ?_
  refine listComp [(Str.ofString "way", Cw)] rfl rfl (by decide) (Call_ ?_)
  refine ldB (env := compEnvC scW [(Str.ofString "way", Cw)] C (lawEnv L fa cd)) F hW (g_range w) b_range (PyProof.Rows.callWith_type1 (args_cons ?_))
  refine cIntK F fun t1 s1 F k1 => args_cons (wpAny_BinOp (Call_ ?_))
  refine ldB (env := compEnvC scW [(Str.ofString "way", Cw)] C (lawEnv L fa cd)) F hW (g_len w) b_len (PyProof.Rows.callWith_builtin1 (args_cons ?_))
  refine ldC (hC _ F.now) (args_nil (lenT F (hT _ F.now) (by omega) fun s2 t2 F k2 => cInt F fun t3 s3 F => oAdd F fun t4 s4 F => args_nil (rng2 F fun s5 r tr ur vr F hr => ?_))) rfl
  have hcx := hC _ F.now
  have htx := hT _ F.now
  have hWx := hW _ F.now
  refine compR (n := x.length) a.hh hr (by omega) (by omega) (fun i ys _ => ys.length = ((List.range i).filter fun k : Nat => decide ((psl x none (some (1 + (k : Int))) none).sum ≤ 0)).length) (fun _ => rfl) (fun _ _ _ _ r _ => r) (fun i tk ys C2 s₁ Γ3 mC hB hi hm FC hR => ?_) (fun s5 D ys k5 f5 P5 hR => ?_)
  · refine wpAny_tests_one (wpAny_isTrue_Compare1 (Call_ ?_))
    refine ldB FC (fun h q => hWx.keeps (hB h q)) (g_sum w) b_sum (PyProof.Rows.callWith_builtin1 (args_cons ?_))
    refine slTo FC (Ev.cell (hcx.keeps (hB _ FC.now)) rfl) (Ev.loc FC hm) (htx.base (hB _ FC.now)) (by omega) fun s6 v6 FC T6' k6 => args_nil ?_
    obtain ⟨t7, vs7, rfl, ht7, hi7⟩ := T6'
    refine sumTup a.hh ht7 hi7 fun t8 s8 k8 => ?_
    refine cInt (FC.keeps k8) fun t9 s9 FC => PyProof.Rows.le_int (wpAny_truthy_bool ?_)
    rw [List.range_succ, List.filter_append]
    by_cases hd : (psl x none (some (1 + (i : Int))) none).sum ≤ 0
    · rw [if_pos (by simpa using hd)]
      refine ldL FC hm ⟨FC, ?_⟩
      rw [List.length_append, List.length_append, hR]
      simp [hd]
    · rw [if_neg (by simpa using hd)]
      refine ⟨FC, ?_⟩
      rw [List.length_append, hR]
      simp [hd]
  · have F := F.keeps k5
    refine listNil fun s6 D6 k6 f6 P6' => ?_
    have F := F.keeps k6
    refine eqNil a (P5.at fun o e => Keeps.get k6 _ o e).isList P6'.isList (wpAny_truthy_bool ?_)
    have e : decide (ys = []) = decide (lows x = []) := by
      have h1 : ys.length = (lows x).length := hR
      by_cases hy : ys = []
      · subst hy
        have : lows x = [] := List.length_eq_zero_iff.mp h1.symm
        simp [this]
      · have : lows x ≠ [] := fun e => hy (List.length_eq_zero_iff.mp (by rw [h1, e]; rfl))
        simp [hy, this]
    rw [e]
    exact h s6 F
end
section
variable {prog : Program} {w : World} {A : Around} {E : Value → Shared → Prop} {s₀ s : Shared} {Mut : List Addr} {env : Env} {Γ : Heap → Prop} {m : Str → Option Value} {L fa : Addr} {cd : Value} {N : Nat}

theorem step8 {K : Nat} {t0 : Tok} {v0 : Option Value} {Q : Flow → Shared → Prop} (hK : K ≤ 3) (a : Ak A (N + 12)) (F : Cx s₀ [L + 3, L] L Γ s m) (hW : ∀ h, Γ h → W0 w h)
    (h1 : m (Str.ofString "many") = some (.int (K : Int) t0)) (hC : s.heap.IsCell (L + 3) v0) (hP1 : P8 K 1) (hP2 : P8 K 2)
    (h : ∀ s' m', Cx s₀ [L + 3, L] L Γ s' m' → Q .next s') :
    wpAny (model prog w) A (exec (lawBody.getD 7 default) (lawEnv L fa cd)) Q E s := by
  have hLC : L ≠ L + 3 := Nat.ne_of_lt (Nat.lt_add_of_pos_right (by decide))
  have hCM : L + 3 ∉ [L] := fun hm => hLC (List.mem_singleton.mp hm).symm
  refine wpAny_For (wpAny_List (wpAny_items_cons (cIntK F fun t1 s1 F k1 => wpAny_items_cons (cIntK F fun t2 s2 F k2 => wpAny_items_nil ⟨by rw [sizeLine_eq]; simp, ?_⟩))))
  have k3 : Keeps s2 { s2 with heap := s2.heap.push { cls := .type "list", data := .seq [Value.int 1 t1, .int 2 t2].toArray } } := ⟨_, s2.toks, rfl, fun _ _ e => Heap.get?_push_of_some _ e⟩
  have P3 : (Shared.heap { s2 with heap := s2.heap.push { cls := .type "list", data := .seq [Value.int 1 t1, .int 2 t2].toArray } }).PlainList s2.heap.objs.size [Value.int 1 t1, .int 2 t2].toArray := ⟨0, Heap.get?_push_size _ rfl⟩
  have hlM := F.new_nin
  have F := F.keeps k3
  have hC := hC.keeps (Keeps.get (Keeps.trans k1 (Keeps.trans k2 k3)))
  generalize { s2 with heap := s2.heap.push { cls := .type "list", data := .seq [Value.int 1 t1, .int 2 t2].toArray } } = s3 at F P3 hC ⊢
  generalize s2.heap.objs.size = lo at P3 hlM ⊢
  refine loopLst (env := lawEnv L fa cd) a.hh F P3.isList hlM (fun i m h => m (Str.ofString "many") = some (.int (K : Int) t0) ∧ ∃ v, h.IsCell (L + 3) v) ?_ ?_ ?_ ?_
  · rintro i m h h' q ⟨i1, v, i3⟩
    exact ⟨i1, v, q.cell i3⟩
  · exact ⟨h1, _, hC⟩
  · rintro i v m₁ s4 Γ' hG hi hv ⟨i1, v1, i3⟩ F
    obtain ⟨q, tq, rfl, hq, hP⟩ : ∃ (q : Nat) (tq : Tok), v = .int (q : Int) tq ∧ q ≤ 2 ∧ P8 K q := by
      match i, hi, hv with
      | 0, _, hv => exact ⟨1, t1, by cases hv; rfl, by omega, hP1⟩
      | 1, _, hv => exact ⟨2, t2, by cases hv; rfl, by omega, hP2⟩
    obtain ⟨hg, hab⟩ := hP
    -- more = q
    refine wpAny_assign_Name (wpAny_storeName_cell (env := lawEnv L fa cd) (c := L + 3) rfl rfl rfl i3 fun h3 hc3 hs3 => ?_)
    have b3 : ∀ b o, b ≠ L + 3 → s4.heap.get? b = some o → h3.get? b = some o := fun b o hb e => hs3.extBut b o hb e
    have F := F.turnAt (tk := s4.toks) (List.mem_cons_self ..) (Ne.symm hLC) b3 (cell_ex hc3)
    have F := F.freeze (fun h => h.IsCell (L + 3) (some (.int (q : Int) tq))) hc3 hCM (List.mem_singleton.mpr rfl) (fun h h' q e => let ⟨o, ho, hd⟩ := e; ⟨o, q o ho, hd⟩)
    have hW : ∀ h, (BoxI (L + 3) [L] Γ' h ∧ h.IsCell (L + 3) (some (.int (q : Int) tq))) → W0 w h := fun h q => hW h (hG h q.1.now)
    -- longer
    have hwl := ways_len (2 * K + q) (K + q) K (by omega)
    have hwl2 : (ways (2 * K + q) (K + q) K).length ≤ 256 := Nat.le_trans (hwl.2 (by omega)) (show 2 ^ (2 * K + q) ≤ 2 ^ 8 from Nat.pow_le_pow_right (by omega) (by omega))
    refine wpAny_execs_cons (wpAny_Assign_Name (Call_ ?_))
    refine ldG (env := lawEnv L fa cd) F hW (flawways w) (callDef rfl rfl (args_cons (wpAny_BinOp ?_)))
    refine ldL (env := lawEnv L fa cd) F i1 (ldC (env := lawEnv L fa cd) F.now.2 (oAdd F fun t5 s5 F => args_cons (ldL (env := lawEnv L fa cd) F i1 (args_nil ⟨hW _ F.now, ?_⟩))) rfl)
    refine ways_spec (2 * K + q) (u := K + q) (d := K) (n := N) (by omega) (by omega) (by omega) rfl (a.le (by omega)) (hW _ F.now) fun s6 W vw k6 f6 P6 T6 => ?_
    have F := F.keeps k6
    have F := (F.plain P6 (F.plain_nin P6)).tups T6
    generalize hws : ways (2 * K + q) (K + q) K = ws at *
    refine stL (env := lawEnv L fa cd) F fun s7 F => ?_
    have hn : vw.length = ws.length := T6.len
    have hWn : ∀ h, ((BoxI (L + 3) [L] Γ' h ∧ h.IsCell (L + 3) (some (.int (q : Int) tq))) ∧ h.PlainList W vw.toArray) ∧ TupsI h vw ws → W0 w h := fun h q => hW h q.1.1
    -- the first test
    refine wpAny_execs_cons (wpAny_If (wpAny_isTrue_Compare1 ?_))
    refine listComp [(Str.ofString "more", L + 3)] rfl rfl (by decide) ?_
    refine ldL (env := lawEnv L fa cd) F (v := .ref W) (by walk_at "lk") ?_
    have hcm := F.now.1.1.2
    have hWs := hWn _ F.now
    have hTs := F.now.2
    refine compL a.hh F.now.1.2.isList (by omega) (fun i ys _ => ys = []) (fun _ => rfl) (fun _ _ _ _ r _ => r) (fun i v ys C s₁ Γ3 mC hB hv hm FC hR => ?_) (fun s8 D ys k8 f8 P8 hR => ?_)
    · obtain ⟨x, hx, tx⟩ := hTs.get i v hv
      have hxl := hwl.1 x (List.mem_of_getElem? hx)
      refine wpAny_tests_one (wpAny_isTrue_Compare1 (Call_ ?_))
      refine ldG FC (fun h q => hWs.keeps (hB h q)) (flawgood w) (callDef rfl rfl (args_cons ?_))
      refine ldL FC hm (args_nil ⟨hWs.keeps (hB _ FC.now), ?_⟩)
      refine good_spec (n := N) (a.le (by omega)) (hWs.keeps (hB _ FC.now)) (tx.base (hB _ FC.now)) (by omega) fun t9 s9 k9 => ?_
      have FC := FC.keeps k9
      refine ldC (c := L + 3) (v := .int (q : Int) tq) (hcm.keeps (hB _ FC.now)) (PyProof.Rows.ne_int (wpAny_truthy_bool ?_)) rfl
      rw [hg x (List.mem_of_getElem? hx), show ((q : Int) != (q : Int)) = false by simp, if_neg (by decide)]
      exact ⟨FC, hR⟩
    · subst hR
      have F := F.keeps k8
      refine listNil fun s9 D9 k9 f9 P9 => ?_
      have F := F.keeps k9
      refine neNil a (P8.at fun o e => Keeps.get k9 _ o e).isList P9.isList (wpAny_truthy_bool ?_)
      rw [if_neg (by decide)]
      refine wpAny_execs_nil ?_
      -- above
      refine wpAny_execs_cons (wpAny_Assign_Name (Call_ ?_))
      refine ldB (env := lawEnv L fa cd) F hWn (g_len w) b_len (PyProof.Rows.callWith_builtin1 (args_cons ?_))
      refine listComp [] (closureFor_none (by decide)) rfl (by decide) ?_
      refine ldL (env := lawEnv L fa cd) F (v := .ref W) (by walk_at "lk") ?_
      have hWs := hWn _ F.now
      have hTs := F.now.2
      refine compCell (T := fun i => decide (lows (ws.getD i []) = [])) a.hh F.now.1.2.isList (by omega) (fun i v C Cw s₁ Γ3 mC hB hv FC => ?_) (fun s10 D10 ys k10 f10 P10 hR => ?_)
      · obtain ⟨x, hx, tx⟩ := hTs.get i v hv
        have hxl := hwl.1 x (List.mem_of_getElem? hx)
        have e : ws.getD i [] = x := by rw [List.getD_eq_getElem?_getD, hx]; rfl
        refine lowTest a FC (fun h q => hWs.keeps (hB h q).1) (fun h q => (hB h q).2) (fun h q => tx.base (hB h q).1) (by omega) fun s11 FC => ⟨?_, FC⟩
        rw [e]
      · have F := F.keeps k10
        have hys : ys.length = aboves ws := by rw [hR, hn]; rfl
        have hab2 : aboves ws ≤ ws.length := Nat.le_trans (List.length_filter_le ..) (by simp)
        refine args_nil (lenL F P10.isList (by omega) fun s11 t11 F _ => ?_)
        refine stL (env := lawEnv L fa cd) F fun s12 F => ?_
        refine wpAny_execs_cons (wpAny_If (wpAny_isTrue_Compare1 (wpAny_BinOp ?_)))
        refine ldL (env := lawEnv L fa cd) F (v := .int ys.length t11) (by walk_at "lk") (wpAny_BinOp (wpAny_BinOp (cInt (env := lawEnv L fa cd) F fun t13 s13 F => ?_)))
        refine ldL (env := lawEnv L fa cd) F (v := .int (K : Int) t0) (by walk_at "lk") (oMul (by omega) (by omega) F fun t14 s14 F => ?_)
        refine ldC (env := lawEnv L fa cd) F.now.1.1.2 (oAdd F fun t15 s15 F => oMul (by omega) (by omega) F fun t16 s16 F => wpAny_BinOp ?_) rfl
        refine ldC (env := lawEnv L fa cd) F.now.1.1.2 (Call_ ?_) rfl
        refine ldB (env := lawEnv L fa cd) F hWn (g_len w) b_len (PyProof.Rows.callWith_builtin1 (args_cons ?_))
        refine ldL (env := lawEnv L fa cd) F (v := .ref W) (by walk_at "lk") (args_nil (lenL F F.now.1.2.isList (by omega) fun s17 t17 F _ => oMul (by omega) (by omega) F fun t18 s18 F => PyProof.Rows.ne_int (wpAny_truthy_bool ?_)))
        have e : ((ys.length : Int) * (2 * (K : Int) + (q : Int)) != (q : Int) * (vw.length : Int)) = false := by
          rw [hys, hn, hab]; simp
        rw [e, if_neg (by decide)]
        refine wpAny_execs_nil (wpAny_execs_nil ⟨rfl, _, (F.weak fun h q => q.1.1).thaw (fun h q => q.1) (cell_ex F.now.1.1.2), by walk_at "lk", _, F.now.1.1.2⟩)
  · rintro m₁ s2 ⟨i1, i3⟩ F
    exact h s2 m₁ F
end
/-! the plain law, case by case -/
def sorts (ws : List (List Int)) : Prop := ∀ i ∈ List.range ws.length, i = 0 ∨ lexB (ws.getD i []) (ws.getD (i - 1) []) = false
theorem p8_01 : P8 0 1 := by unfold P8; decide +kernel
theorem p8_02 : P8 0 2 := by unfold P8; decide +kernel
theorem p8_11 : P8 1 1 := by unfold P8; decide +kernel
theorem p8_12 : P8 1 2 := by unfold P8; decide +kernel
theorem p8_21 : P8 2 1 := by unfold P8; decide +kernel
theorem p8_22 : P8 2 2 := by unfold P8; decide +kernel
theorem p8_31 : P8 3 1 := by unfold P8; decide +kernel
theorem p8_32 : P8 3 2 := by unfold P8; decide +kernel
def PO (K : Nat) : Prop := let ws := ordL (ways (2 * K) K K)
  (∀ x ∈ ws, P7 K ws x) ∧ (∀ x ∈ ws, x.length = 2 * K) ∧ sorts ws
theorem po_0 : PO 0 := by unfold PO P7 sorts; decide +kernel
theorem po_1 : PO 1 := by unfold PO P7 sorts; decide +kernel
theorem po_2 : PO 2 := by unfold PO P7 sorts; decide +kernel
theorem po_3 : PO 3 := by unfold PO P7 sorts; decide +kernel
def PC (K : Nat) : Prop := let c := cntL (ways (2 * K) K K); let n := (ordL (ways (2 * K) K K)).length; let due := dueL.getD K 0
  (∀ p ∈ c, p.1.fmod 2 = 0 ∧ p.2 = due) ∧ (c.length : Int) = (K : Int) + 1 ∧ sumC c = (n : Int) ∧ (n : Int) = due * ((K : Int) + 1) ∧ (0 ≤ due ∧ due ≤ 100) ∧ (n = 1 ∨ 2 ≤ n ∧ 0 < 2 * K) ∧ n < 64 ∧ c.length ≤ 500
theorem pc_0 : PC 0 := by unfold PC; decide +kernel
theorem pc_1 : PC 1 := by unfold PC; decide +kernel
theorem pc_2 : PC 2 := by unfold PC; decide +kernel
theorem pc_3 : PC 3 := by unfold PC; decide +kernel
def PLaw (K : Nat) : Prop := PO K ∧ PC K ∧ P8 K 1 ∧ P8 K 2
theorem plaw (K : Nat) (h : K ≤ 3) : PLaw K := by
  match K, h with
  | 0, _ => exact ⟨po_0, pc_0, p8_01, p8_02⟩
  | 1, _ => exact ⟨po_1, pc_1, p8_11, p8_12⟩
  | 2, _ => exact ⟨po_2, pc_2, p8_21, p8_22⟩
  | 3, _ => exact ⟨po_3, pc_3, p8_31, p8_32⟩
theorem sorts_at {ws : List (List Int)} (h : sorts ws) : ∀ i a b, 1 ≤ i → ws[i]? = some a → ws[i - 1]? = some b → lexB a b = false := by
  intro i a b hi ha hb
  have hlt : i < ws.length := (List.getElem?_eq_some_iff.mp ha).1
  rcases h i (List.mem_range.mpr hlt) with e | e
  · omega
  · rw [List.getD_eq_getElem?_getD, List.getD_eq_getElem?_getD, ha, hb] at e
    exact e
theorem Cx.rebox {s₀ s : Shared} {Mut : List Addr} {L : Addr} {Γ : Heap → Prop} {m : Str → Option Value} (F : Cx s₀ Mut L Γ s m) (hB : ∀ h, Γ h → Base s₀ h) (Mut2 : List Addr) (hL : L ∈ Mut2) (hf : ∀ b ∈ Mut2, s₀.heap.get? b = none)
    (hex : ∀ b ∈ Mut2, ∃ o, s.heap.get? b = some o ∧ ∀ xs n, o.data = .seq xs n → o.cls ≠ .type "tuple") : Cx s₀ Mut2 L (Base s₀) s m :=
  ⟨F.same, F.ns, fun h' q b o e => q b o (fun hb => by rw [hf b hb] at e; cases e) (hB _ F.now b o e), hL, hex⟩
theorem Cx.immOf {s₀ s : Shared} {Mut : List Addr} {L : Addr} {Γ : Heap → Prop} {m : Str → Option Value} (F : Cx s₀ Mut L Γ s m) {h' : Heap} (q : ∀ b o, b ∉ Mut → s.heap.get? b = some o → h'.get? b = some o) : Imm s.heap h' := fun b o i e => q b o (fun hm => by
  obtain ⟨o', e', r⟩ := F.ex b hm
  rw [e] at e'
  cases e'
  obtain ⟨hc, xs, n, hd⟩ := i
  exact r xs n hd hc) e
theorem Cnt.imm {prog : Program} {w : World} {h h' : Heap} {d : Addr} {c : List (Int × Int)} (p : Cnt prog w h d c) (k : ∀ o, h.get? d = some o → h'.get? d = some o) (i : Imm h h') : Cnt prog w h' d c := by
  obtain ⟨h1, xs, e, hd⟩ := p
  exact ⟨h1, xs, e, dict_mov hd k i⟩
theorem plain_ne_cell {h : Heap} {o c : Addr} {xs : Array Value} {v : Option Value} (p : h.PlainList o xs) (q : h.IsCell c v) : o ≠ c := by
  rintro rfl
  obtain ⟨n, ho⟩ := p
  obtain ⟨o', ho', hd⟩ := q
  rw [ho] at ho'
  cases ho'
  cases hd
theorem none_back {s₀ : Shared} {h : Heap} {o : Addr} (q : Base s₀ h) (e : h.get? o = none) : s₀.heap.get? o = none := by
  cases hx : s₀.heap.get? o with
  | none => rfl
  | some x => rw [q o x hx] at e; cases e
theorem none_ne_ns {h : Heap} {o L : Addr} {m : Str → Option Value} (q : h.Ns L m) (e : h.get? o = none) : o ≠ L := by
  rintro rfl
  obtain ⟨x, _, _, hx, _⟩ := q
  rw [hx] at e
  cases e
theorem lawBody_eq : lawBody = [lawBody.getD 0 default, lawBody.getD 1 default, lawBody.getD 2 default, lawBody.getD 3 default, lawBody.getD 4 default, lawBody.getD 5 default, lawBody.getD 6 default, lawBody.getD 7 default, lawBody.getD 8 default] := rfl

theorem law_walk {prog : Program} {w : World} {A : Around} {E : Value → Shared → Prop} {s₀ s : Shared} {L fa l : Addr} {cd : Value} {vs : List Value} {ns : List Int} {m : Str → Option Value} {N : Nat} {Q : Flow → Shared → Prop} (a : Ak A (N + 12)) (W : W0 w s₀.heap)
    (F : Cx s₀ [L] L (Base s₀) s m) (hLe : s₀.heap.objs.size ≤ L)
    (c1 : s.heap.IsCell (L + 1) none) (c2 : s.heap.IsCell (L + 2) none) (c3 : s.heap.IsCell (L + 3) none)
    (hm : m (Str.ofString "script") = some (.ref l)) (hl : s₀.heap.IsList l vs.toArray) (hi : IntsAre vs ns)
    (h : ∀ s', Keeps s₀ s' → Q (.ret (.bool true)) s') :
    wpAny (model prog w) A (execs lawBody (lawEnv L fa cd)) Q E s := by
  have hW : ∀ h, Base s₀ h → W0 w h := fun h q => W.keeps q
  have dist : ∀ n : Nat, n ≠ n + 1 ∧ n ≠ n + 2 ∧ n ≠ n + 3 ∧ n + 1 ≠ n + 2 ∧ n + 1 ≠ n + 3 ∧ n + 2 ≠ n + 3 := fun n => by omega
  obtain ⟨d01, d02, d03, d12, d13, d23⟩ := dist L
  have fr : ∀ k : Nat, s₀.heap.get? (L + k) = none := fun k => Heap.get?_none_of_le (Nat.le_trans hLe (Nat.le_add_right _ _))
  have frL : s₀.heap.get? L = none := Heap.get?_none_of_le hLe
  have one : ∀ {x : Addr}, L ≠ x → x ∉ [L] := fun hx hm => hx (List.mem_singleton.mp hm).symm
  have two : ∀ {x y : Addr}, L ≠ x → y ≠ x → x ∉ [y, L] := fun h1 h2 hm => by
    rcases List.mem_cons.mp hm with e | e
    · exact h2 e.symm
    · exact h1 (List.mem_singleton.mp e).symm
  have three : ∀ {x y z : Addr}, L ≠ x → y ≠ x → z ≠ x → x ∉ [y, z, L] := fun h1 h2 h3 hm => by
    rcases List.mem_cons.mp hm with e | e
    · exact h2 e.symm
    · exact two h1 h3 e
  have exN : ∀ {h : Heap} {m : Str → Option Value}, h.Ns L m → ∃ o, h.get? L = some o ∧ ∀ xs n, o.data = .seq xs n → o.cls ≠ .type "tuple" := by
    rintro h m ⟨o, es, ep, ho, hd, _⟩
    exact ⟨o, ho, fun xs n e => by rw [hd] at e; cases e⟩
  rw [lawBody_eq]
  -- many
  have F := F.and (Γ' := fun h => h.IsCell (L + 1) none ∧ h.IsCell (L + 2) none ∧ h.IsCell (L + 3) none) fun h' q =>
    ⟨c1.imp fun o e => ⟨q _ o (one d01) e.1, e.2⟩, c2.imp fun o e => ⟨q _ o (one d02) e.1, e.2⟩, c3.imp fun o e => ⟨q _ o (one d03) e.1, e.2⟩⟩
  refine wpAny_execs_cons (step1 a F (fun h q => hW h q.1) hm (hl.at fun o e => F.now.1 _ o e) hi fun t s1 F => ?_)
  show wpAny _ _ _ _ _ _
  obtain ⟨K, hKe, hK⟩ : ∃ K : Nat, ns.sum.fmod 4 = (K : Int) ∧ K ≤ 3 := by
    have h1 := Int.fmod_nonneg_of_pos ns.sum (show (0 : Int) < 4 by decide)
    have h2 := Int.fmod_lt_of_pos ns.sum (show (0 : Int) < 4 by decide)
    exact ⟨(ns.sum.fmod 4).toNat, by omega, by omega⟩
  rw [hKe] at F
  obtain ⟨⟨hP7, hLn, hSo⟩, ⟨hc, he1, he2, he3, hdue, hn1, hn64, hc500⟩, hp1, hp2⟩ := plaw K hK
  -- order, calls
  have hb1 := F.now.1
  have ns1 := F.ns
  refine wpAny_execs_cons (step2 a F (fun h q => hW h q.1) fun o d s2 hod fo fd k2 hO hD F => ?_)
  show wpAny _ _ _ _ _ _
  have foo := none_back hb1 fo
  have hoL := none_ne_ns ns1 fo
  have hdL := none_ne_ns ns1 fd
  obtain ⟨b2, c1, c2, c3⟩ := F.now
  have ho1 := plain_ne_cell hO c1
  have ho2 := plain_ne_cell hO c2
  have ho3 := plain_ne_cell hO c3
  have frk : ∀ k : Nat, ∀ {v : Option Value} {h : Heap}, h.IsCell (L + k) v → s₀.heap.get? (L + k) = none ∧ ∃ o, h.get? (L + k) = some o ∧ ∀ xs n, o.data = .seq xs n → o.cls ≠ .type "tuple" := fun k v h c => ⟨fr k, cell_ex c⟩
  have F := F.rebox (fun h q => q.1) [L + 1, o, L] (by simp) (fun b hb => by
    rcases List.mem_cons.mp hb with rfl | hb
    · exact fr 1
    · rcases List.mem_cons.mp hb with rfl | hb
      · exact foo
      · rw [List.mem_singleton.mp hb]; exact frL) (fun b hb => by
    rcases List.mem_cons.mp hb with rfl | hb
    · exact cell_ex c1
    · rcases List.mem_cons.mp hb with rfl | hb
      · exact plain_ex hO
      · rw [List.mem_singleton.mp hb]; exact exN F.ns)
  have F := F.and (Γ' := fun h => h.IsCell (L + 2) none ∧ h.IsCell (L + 3) none) fun h' q =>
    ⟨c2.imp fun o e => ⟨q _ o (three d02 d12 ho2) e.1, e.2⟩, c3.imp fun o e => ⟨q _ o (three d03 d13 ho3) e.1, e.2⟩⟩
  -- the first loop
  refine wpAny_execs_cons (step3 (N := N) (t := t) hK a F (fun h q => hW h q.1) (by walk_at "lk") (by walk_at "lk") (by walk_at "lk") hO hD c1 hdL hoL fun s3 m3 d3 vs3 F m31 m32 m33 hd3L P3 T3 C3 hc31 => ?_)
  show wpAny _ _ _ _ _ _
  obtain ⟨v1, hc31⟩ := hc31
  obtain ⟨b3, c2, c3⟩ := F.now
  have F := F.rebox (fun h q => q.1) [L + 2, L] (by simp) (fun b hb => by
    rcases List.mem_cons.mp hb with rfl | hb
    · exact fr 2
    · rw [List.mem_singleton.mp hb]; exact frL) (fun b hb => by
    rcases List.mem_cons.mp hb with rfl | hb
    · exact cell_ex c2
    · rw [List.mem_singleton.mp hb]; exact exN F.ns)
  have F0 := F
  have F := F.and (Γ' := fun h => h.PlainList o vs3.toArray ∧ TupsI h vs3 (ordL (ways (2 * K) K K)) ∧ Cnt prog w h d3 (cntL (ways (2 * K) K K)) ∧ h.IsCell (L + 1) v1 ∧ h.IsCell (L + 3) none) fun h' q =>
    ⟨P3.at fun x e => q o x (two (Ne.symm hoL) (Ne.symm ho2)) e, T3.imm (F0.immOf q), C3.imm (fun x e => q d3 x (two (Ne.symm hd3L) (Ne.symm (C3.ne_cell c2))) e) (F0.immOf q),
      hc31.imp fun o e => ⟨q _ o (two d01 (Ne.symm d12)) e.1, e.2⟩, c3.imp fun o e => ⟨q _ o (two d03 d23) e.1, e.2⟩⟩
  -- due
  refine wpAny_execs_cons (step4 (Mut := [L]) hK F m31 c2 fun s4 t4 F c2 k4 => ?_)
  show wpAny _ _ _ _ _ _
  have F := F.freeze (fun h => h.IsCell (L + 2) (some (.int (dueL.getD K 0) t4))) c2 (one d02) (List.mem_singleton.mpr rfl) (fun h h' q e => let ⟨o, ho, hd⟩ := e; ⟨o, q o ho, hd⟩)
  have F := F.weak (Γ' := fun h => Base s₀ h ∧ (h.PlainList o vs3.toArray ∧ TupsI h vs3 (ordL (ways (2 * K) K K)) ∧ Cnt prog w h d3 (cntL (ways (2 * K) K K)) ∧ h.IsCell (L + 1) v1 ∧ h.IsCell (L + 3) none) ∧ h.IsCell (L + 2) (some (.int (dueL.getD K 0) t4))) fun h q => ⟨q.1.now.1, q.1.now.2, q.2⟩
  -- the ifs
  refine wpAny_execs_cons (step5 (N := N) (kk := 2 * K) a F (fun h q => hW h q.1) m32 m33 (fun h q => q.2.1.1) (fun h q => q.2.1.2.1) (fun h q => q.2.1.2.2.1) (fun h q => q.2.2) ?_ hc fun s5 F => ?_)
  · rcases hn1 with e | ⟨e1, e2⟩
    · exact .inl e
    · exact .inr ⟨e1, hn64, e2, hLn, sorts_at hSo⟩
  show wpAny _ _ _ _ _ _
  refine wpAny_execs_cons (step6 (N := N) (K := (K : Int)) (t0 := t) a F (fun h q => hW h q.1) m31 m32 m33 (fun h q => q.2.1.1) (fun h q => q.2.1.2.1) (fun h q => q.2.1.2.2.1) (fun h q => q.2.2) (by omega) hc500 (by omega) hdue he1 he2 he3 fun s6 F => ?_)
  show wpAny _ _ _ _ _ _
  -- the second loop
  obtain ⟨b6, ⟨P6, T6, C6, c1, c3⟩, c2⟩ := F.now
  have F := F.rebox (fun h q => q.1) [L + 1, L] (by simp) (fun b hb => by
    rcases List.mem_cons.mp hb with rfl | hb
    · exact fr 1
    · rw [List.mem_singleton.mp hb]; exact frL) (fun b hb => by
    rcases List.mem_cons.mp hb with rfl | hb
    · exact cell_ex c1
    · rw [List.mem_singleton.mp hb]; exact exN F.ns)
  have F0 := F
  have F := F.and (Γ' := fun h => h.PlainList o vs3.toArray ∧ TupsI h vs3 (ordL (ways (2 * K) K K)) ∧ h.IsCell (L + 3) none) fun h' q =>
    ⟨P6.at fun x e => q o x (two (Ne.symm hoL) (Ne.symm ho1)) e, T6.imm (F0.immOf q), c3.imp fun o e => ⟨q _ o (two d03 d13) e.1, e.2⟩⟩
  refine wpAny_execs_cons (step7 (N := N) hK a F (fun h q => hW h q.1) m31 m32 (fun h q => q.2.1) (fun h q => q.2.2.1) c1 (two (Ne.symm hoL) (Ne.symm ho1)) (by omega) hP7 fun s7 m7 F m71 c1 => ?_)
  show wpAny _ _ _ _ _ _
  -- the third loop
  obtain ⟨b7, _, _, c3⟩ := F.now
  have F := F.rebox (fun h q => q.1) [L + 3, L] (by simp) (fun b hb => by
    rcases List.mem_cons.mp hb with rfl | hb
    · exact fr 3
    · rw [List.mem_singleton.mp hb]; exact frL) (fun b hb => by
    rcases List.mem_cons.mp hb with rfl | hb
    · exact cell_ex c3
    · rw [List.mem_singleton.mp hb]; exact exN F.ns)
  refine wpAny_execs_cons (step8 (N := N) hK a F hW m71 c3 hp1 hp2 fun s8 m8 F => ?_)
  show wpAny _ _ _ _ _ _
  exact wpAny_execs_cons (wpAny_Return_some (wpAny_Constant_bool (h s8 (F.keepsOf fun h q => q))))
theorem law_entry {prog : Program} {w : World} {A : Around} {E : Value → Shared → Prop} {s₁ : Shared} {h₁ : Heap} {tk : Nat} {fa l : Addr} {cd : Value} {p : Program} {loose : List Str} {mean : ExcName → Option Value} {mg mb m cm : Str → Option Value} {o1 o2 o3 : Obj} {n1 n2 n3 : Str} {vs : List Value} {ns : List Int} {Q : Flow → Shared → Prop}
    (KX : (hd.heap_39 w.params).In s₁.heap) (T : Top p loose mean mg mb s₁.heap) (F : Fr s₁.heap s₁.heap.objs.size h₁ m)
    (N : News s₁.heap s₁.heap.objs.size h₁ [(s₁.heap.objs.size + 1 + 1 + 1, o3), (s₁.heap.objs.size + 1 + 1, o2), (s₁.heap.objs.size + 1, o1)])
    (X : CellsAre cm [(n3, s₁.heap.objs.size + 1 + 1 + 1), (n2, s₁.heap.objs.size + 1 + 1), (n1, s₁.heap.objs.size + 1)] [(s₁.heap.objs.size + 1 + 1 + 1, o3), (s₁.heap.objs.size + 1 + 1, o2), (s₁.heap.objs.size + 1, o1)])
    (hL : s₁.heap.IsList l vs.toArray) (hI : IntsAre vs ns)
    (a : Ak A (0 + 12)) (e1 : cm n1 = none) (e2 : cm n2 = none) (e3 : cm n3 = none) (hm : m (Str.ofString "script") = some (.ref l))
    (h : ∀ s', Keeps s₁ s' → Q (.ret (.bool true)) s') :
    wpAny (model prog w) A (execs lawBody (lawEnv s₁.heap.objs.size fa cd)) Q E { heap := h₁, gens := s₁.gens, drawn := s₁.drawn, toks := tk, os := s₁.os } := by
  have W : W0 w s₁.heap := ⟨KX, T.nolimit, mg, mb, T.g, T.b, T.builtins⟩
  cases X with
  | cons x3 X =>
    cases X with
    | cons x2 X =>
      cases X with
      | cons x1 X =>
        rw [e1] at x1
        rw [e2] at x2
        rw [e3] at x3
        refine law_walk (N := 0) (L := s₁.heap.objs.size) a W ?_ (Nat.le_refl _) ⟨o1, (N (_, o1) (.tail _ (.tail _ (.head _)))).1, x1⟩ ⟨o2, (N (_, o2) (.tail _ (.head _))).1, x2⟩ ⟨o3, (N (_, o3) (.head _)).1, x3⟩ hm hL hI h
        refine ⟨⟨h₁, tk, rfl⟩, F.ns, fun h' q b o e => q b o (fun hb => ?_) (F.keep b o e), by simp, fun b hb => ?_⟩
        · rw [List.mem_singleton.mp hb] at e
          exact Nat.lt_irrefl _ (Heap.lt_size e)
        · rw [List.mem_singleton.mp hb]
          obtain ⟨o, es, ep, ho, hd, _⟩ := F.ns
          exact ⟨o, ho, fun xs n e => by rw [hd] at e; cases e⟩
theorem akDeep (env : Env) : Ak (callerA.deeper env) 12 := ⟨rfl, by show 1 + claimMargin + 1 + 12 < recursionLimit; decide +kernel, by show 4 + 3 + 4 * 12 + 16 < cLine; decide +kernel⟩
end Mine
set_option maxHeartbeats 8000000 in
theorem PySem.Challenge.cw_hp0002_01_holds : PySem.Challenge.rw_hp0002_01.Holds := by
  refine Mine.hd ?_
  k_go0
  rename (Mine.hd.heap_39 _).In _ => KX
  rename Top _ _ _ _ _ _ => T
  rename Fr _ _ _ _ => F0
  rename News _ _ _ _ => N0
  rename CellsAre _ _ _ => X0
  rename Heap.IsList _ _ _ => hL
  rename IntsAre _ _ => hI
  rename (_ = #[]) => hg
  refine Mine.law_entry KX T F0 N0 X0 hL hI (Mine.akDeep _) rfl rfl rfl rfl (fun s' k => ?_)
  obtain ⟨h', tk', rfl, q⟩ := k
  exact ⟨.inl ⟨.bool true, .bool true, [], rfl, fun _ => rfl, .bool _, (by with_unfolding_all rfl), fun _ => ⟨List.nodup_nil, fun _ ha => nomatch ha⟩⟩, q, rfl, hg⟩
