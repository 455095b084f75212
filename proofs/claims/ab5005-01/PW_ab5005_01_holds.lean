import PyProof.Rows.All
import Wide.All
import OpenK.AllK
import Wide.FinOn
import PySem.Challenge.RW_ab5005_01
set_option Elab.async false
set_option linter.unusedVariables false
set_option linter.unusedSimpArgs false

section
open PySem PySem.W PyProof.Rows
namespace Mine
set_option maxRecDepth 100000 in
set_option maxHeartbeats 8000000 in
open_top hd for PySem.Challenge.rw_ab5005_01
end Mine
end

section
open PySem PySem.W PyProof.Rows PySem.Calls PySem.Spec
namespace Mine

/-- all that stands off W stands as it was -/
def Kp (W : List Addr) (h h' : Heap) : Prop := ∀ b o, b ∉ W → h.get? b = some o → h'.get? b = some o
theorem Kp.refl {W : List Addr} {h : Heap} : Kp W h h := fun _ _ _ e => e
theorem Kp.trans {W : List Addr} {h h' h'' : Heap} (x : Kp W h h') (y : Kp W h' h'') : Kp W h h'' := fun b o n e => y b o n (x b o n e)
theorem Kp.mono {W W' : List Addr} {h h' : Heap} (x : Kp W h h') (s : ∀ b ∈ W, b ∈ W') : Kp W' h h' := fun b o n e => x b o (fun q => n (s b q)) e
theorem Kp.same {a : Addr} {h h' : Heap} (x : Heap.SameBut a h h') : Kp [a] h h' := fun b o n e => x.extBut b o (fun q => n (by rw [q]; exact .head _)) e
theorem Kp.keeps {W : List Addr} {h h' : Heap} (x : ∀ b o, h.get? b = some o → h'.get? b = some o) : Kp W h h' := fun b o _ e => x b o e
theorem Kp.get {W : List Addr} {h h' : Heap} {a : Addr} {o : Obj} (x : Kp W h h') (n : a ∉ W) (e : h.get? a = some o) : h'.get? a = some o := x a o n e
theorem Kp.at {W : List Addr} {h h' : Heap} {a : Addr} (x : Kp W h h') (n : a ∉ W) : ∀ o, h.get? a = some o → h'.get? a = some o := fun o e => x a o n e

/-- a name bound turn by turn: what it takes, what it gives -/
structure Binds (prog : Program) (w : World) (A : Around) (cenv : Env) (x : Str) (px : Pos) (T : List Addr) (Ready : Heap → Prop) (Tgt : Value → Heap → Prop) : Prop where
  asg : ∀ v (s : Shared) (Q : Unit → Shared → Prop) (E : Value → Shared → Prop), Ready s.heap → (∀ h' tk, Tgt v h' → Kp T s.heap h' → Q () { s with heap := h', toks := tk }) → wpAny (model prog w) A (assign (.Name x px) cenv v) Q E s
  ready : ∀ v h, Tgt v h → Ready h
  keepR : ∀ h h', Ready h → (∀ b ∈ T, ∀ o, h.get? b = some o → h'.get? b = some o) → Ready h'
  keepT : ∀ v h h', Tgt v h → (∀ b ∈ T, ∀ o, h.get? b = some o → h'.get? b = some o) → Tgt v h'

section
variable {prog : Program} {w : World} {A : Around} {E : Value → Shared → Prop} {s : Shared}

theorem binds_local {cenv : Env} {x : Str} {px : Pos} (hx : cenv.kindOf x = some .local) (hp : (cenv.scope.kind == .class || (cenv.scope.kind == .module && cenv.locals != cenv.globals)) = false) :
    Binds prog w A cenv x px [cenv.locals] (fun h => ∃ m, h.Ns cenv.locals m) (fun v h => ∃ m, h.Ns cenv.locals m ∧ m x = some v) where
  asg := fun v s Q E hR hQ => by
    obtain ⟨m, hn⟩ := hR
    exact wpAny_assign_Name (wpAny_storeName_local hx hn (fun h' hn' hs' => hQ h' _ ⟨_, hn', by simp⟩ (Kp.same hs')) hp)
  ready := fun v h ⟨m, hn, _⟩ => ⟨m, hn⟩
  keepR := fun h h' ⟨m, hn⟩ k => ⟨m, hn.at' (k _ (.head _))⟩
  keepT := fun v h h' ⟨m, hn, hv⟩ k => ⟨m, hn.at' (k _ (.head _)), hv⟩

theorem binds_cell {cenv : Env} {x : Str} {px : Pos} {c : Addr} (hk : cenv.scope.kind = .function) (hx : cenv.kindOf x = some .cell) (hc : cenv.cells.lookup x = some c) (hne : cenv.locals ≠ c) :
    Binds prog w A cenv x px [cenv.locals, c] (fun h => (∃ m, h.Ns cenv.locals m) ∧ ∃ u, h.IsCell c u) (fun v h => (∃ m, h.Ns cenv.locals m) ∧ h.IsCell c (some v)) where
  asg := fun v s Q E hR hQ => by
    obtain ⟨⟨m, hn⟩, u, hu⟩ := hR
    exact wpAny_assign_Name (wpAny_storeName_cell hk hx hc hu fun h' hv hs' => hQ h' _ ⟨⟨m, hn.sameBut hs' hne⟩, hv⟩ ((Kp.same hs').mono (by intro b hb; rw [List.mem_singleton.mp hb]; exact .tail _ (.head _))))
  ready := fun v h ⟨a, b⟩ => ⟨a, _, b⟩
  keepR := fun h h' ⟨⟨m, hn⟩, u, o, ho, hd⟩ k => ⟨⟨m, hn.at' (k _ (.head _))⟩, u, o, k _ (.tail _ (.head _)) _ ho, hd⟩
  keepT := fun v h h' ⟨⟨m, hn⟩, o, ho, hd⟩ k => ⟨⟨m, hn.at' (k _ (.head _))⟩, o, k _ (.tail _ (.head _)) _ ho, hd⟩

theorem comp_loop {elt iter : Expr} {x : Str} {px : Pos} {ifs : List Expr} {scope : Scope} {pos : Pos} {I D : Addr} {fp T : List Addr} {n : Nat} {P : Nat → Value → Prop} {St : Nat → Heap → Prop} {cenv : Env} {R : Result → Shared → Prop} {s₀ : Shared}
    {Ready : Heap → Prop} {Tgt : Value → Heap → Prop} (W : Walks prog w A I fp [I] n P St) (B : Binds prog w A cenv x px T Ready Tgt)
    (hDI : D ≠ I) (hDT : D ∉ T) (hIT : I ∉ T) (hDf : D ∉ fp) (hTf : ∀ b ∈ T, b ∉ fp) (hsz : n ≤ sizeLine)
    (Acc : Nat → List Value → Heap → Prop) (acc_kp : ∀ i ys h h', Acc i ys h → Kp (I :: D :: T) h h' → Acc i ys h')
    (turn : ∀ i v ys (s₃ : Shared) (E' : Value → Shared → Prop), i < n → P i v → Tgt v s₃.heap → Kp (I :: D :: T) s₀.heap s₃.heap → (∀ b ∈ I :: D :: T, ∃ o, s₃.heap.get? b = some o) → Acc i ys s₃.heap →
      wpAny (model prog w) A (forIn ifs true fun c r => if r = true then do let ok ← isTrue c cenv (eval c cenv); pure (ForInStep.yield ok) else pure (ForInStep.yield r))
        (fun ok s₄ => if ok = true then wpAny (model prog w) A (eval elt cenv) (fun y s₅ => Keeps s₃ s₅ ∧ Acc (i + 1) (ys ++ [y]) s₅.heap) E' s₄ else Keeps s₃ s₄ ∧ Acc (i + 1) ys s₄.heap) E' s₃)
    (hex : ∀ b ∈ T, ∃ o, s₀.heap.get? b = some o) (hI : ∀ i h, St i h → ∃ o, h.get? I = some o)
    (hTex : ∀ v h, Tgt v h → ∀ b ∈ T, ∃ o, h.get? b = some o)
    (hst : St 0 s₀.heap) (hD : s₀.heap.get? D = some (LCg.lst [])) (hR : Ready s₀.heap) (h0 : Acc 0 [] s₀.heap)
    (fin : ∀ h tk ys, Ready h → h.get? D = some (LCg.lst ys) → Acc n ys h → Kp (I :: D :: T) s₀.heap h → ys.length ≤ n → R (.ok .next) { s₀ with heap := h, toks := tk }) :
    codeAny (model prog w) A (.compLoop (.ListComp elt [⟨.Name x px, iter, ifs, 0⟩] scope pos) 0 (.ref I) (.ref D) cenv) R s₀ := by
  have hIf : I ∈ fp := W.sub I (.head _)
  refine codeAny_compLoop_tests
    (fun k s' => ∃ h tk i ys, s' = { s₀ with heap := h, toks := tk } ∧ i ≤ n ∧ k = n + 1 - i ∧ ys.length ≤ i ∧ St i h ∧ Ready h ∧ h.get? D = some (LCg.lst ys) ∧ Acc i ys h ∧ Kp (I :: D :: T) s₀.heap h) ?_ (n + 1)
    ⟨s₀.heap, s₀.toks, 0, [], rfl, Nat.zero_le _, rfl, Nat.zero_le _, hst, hR, hD, h0, Kp.refl⟩
  rintro k s' ⟨h, tk, i, ys, rfl, hi, rfl, hyl, hst', hR', hD', hA', hk'⟩
  by_cases hlt : i < n
  · refine W.item i _ _ _ hlt hst' fun v h₁ tk₁ hP hst₁ hk₁ => ?_
    have k1 : Kp [I] h h₁ := hk₁
    refine B.asg v _ _ _ (B.keepR _ _ hR' fun b hb o e => k1 b o (fun q => hIT (by rw [← List.mem_singleton.mp q]; exact hb)) e) fun h₂ tk₂ hT₂ k2 => ?_
    have hst₂ : St (i + 1) h₂ := W.frame _ _ _ hst₁ fun b hb o e => k2 b o (fun q => hTf b q hb) e
    have k12 : Kp (I :: D :: T) h h₂ := (k1.mono (by intro b hb; rw [List.mem_singleton.mp hb]; exact .head _)).trans (k2.mono fun b hb => .tail _ (.tail _ hb))
    have hD₂ : h₂.get? D = some (LCg.lst ys) := k2 D _ hDT (k1 D _ (by simpa using hDI) hD')
    have ex₂ : ∀ b ∈ I :: D :: T, ∃ o, h₂.get? b = some o := fun b hb => by
      rcases List.mem_cons.mp hb with rfl | hb
      · exact hI _ _ hst₂
      · rcases List.mem_cons.mp hb with rfl | hb
        · exact ⟨_, hD₂⟩
        · exact hTex _ _ hT₂ b hb
    refine wpAny_mono (turn i v ys { s₀ with heap := h₂, toks := tk₂ } _ hlt hP hT₂ (hk'.trans k12) ex₂ (acc_kp _ _ _ _ hA' k12)) (fun ok s₄ h₄ => ?_) fun _ _ e => e
    cases ok with
    | false =>
      simp only [Bool.false_eq_true, if_false] at h₄ ⊢
      obtain ⟨⟨h₄, tk₄, rfl, k4⟩, a4⟩ := h₄
      refine ⟨n + 1 - (i + 1), by omega, h₄, tk₄, i + 1, ys, rfl, hlt, rfl, Nat.le_succ_of_le hyl, W.frame _ _ _ hst₂ fun b _ o e => k4 b o e, B.ready _ _ (B.keepT _ _ _ hT₂ fun b _ o e => k4 b o e), k4 _ _ hD₂, a4, (hk'.trans k12).trans (Kp.keeps k4)⟩
    | true =>
      simp only [if_true] at h₄ ⊢
      refine wpAny_mono h₄ (fun y s₅ h₅ => ?_) fun _ _ e => e
      obtain ⟨⟨h₅, tk₅, rfl, k5⟩, a5⟩ := h₅
      refine append_at (hsz := by show ys.toArray.size ≤ sizeLine; rw [List.size_toArray]; omega) (k5 _ _ hD₂) fun h₆ hs₆ hD₆ => ?_
      have k6 : Kp [D] h₅ h₆ := Kp.same hs₆
      refine ⟨n + 1 - (i + 1), by omega, h₆, tk₅, i + 1, ys ++ [y], rfl, hlt, rfl, by rw [List.length_append, List.length_singleton]; omega, W.frame _ _ _ hst₂ fun b hb o e => k6 b o (fun q => hDf (by rw [← List.mem_singleton.mp q]; exact hb)) (k5 b o e),
        B.ready _ _ (B.keepT _ _ _ hT₂ fun b hb o e => k6 b o (fun q => hDT (by rw [← List.mem_singleton.mp q]; exact hb)) (k5 b o e)), hD₆.trans (congrArg some (LCg.lst_snoc ys y)), acc_kp _ _ _ _ a5 (k6.mono ?_), ((hk'.trans k12).trans (Kp.keeps k5)).trans (k6.mono ?_)⟩
      all_goals (intro b hb; rw [List.mem_singleton.mp hb]; exact .tail _ (.head _))
  · obtain rfl : i = n := Nat.le_antisymm hi (Nat.not_lt.mp hlt)
    refine W.done _ _ _ hst' fun h₂ tk₂ hk₂ => ?_
    have k2 : Kp [I] h h₂ := hk₂
    have k2' : Kp (I :: D :: T) h h₂ := k2.mono (by intro b hb; rw [List.mem_singleton.mp hb]; exact .head _)
    exact fin h₂ tk₂ ys (B.keepR _ _ hR' fun b hb o e => k2 b o (fun q => hIT (by rw [← List.mem_singleton.mp q]; exact hb)) e) (k2 D _ (by simpa using hDI) hD') (acc_kp _ _ _ _ hA' k2') (hk'.trans k2') hyl

theorem newEnv_comp {M : Model} {scope : Scope} {globals : Addr} {cl : List (Str × Addr)} {qual : Str} {outer : Env} {Q : Env → Shared → Prop}
    (h : Q { scope := scope, locals := s.heap.objs.size, globals := globals, cells := cellsFrom (s.heap.objs.size + 1) scope.names cl, qual := qual, func := none, code := outer.code, frame := outer.frame, builtins := outer.builtins }
      { s with heap := pushCells (s.heap.push { cls := .type "dict", data := .dict #[] }) scope.names }) :
    wpAny M A (newFunctionEnv scope globals cl [] qual none .none (some outer)) Q E s := by
  simp only [newFunctionEnv, Option.isSome_some, if_true]
  refine wpAny_bind (wpAny_alloc ?_)
  refine wpAny_bind (wpAny_layCells _ (fun name kind cells => by cases hkc : kind == NameKind.cell <;> simp [hkc]) _ _ _ _ ?_)
  rw [show ({ s with heap := s.heap.push { cls := .type "dict", data := .dict #[] } } : Shared).heap.objs.size = s.heap.objs.size + 1 from Heap.size_push ..]
  rw [List.forIn_nil]
  exact wpAny_bind (wpAny_pure (wpAny_pure h))

theorem fresh_ge {h : Heap} {a : Addr} (l : h.objs.size ≤ a) : h.get? a = none := by
  cases e : h.get? a with
  | none => rfl
  | some o => exact absurd (Heap.lt_size e) (Nat.not_lt.mpr l)

theorem comp_block {elt iter : Expr} {x : Str} {px : Pos} {ifs : List Expr} {scope : Scope} {cl : List (Str × Addr)} {pos : Pos} {env : Env} {s₂ : Shared} {I : Addr} {fp : List Addr} {n : Nat} {P : Nat → Value → Prop} {St : Nat → Heap → Prop}
    {RR : Value → Addr → Result → Shared → Prop}
    (cl' : Addr → List (Str × Addr)) (T : Addr → List Addr) (Ready : Addr → Heap → Prop) (Tgt : Addr → Value → Heap → Prop)
    (hcl' : ∀ C, cellsFrom (C + 1) scope.names cl = cl' C) (B : ∀ C, Binds prog w A (compEnvC scope (cl' C) C env) x px (T C) (Ready C) (Tgt C))
    (hTge : ∀ C, ∀ b ∈ T C, C ≤ b) (hrdy : ∀ H : Heap, Ready H.objs.size (pushCells (H.push { cls := .type "dict", data := .dict #[] }) scope.names)) (hRns : ∀ C h, Ready C h → ∃ m, h.Ns C m)
    (hRex : ∀ C h, Ready C h → ∀ b ∈ T C, ∃ o, h.get? b = some o) (hCT : ∀ C, C ∈ T C)
    (W : Walks prog w A I fp [I] n P St) (hsz : n ≤ sizeLine) (hI : ∀ i h, St i h → ∃ o, h.get? I = some o) (hst : St 0 s₂.heap) (hfp : ∀ b ∈ fp, b < s₂.heap.objs.size)
    (Acc : List Addr → Nat → List Value → Heap → Prop) (acc_kp : ∀ X i ys h h', Acc X i ys h → Kp X h h' → Acc X i ys h')
    (h0 : ∀ X h, (∀ b o, s₂.heap.get? b = some o → h.get? b = some o) → Acc X 0 [] h)
    (turn : ∀ C X i v ys (s₃ : Shared) (E' : Value → Shared → Prop), s₂.heap.objs.size ≤ C → (∀ b ∈ T C, b ∈ X) → i < n → P i v → Tgt C v s₃.heap → Kp [I] s₂.heap s₃.heap → (∀ b ∈ X, ∃ o, s₃.heap.get? b = some o) → Acc X i ys s₃.heap →
      wpAny (model prog w) A (forIn ifs true fun c r => if r = true then do let ok ← isTrue c (compEnvC scope (cl' C) C env) (eval c (compEnvC scope (cl' C) C env)); pure (ForInStep.yield ok) else pure (ForInStep.yield r))
        (fun ok s₄ => if ok = true then wpAny (model prog w) A (eval elt (compEnvC scope (cl' C) C env)) (fun y s₅ => Keeps s₃ s₅ ∧ Acc X (i + 1) (ys ++ [y]) s₅.heap) E' s₄ else Keeps s₃ s₄ ∧ Acc X (i + 1) ys s₄.heap) E' s₃)
    (fin : ∀ D C X h tk m ys, s₂.heap.get? D = none → s₂.heap.get? C = none → C ≠ D → D ∈ X → C ∈ X → h.Ns C m → h.get? D = some (LCg.lst ys) → Acc X n ys h → Kp [I] s₂.heap h → ys.length ≤ n → RR (.ref D) C (.ok .next) { s₂ with heap := h, toks := tk }) :
    wpAny (model prog w) A (newList []) (fun acc s₃ => wpAny (model prog w) A (newFunctionEnv scope env.globals cl [] env.qual none .none (some env)) (fun cenv s₄ =>
      codeAny (model prog w) A (.compStart (.ListComp elt [⟨.Name x px, iter, ifs, 0⟩] scope pos) 0 (.ref I) acc { cenv with scope := relabel scope env }) (RR acc cenv.locals) s₄) E s₃) E s₂ := by
  refine wpAny_newObj_type (newEnv_comp ?_)
  dsimp only
  generalize hH2 : s₂.heap.push { cls := .type "list", dict := none, data := .seq ([] : List Value).toArray } = H2
  generalize hH3 : pushCells (H2.push { cls := .type "dict", data := .dict #[] }) scope.names = H3
  have hIlt : I < s₂.heap.objs.size := hfp I (W.sub I (.head _))
  have hC : H2.objs.size = s₂.heap.objs.size + 1 := by rw [← hH2, Heap.size_push]
  generalize hCc : H2.objs.size = C at hC
  have hge : ∀ b ∈ T C, s₂.heap.objs.size < b := fun b hb => Nat.lt_of_lt_of_le (by rw [hC]; exact Nat.lt_succ_self _) (hTge C b hb)
  have up23 : ∀ b o, H2.get? b = some o → H3.get? b = some o := fun b o e => by rw [← hH3]; exact pushCells_keeps _ _ _ _ (Heap.get?_push_of_some _ e)
  have old : ∀ b o, s₂.heap.get? b = some o → H3.get? b = some o := fun b o e => up23 b o (by rw [← hH2]; exact Heap.get?_push_of_some _ e)
  have hacc : H3.get? s₂.heap.objs.size = some (LCg.lst []) := up23 _ _ (by rw [← hH2]; exact Heap.get?_push_size _ rfl)
  have hRdy : Ready C H3 := by rw [← hCc, ← hH3]; exact hrdy H2
  have toI : ∀ {h : Heap}, Kp (I :: s₂.heap.objs.size :: T C) H3 h → Kp [I] s₂.heap h := fun k b o nb e => by
    have hb := Heap.lt_size e
    refine k b o (fun q => ?_) (old b o e)
    rcases List.mem_cons.mp q with rfl | q
    · exact nb (.head _)
    · rcases List.mem_cons.mp q with rfl | q
      · exact Nat.lt_irrefl _ hb
      · exact Nat.lt_irrefl _ (Nat.lt_trans hb (hge b q))
  have loop : codeAny (model prog w) A (.compLoop (.ListComp elt [⟨.Name x px, iter, ifs, 0⟩] scope pos) 0 (.ref I) (.ref s₂.heap.objs.size) (compEnvC scope (cl' C) C env)) (RR (.ref s₂.heap.objs.size) C) { s₂ with heap := H3 } := by
    refine comp_loop (R := RR (.ref s₂.heap.objs.size) C) (s₀ := { s₂ with heap := H3 }) W (B C) (Ne.symm (Nat.ne_of_lt hIlt)) (fun q => Nat.lt_irrefl _ (hge _ q)) (fun q => Nat.lt_irrefl _ (Nat.lt_trans hIlt (hge _ q))) (fun q => Nat.lt_irrefl _ (hfp _ q))
      (fun b hb q => Nat.lt_irrefl _ (Nat.lt_trans (hfp _ q) (hge b hb))) hsz (Acc (I :: s₂.heap.objs.size :: T C)) (fun i ys h h' a k => acc_kp _ _ _ _ _ a k)
      (fun i v ys s₃ E' hi hP hT k ex a => turn C _ i v ys s₃ E' (by rw [hC]; exact Nat.le_succ _) (fun b hb => .tail _ (.tail _ hb)) hi hP hT (toI k) ex a)
      (hRex C _ hRdy) hI (fun v h hT => hRex C h ((B C).ready _ _ hT)) (W.frame 0 _ _ hst fun b _ o e => old b o e) hacc hRdy (h0 _ _ old) ?_
    intro h tk ys hr hd ha k hl
    obtain ⟨m, hm⟩ := hRns C h hr
    exact fin _ C _ h tk m ys (fresh_ge (Nat.le_refl _)) (fresh_ge (by rw [hC]; exact Nat.le_succ _)) (by rw [hC]; exact Nat.succ_ne_self _) (.tail _ (.head _)) (.tail _ (.tail _ (hCT C))) hm hd ha (toI k) hl
  rw [hcl' C]
  exact codeAny_compStart_list loop (W.self 0 _ _ _ (W.frame 0 _ _ hst fun b _ o e => old b o e) loop)

/-- what the iterable of a comprehension hands over -/
structure Src (prog : Program) (w : World) (A : Around) (I : Addr) (fp : List Addr) (n : Nat) (P : Nat → Value → Prop) (St : Nat → Heap → Prop) (h : Heap) : Prop where
  walks : Walks prog w A I fp [I] n P St
  size : n ≤ sizeLine
  it : ∀ i h, St i h → ∃ o, h.get? I = some o
  start : St 0 h
  below : ∀ b ∈ fp, b < h.objs.size

theorem src_list {ax : Addr} {its : Array Value} {Q : Value → Shared → Prop} (hh : A.handled = none) (hl : s.heap.IsList ax its) (hsz : its.size ≤ sizeLine)
    (h : ∀ I h', s.heap.get? I = none → (∀ b o, s.heap.get? b = some o → h'.get? b = some o) → (∃ St, Src prog w A I [I, ax] its.size (fun i v => its[i]? = some v) St h') → Q (.ref I) { s with heap := h' }) :
    wpAny (model prog w) A (pyIter (.ref ax)) Q E s := by
  have hlt : ax < s.heap.objs.size := by obtain ⟨_, e, _⟩ := hl; exact Heap.lt_size e
  refine wpAny_pyIter_list hl (h _ _ (fresh_ge (Nat.le_refl _)) (fun b o e => Heap.get?_push_of_some _ e) ⟨_, ⟨Walks.list hh s.heap.objs.size ax (Nat.ne_of_lt hlt) its, hsz, fun i h st => by obtain ⟨o, e, _⟩ := st.1; exact ⟨o, e⟩, ⟨⟨_, Heap.get?_push_size _ rfl, rfl, rfl⟩, hl.push _⟩, fun b hb => ?_⟩⟩)
  rw [Heap.size_push]
  rcases List.mem_cons.mp hb with rfl | hb
  · exact Nat.lt_succ_self _
  · rw [List.mem_singleton.mp hb]; exact Nat.lt_succ_of_lt hlt

theorem src_range {r : Addr} {a b : Int} {t u v : Tok} {n : Nat} {Q : Value → Shared → Prop} (hh : A.handled = none) (hr : IsRange s.heap r a b 1 t u v) (hsm : Builtin.Range.small a b 1 = true) (hn : Builtin.Range.rangeSize a b 1 = ((n : Nat) : Int)) (hsz : n ≤ sizeLine)
    (h : ∀ I h', s.heap.get? I = none → (∀ b o, s.heap.get? b = some o → h'.get? b = some o) → (∃ St, Src prog w A I [I] n (fun i v => ∃ t, v = .int (a + (i : Int)) t) St h') → Q (.ref I) { s with heap := h' }) :
    wpAny (model prog w) A (pyIter (.ref r)) Q E s := by
  refine wpAny_pyIter_range hr hsm (h _ _ (fresh_ge (Nat.le_refl _)) (fun b o e => Heap.get?_push_of_some _ e) ⟨_, ⟨LCg.range_walks hh a n, hsz, fun i h st => ⟨_, st⟩, by show IsRangeIter _ _ _ _ _; rw [hn]; simpa using Heap.get?_push_size _ rfl, fun b hb => ?_⟩⟩)
  rw [Heap.size_push]
  rw [List.mem_singleton.mp hb]; exact Nat.lt_succ_self _

theorem listcomp_local {elt iter : Expr} {x : Str} {px : Pos} {ifs : List Expr} {scope : Scope} {cl : List (Str × Addr)} {pos : Pos} {env : Env} {Q : Value → Shared → Prop}
    (hclos : closureFor scope env = pure cl) (hkind : scope.kind = .function) (hnames : ∀ y ∈ scope.names, y.2 = .local → scope.names.lookup y.1 = some .local) (hx : scope.names.lookup x = some .local)
    (hcl : ∀ n, cellsFrom n scope.names cl = cl) (hpc : ∀ H, pushCells H scope.names = H)
    (h : wpAny (model prog w) A (eval iter env) (fun xv s₁ => wpAny (model prog w) A (pyIter xv) (fun it s₂ => ∃ I fp n P St, it = .ref I ∧ Src prog w A I fp n P St s₂.heap ∧
      ∃ Acc : List Addr → Nat → List Value → Heap → Prop, (∀ X i ys h h', Acc X i ys h → Kp X h h' → Acc X i ys h') ∧ (∀ X h, (∀ b o, s₂.heap.get? b = some o → h.get? b = some o) → Acc X 0 [] h) ∧
      (∀ C X i v ys (s₃ : Shared) (E' : Value → Shared → Prop), s₂.heap.objs.size ≤ C → C ∈ X → i < n → P i v → (∃ m, s₃.heap.Ns C m ∧ m x = some v) → Kp [I] s₂.heap s₃.heap → (∀ b ∈ X, ∃ o, s₃.heap.get? b = some o) → Acc X i ys s₃.heap →
        wpAny (model prog w) A (forIn ifs true fun c r => if r = true then do let ok ← isTrue c (compEnvC scope cl C env) (eval c (compEnvC scope cl C env)); pure (ForInStep.yield ok) else pure (ForInStep.yield r))
          (fun ok s₄ => if ok = true then wpAny (model prog w) A (eval elt (compEnvC scope cl C env)) (fun y s₅ => Keeps s₃ s₅ ∧ Acc X (i + 1) (ys ++ [y]) s₅.heap) E' s₄ else Keeps s₃ s₄ ∧ Acc X (i + 1) ys s₄.heap) E' s₃) ∧
      (∀ D X h tk ys, s₂.heap.get? D = none → D ∈ X → h.get? D = some (LCg.lst ys) → Acc X n ys h → Kp [I] s₂.heap h → ys.length ≤ n → Q (.ref D) { s₂ with heap := h, toks := tk })) E s₁) E s)
    (hs : ∀ x, foldedSetIterable iter env x = pure x := by intro _; rfl) :
    wpAny (model prog w) A (eval (.ListComp elt [⟨.Name x px, iter, ifs, 0⟩] scope pos) env) Q E s := by
  rw [eval_ListComp]
  refine wpAny_comprehension_free (use := none) rfl hs hclos hkind hnames (wpAny_mono h (fun xv s₁ h₁ => wpAny_mono h₁ (fun it s₂ h₂ => ?_) fun _ _ e => e) fun _ _ e => e)
  obtain ⟨I, fp, n, P, St, rfl, S, Acc, akp, a0, turn, fin⟩ := h₂
  refine comp_block (RR := fun acc C => compPost (model prog w) A E none Q acc C) (fun _ => cl) (fun C => [C]) (fun C h => ∃ m, h.Ns C m) (fun C v h => ∃ m, h.Ns C m ∧ m x = some v) (fun C => hcl _)
    (fun C => binds_local (lookup_relabel_local hx) (by simp [compEnvC, relabel, hkind])) (fun C b hb => by rw [List.mem_singleton.mp hb]; exact Nat.le_refl _) (fun H => ⟨_, by rw [hpc]; exact Heap.Ns.new H (.type "dict")⟩) (fun C h r => r)
    (fun C h ⟨m, hm⟩ b hb => by rw [List.mem_singleton.mp hb]; obtain ⟨o, _, _, e, _⟩ := hm; exact ⟨o, e⟩) (fun C => .head _) S.walks S.size S.it S.start S.below Acc akp a0 (fun C X i v ys s₃ E' hC hX hi hP hT k ex a => turn C X i v ys s₃ E' hC (hX _ (.head _)) hi hP hT k ex a) ?_
  intro D C X h tk m ys hD hC hCD hDX hCX hm hd ha k hl
  refine ⟨m, hm, fun h' hs' => ?_⟩
  have k' : Kp [C] h h' := Kp.same hs'
  refine fin D X h' tk ys hD hDX (k' D _ (by simpa using Ne.symm hCD) hd) (akp _ _ _ _ _ ha (k'.mono (by intro b hb; rw [List.mem_singleton.mp hb]; exact hCX))) (fun b o nb e => k' b o (fun q => ?_) (k b o nb e)) hl
  rw [List.mem_singleton.mp q, hC] at e; cases e

theorem listcomp_cell {elt iter : Expr} {x : Str} {px : Pos} {ifs : List Expr} {scope : Scope} {cl : List (Str × Addr)} {pos : Pos} {env : Env} {Q : Value → Shared → Prop}
    (hclos : closureFor scope env = pure cl) (hkind : scope.kind = .function) (hnames : ∀ y ∈ scope.names, y.2 = .local → scope.names.lookup y.1 = some .local) (hx : ∀ C, (compEnvC scope ((x, C + 1) :: cl) C env).kindOf x = some .cell)
    (hcl : ∀ n, cellsFrom n scope.names cl = (x, n) :: cl) (hpc : ∀ H, pushCells H scope.names = H.push { cls := .type "cell", data := .cell none })
    (h : wpAny (model prog w) A (eval iter env) (fun xv s₁ => wpAny (model prog w) A (pyIter xv) (fun it s₂ => ∃ I fp n P St, it = .ref I ∧ Src prog w A I fp n P St s₂.heap ∧
      ∃ Acc : List Addr → Nat → List Value → Heap → Prop, (∀ X i ys h h', Acc X i ys h → Kp X h h' → Acc X i ys h') ∧ (∀ X h, (∀ b o, s₂.heap.get? b = some o → h.get? b = some o) → Acc X 0 [] h) ∧
      (∀ C X i v ys (s₃ : Shared) (E' : Value → Shared → Prop), s₂.heap.objs.size ≤ C → C ∈ X → C + 1 ∈ X → i < n → P i v → s₃.heap.IsCell (C + 1) (some v) → Kp [I] s₂.heap s₃.heap → (∀ b ∈ X, ∃ o, s₃.heap.get? b = some o) → Acc X i ys s₃.heap →
        wpAny (model prog w) A (forIn ifs true fun c r => if r = true then do let ok ← isTrue c (compEnvC scope ((x, C + 1) :: cl) C env) (eval c (compEnvC scope ((x, C + 1) :: cl) C env)); pure (ForInStep.yield ok) else pure (ForInStep.yield r))
          (fun ok s₄ => if ok = true then wpAny (model prog w) A (eval elt (compEnvC scope ((x, C + 1) :: cl) C env)) (fun y s₅ => Keeps s₃ s₅ ∧ Acc X (i + 1) (ys ++ [y]) s₅.heap) E' s₄ else Keeps s₃ s₄ ∧ Acc X (i + 1) ys s₄.heap) E' s₃) ∧
      (∀ D X h tk ys, s₂.heap.get? D = none → D ∈ X → h.get? D = some (LCg.lst ys) → Acc X n ys h → Kp [I] s₂.heap h → ys.length ≤ n → Q (.ref D) { s₂ with heap := h, toks := tk })) E s₁) E s)
    (hs : ∀ x, foldedSetIterable iter env x = pure x := by intro _; rfl) :
    wpAny (model prog w) A (eval (.ListComp elt [⟨.Name x px, iter, ifs, 0⟩] scope pos) env) Q E s := by
  rw [eval_ListComp]
  refine wpAny_comprehension_free (use := none) rfl hs hclos hkind hnames (wpAny_mono h (fun xv s₁ h₁ => wpAny_mono h₁ (fun it s₂ h₂ => ?_) fun _ _ e => e) fun _ _ e => e)
  obtain ⟨I, fp, n, P, St, rfl, S, Acc, akp, a0, turn, fin⟩ := h₂
  refine comp_block (RR := fun acc C => compPost (model prog w) A E none Q acc C) (fun C => (x, C + 1) :: cl) (fun C => [C, C + 1]) (fun C h => (∃ m, h.Ns C m) ∧ ∃ u, h.IsCell (C + 1) u) (fun C v h => (∃ m, h.Ns C m) ∧ h.IsCell (C + 1) (some v)) (fun C => hcl _)
    (fun C => binds_cell hkind (hx C) (by simp [compEnvC]) (Nat.ne_of_lt (Nat.lt_succ_self _))) (fun C b hb => ?_) (fun H => ?_) (fun C h r => r.1)
    (fun C h ⟨⟨m, hm⟩, u, hu⟩ b hb => ?_) (fun C => .head _) S.walks S.size S.it S.start S.below Acc akp a0 (fun C X i v ys s₃ E' hC hX hi hP hT k ex a => turn C X i v ys s₃ E' hC (hX _ (.head _)) (hX _ (.tail _ (.head _))) hi hP hT.2 k ex a) ?_
  · rcases List.mem_cons.mp hb with rfl | hb
    · exact Nat.le_refl _
    · rw [List.mem_singleton.mp hb]; exact Nat.le_succ _
  · rw [hpc]
    refine ⟨⟨_, (Heap.Ns.new H (.type "dict")).push _⟩, none, ?_⟩
    exact ⟨_, by rw [← Heap.size_push H { cls := .type "dict", data := .dict #[] }]; exact Heap.get?_push_size _ rfl, rfl⟩
  · rcases List.mem_cons.mp hb with rfl | hb
    · obtain ⟨o, _, _, e, _⟩ := hm; exact ⟨o, e⟩
    · rw [List.mem_singleton.mp hb]; obtain ⟨o, e, _⟩ := hu; exact ⟨o, e⟩
  intro D C X h tk m ys hD hC hCD hDX hCX hm hd ha k hl
  refine ⟨m, hm, fun h' hs' => ?_⟩
  have k' : Kp [C] h h' := Kp.same hs'
  refine fin D X h' tk ys hD hDX (k' D _ (by simpa using Ne.symm hCD) hd) (akp _ _ _ _ _ ha (k'.mono (by intro b hb; rw [List.mem_singleton.mp hb]; exact hCX))) (fun b o nb e => k' b o (fun q => ?_) (k b o nb e)) hl
  rw [List.mem_singleton.mp q, hC] at e; cases e
end
end Mine
end

section
open PySem PySem.W PyProof.Rows PySem.Calls PySem.Spec
namespace Mine
section
variable {prog : Program} {w : World} {A : Around} {E : Value → Shared → Prop} {s : Shared}

theorem turn_two0 (elt t0 i0 t1 i1 : Expr) (scope : Scope) (pos : Pos) (it acc : Value) (env : Env) :
    compTurn (.ListComp elt [⟨t0, i0, [], 0⟩, ⟨t1, i1, [], 0⟩] scope pos) 0 it acc env = (standAt i0.pos >>= fun _ => pyNext it >>= fun r => match r with
      | none => pure (.done .next)
      | some v => letOwnedTupleGo t0 it v >>= fun _ => assign t0 env v >>= fun _ => eval i1 env >>= fun x => standAt i1.pos >>= fun _ => foldedSetIterable i1 env x >>= fun x =>
        holding [x] (pyIter x) >>= fun it1 => runOwn (.compStart (.ListComp elt [⟨t0, i0, [], 0⟩, ⟨t1, i1, [], 0⟩] scope pos) 1 it1 acc env) env >>= fun _ =>
          again (.compLoop (.ListComp elt [⟨t0, i0, [], 0⟩, ⟨t1, i1, [], 0⟩] scope pos) 0 it acc env)) := by rfl
theorem turn_two1 (elt t0 i0 t1 i1 : Expr) (scope : Scope) (pos : Pos) (it acc : Value) (env : Env) :
    compTurn (.ListComp elt [⟨t0, i0, [], 0⟩, ⟨t1, i1, [], 0⟩] scope pos) 1 it acc env = (standAt i1.pos >>= fun _ => pyNext it >>= fun r => match r with
      | none => pure (.done .next)
      | some v => letOwnedTupleGo t1 it v >>= fun _ => assign t1 env v >>= fun _ => (eval elt env >>= fun x => call (.builtin "list.append") [acc, x] >>= fun _ => pure ()) >>= fun _ =>
          again (.compLoop (.ListComp elt [⟨t0, i0, [], 0⟩, ⟨t1, i1, [], 0⟩] scope pos) 1 it acc env)) := by rfl

theorem start_two1 {elt t0 i0 t1 i1 : Expr} {scope : Scope} {pos : Pos} {it acc : Value} {env : Env} {R : Result → Shared → Prop}
    (h0 : codeAny (model prog w) A (.compLoop (.ListComp elt [⟨t0, i0, [], 0⟩, ⟨t1, i1, [], 0⟩] scope pos) 1 it acc env) R s)
    (h : ∀ E', wpAny (model prog w) A (pyIter it) (fun it' s' => codeAny (model prog w) A (.compLoop (.ListComp elt [⟨t0, i0, [], 0⟩, ⟨t1, i1, [], 0⟩] scope pos) 1 it' acc env) R s') E' s) :
    codeAny (model prog w) A (.compStart (.ListComp elt [⟨t0, i0, [], 0⟩, ⟨t1, i1, [], 0⟩] scope pos) 1 it acc env) R s := by
  refine codeAny_of_tree ?_
  show wpAny _ _ ((compStart (.ListComp elt [⟨t0, i0, [], 0⟩, ⟨t1, i1, [], 0⟩] scope pos) 1 it acc env).onRaise (fun x => do noteFrame x env; standAt theWindowsPlace)) _ _ s
  refine wpAny_notedAt ?_
  unfold compStart
  show wpAny _ _ (ask >>= _) _ _ s
  refine wpAny_bind (wpAny_askSetting (wpAny_ite ?_))
  split
  · first
      | exact wpAny_bind (wpAny_pure (wpAny_pure (And.intro rfl h0)))
      | exact wpAny_pure (And.intro rfl h0)
  · refine wpAny_bind (wpAny_rule ?_)
    show wpAny _ _ (standAt i1.pos >>= _) _ _ s
    exact wpAny_bind (wpAny_standAt (wpAny_bind (wpAny_mono (h _) (fun it' s' h' => wpAny_pure (And.intro rfl h')) fun _ _ x => x)))

theorem mark_none (A : Around) : A.mark none = A := by cases A; rfl

theorem take_snoc {α : Type} {l : List α} {i : Nat} {x : α} (e : l[i]? = some x) : l.take (i + 1) = l.take i ++ [x] := by
  rw [List.take_add_one, e]; rfl

/-- the inner clause: every item of the list at hand goes onto the list that grows -/
theorem inner_loop {t0 i0 i1 : Expr} {x : Str} {px ex : Pos} {scope : Scope} {pos : Pos} {I D : Addr} {fp : List Addr} {its : List Value} {St : Nat → Heap → Prop} {cenv : Env} {R : Result → Shared → Prop} {s₀ : Shared} {ys : List Value}
    (W : Walks prog w A I fp [I] its.length (fun i v => its[i]? = some v) St) (hk : cenv.scope.kind = .function) (hx : cenv.kindOf x = some .local) (hb : (x == ("__debug__" : Str)) = false)
    (hDI : D ≠ I) (hDC : D ≠ cenv.locals) (hIC : I ≠ cenv.locals) (hDf : D ∉ fp) (hCf : cenv.locals ∉ fp) (hsz : ys.length + its.length ≤ sizeLine)
    (hst : St 0 s₀.heap) (hD : s₀.heap.get? D = some (LCg.lst ys)) (hR : ∃ m, s₀.heap.Ns cenv.locals m)
    (fin : ∀ h tk, (∃ m, h.Ns cenv.locals m) → h.get? D = some (LCg.lst (ys ++ its)) → Kp [I, D, cenv.locals] s₀.heap h → R (.ok .next) { s₀ with heap := h, toks := tk }) :
    codeAny (model prog w) A (.compLoop (.ListComp (.Name x ex) [⟨t0, i0, [], 0⟩, ⟨.Name x px, i1, [], 0⟩] scope pos) 1 (.ref I) (.ref D) cenv) R s₀ := by
  have hp : (cenv.scope.kind == .class || (cenv.scope.kind == .module && cenv.locals != cenv.globals)) = false := by rw [hk]; rfl
  refine codeAny_loop rfl (fun k s' => ∃ h tk i, s' = { s₀ with heap := h, toks := tk } ∧ i ≤ its.length ∧ k = its.length + 1 - i ∧ St i h ∧ (∃ m, h.Ns cenv.locals m) ∧ h.get? D = some (LCg.lst (ys ++ its.take i)) ∧ Kp [I, D, cenv.locals] s₀.heap h)
    (fun k s' hI => ?_) (its.length + 1) ⟨s₀.heap, s₀.toks, 0, rfl, Nat.zero_le _, rfl, hst, hR, by simpa using hD, Kp.refl⟩
  obtain ⟨h, tk, i, rfl, hi, rfl, hst', ⟨m, hm⟩, hD', hk'⟩ := hI
  show wpAny _ A ((compTurn (.ListComp (.Name x ex) [⟨t0, i0, [], 0⟩, ⟨.Name x px, i1, [], 0⟩] scope pos) 1 (.ref I) (.ref D) cenv).onRaise (fun x => do noteFrame x cenv; theTreesLotGoes x)) _ _ _
  refine wpAny_noted ?_
  rw [turn_two1]
  refine wpAny_bind (wpAny_standAt (wpAny_bind ?_))
  by_cases hlt : i < its.length
  · refine W.item i _ _ _ hlt hst' fun v h₁ tk₁ hP hst₁ hk₁ => ?_
    have k1 : Kp [I] h h₁ := hk₁
    refine wpAny_bind (wpAny_of_eq (show letOwnedTupleGo (.Name x px) (.ref I) v = pure () from rfl) ?_)
    refine wpAny_bind (wpAny_assign_Name (wpAny_storeName_local hx (hm.at' (k1.at (by simpa using Ne.symm hIC))) (fun h₂ hn₂ hs₂ => ?_) hp))
    have k2 : Kp [cenv.locals] h₁ h₂ := Kp.same hs₂
    have hD₂ : h₂.get? D = some (LCg.lst (ys ++ its.take i)) := k2.get (by simpa using hDC) (k1.get (by simpa using hDI) hD')
    refine wpAny_bind (wpAny_bind (wpAny_Name (wpAny_loadName_local hk hx hn₂ (v := v) (by simp) ?_) hb))
    refine wpAny_bind (append_at (hsz := by show (ys ++ its.take i).toArray.size ≤ sizeLine; rw [List.size_toArray, List.length_append, List.length_take]; omega) hD₂ fun h₃ hs₃ hD₃ => wpAny_pure ?_)
    have k3 : Kp [D] h₂ h₃ := Kp.same hs₃
    have kk : Kp [I, D, cenv.locals] h h₃ := ((k1.mono (by simp)).trans (k2.mono (by simp))).trans (k3.mono (by simp))
    refine wpAny_pure ⟨rfl, its.length + 1 - (i + 1), by omega, h₃, _, i + 1, rfl, hlt, rfl, ?_, ⟨_, hn₂.sameBut hs₃ (Ne.symm hDC)⟩, ?_, hk'.trans kk⟩
    · exact W.frame _ _ _ hst₁ fun b hb o e => k3 b o (fun q => hDf (by rw [← List.mem_singleton.mp q]; exact hb)) (k2 b o (fun q => hCf (by rw [← List.mem_singleton.mp q]; exact hb)) e)
    · rw [take_snoc hP, ← List.append_assoc]
      exact hD₃.trans (congrArg some (LCg.lst_snoc _ v))
  · obtain rfl : i = its.length := Nat.le_antisymm hi (Nat.not_lt.mp hlt)
    refine W.done _ _ _ hst' fun h₂ tk₂ hk₂ => ?_
    have k2 : Kp [I] h h₂ := hk₂
    refine wpAny_pure (fin h₂ tk₂ ⟨m, hm.at' (k2.at (by simpa using Ne.symm hIC))⟩ ?_ (hk'.trans (k2.mono (by simp))))
    rw [List.take_length] at hD'
    exact k2.get (by simpa using hDI) hD'

theorem flat_take {α : Type} {rows : List (List α)} {i : Nat} {r : List α} (e : rows[i]? = some r) : (rows.take (i + 1)).flatten = (rows.take i).flatten ++ r := by
  rw [take_snoc e]; simp

theorem flat_le {α : Type} (rows : List (List α)) : ∀ i, (rows.take i).flatten.length ≤ rows.flatten.length := fun i => by
  conv => rhs; rw [← List.take_append_drop i rows]
  rw [List.flatten_append, List.length_append]; omega

theorem outer_loop {i0 : Expr} {x y : Str} {px py ex ey : Pos} {scope : Scope} {pos : Pos} {I D : Addr} {fp : List Addr} {rows : List (List Value)} {P : Nat → Value → Prop} {St : Nat → Heap → Prop} {cenv : Env} {R : Result → Shared → Prop} {s₀ : Shared} {H₀ : Heap}
    (hh : A.handled = none) (W : Walks prog w A I fp [I] rows.length P St) (hk : cenv.scope.kind = .function) (hx : cenv.kindOf x = some .local) (hy : cenv.kindOf y = some .local) (hb : (x == ("__debug__" : Str)) = false) (hb' : (y == ("__debug__" : Str)) = false)
    (hDI : D ≠ I) (hDC : D ≠ cenv.locals) (hIC : I ≠ cenv.locals) (hDf : D ∉ fp) (hCf : cenv.locals ∉ fp) (hsz : rows.flatten.length ≤ sizeLine)
    (hP : ∀ i v, P i v → ∃ a its, v = .ref a ∧ rows[i]? = some its ∧ H₀.IsList a its.toArray) (hH : ∀ b o, H₀.get? b = some o → b ≠ I ∧ b ≠ D ∧ b ≠ cenv.locals ∧ s₀.heap.get? b = some o) (hIt : ∀ i h, St i h → ∃ o, h.get? I = some o)
    (hst : St 0 s₀.heap) (hD : s₀.heap.get? D = some (LCg.lst [])) (hR : ∃ m, s₀.heap.Ns cenv.locals m)
    (fin : ∀ h tk, (∃ m, h.Ns cenv.locals m) → h.get? D = some (LCg.lst rows.flatten) → Kp [I, D, cenv.locals] s₀.heap h → R (.ok .next) { s₀ with heap := h, toks := tk }) :
    codeAny (model prog w) A (.compLoop (.ListComp (.Name x ex) [⟨.Name y py, i0, [], 0⟩, ⟨.Name x px, .Name y ey, [], 0⟩] scope pos) 0 (.ref I) (.ref D) cenv) R s₀ := by
  have hp : (cenv.scope.kind == .class || (cenv.scope.kind == .module && cenv.locals != cenv.globals)) = false := by rw [hk]; rfl
  refine codeAny_loop rfl (fun k s' => ∃ h tk i, s' = { s₀ with heap := h, toks := tk } ∧ i ≤ rows.length ∧ k = rows.length + 1 - i ∧ St i h ∧ (∃ m, h.Ns cenv.locals m) ∧ h.get? D = some (LCg.lst (rows.take i).flatten) ∧ Kp [I, D, cenv.locals] s₀.heap h)
    (fun k s' hI => ?_) (rows.length + 1) ⟨s₀.heap, s₀.toks, 0, rfl, Nat.zero_le _, rfl, hst, hR, by simpa using hD, Kp.refl⟩
  obtain ⟨h, tk, i, rfl, hi, rfl, hst', ⟨m, hm⟩, hD', hk'⟩ := hI
  show wpAny _ A ((compTurn (.ListComp (.Name x ex) [⟨.Name y py, i0, [], 0⟩, ⟨.Name x px, .Name y ey, [], 0⟩] scope pos) 0 (.ref I) (.ref D) cenv).onRaise (fun x => do noteFrame x cenv; theTreesLotGoes x)) _ _ _
  refine wpAny_noted ?_
  rw [turn_two0]
  refine wpAny_bind (wpAny_standAt (wpAny_bind ?_))
  by_cases hlt : i < rows.length
  · refine W.item i _ _ _ hlt hst' fun v h₁ tk₁ hPv hst₁ hk₁ => ?_
    have k1 : Kp [I] h h₁ := hk₁
    obtain ⟨a, its, rfl, hrow, hl0⟩ := hP i v hPv
    refine wpAny_bind (wpAny_of_eq (show letOwnedTupleGo (.Name y py) (.ref I) (.ref a) = pure () from rfl) ?_)
    refine wpAny_bind (wpAny_assign_Name (wpAny_storeName_local hy (hm.at' (k1.at (by simpa using Ne.symm hIC))) (fun h₂ hn₂ hs₂ => ?_) hp))
    have k2 : Kp [cenv.locals] h₁ h₂ := Kp.same hs₂
    have hD₂ : h₂.get? D = some (LCg.lst (rows.take i).flatten) := k2.get (by simpa using hDC) (k1.get (by simpa using hDI) hD')
    refine wpAny_bind (wpAny_Name (wpAny_loadName_local hk hy hn₂ (v := .ref a) (by simp) ?_) hb')
    refine wpAny_bind (wpAny_standAt (wpAny_bind (wpAny_of_eq (show foldedSetIterable (.Name y ey) cenv (.ref a) = pure (.ref a) from rfl) ?_)))
    have hl₂ : h₂.IsList a its.toArray := by
      obtain ⟨o, e, r⟩ := hl0
      obtain ⟨q1, q2, q3, q4⟩ := hH _ _ e
      exact ⟨o, k2 _ _ (by simpa using q3) (k1 _ _ (by simpa using q1) (hk' _ _ (by simp [q1, q2, q3]) q4)), r⟩
    have hle : (rows.take i).flatten.length + its.length ≤ rows.flatten.length := by
      have := flat_le rows (i + 1)
      rw [flat_take hrow, List.length_append] at this; exact this
    have hits : its.toArray.size ≤ sizeLine := by rw [List.size_toArray]; omega
    refine wpAny_bind (wpAny_holding (src_list hh hl₂ hits fun J h₃ hJ k3 hS => ?_))
    obtain ⟨St', S⟩ := hS
    have hJ' : h₂.get? J = none := hJ
    have hDJ : D ≠ J := fun q => by rw [← q, hD₂] at hJ'; cases hJ'
    have hCJ : cenv.locals ≠ J := fun q => by
      obtain ⟨oC, _, _, eC, _⟩ := hn₂
      rw [← q, eC] at hJ'; cases hJ'
    have hst₂ : St (i + 1) h₂ := W.frame _ _ _ hst₁ fun b hb o e => k2 b o (fun q => hCf (by rw [← List.mem_singleton.mp q]; exact hb)) e
    have hIJ : I ≠ J := fun q => by
      obtain ⟨oI, eI⟩ := hIt _ _ hst₂
      rw [← q, eI] at hJ'; cases hJ'
    have ha : a ≠ I ∧ a ≠ D ∧ a ≠ cenv.locals := by
      obtain ⟨o, e, _⟩ := hl0
      obtain ⟨q1, q2, q3, _⟩ := hH _ _ e
      exact ⟨q1, q2, q3⟩
    have fpJ : ∀ b ∈ fp, ∀ o, h₂.get? b = some o → b ≠ J := fun b _ o e q => by rw [q, hJ'] at e; cases e
    have k2' : Kp [I, D, cenv.locals] s₀.heap h₂ := hk'.trans ((k1.mono (by simp)).trans (k2.mono (by simp)))
    refine wpAny_bind (wpAny_runOwn (start_two1 (R := fun r s' => match r with
      | .ok f => wpAny (model prog w) A (again (.compLoop (.ListComp (.Name x ex) [⟨.Name y py, i0, [], 0⟩, ⟨.Name x px, .Name y ey, [], 0⟩] scope pos) 0 (.ref I) (.ref D) cenv)) _ _ s'
      | .error e => cameBackBy (model prog w) A cenv _ e s') ?_ fun E' => S.walks.self 0 _ _ _ S.start ?_))
    all_goals
      refine inner_loop (A := A.mark none) (s₀ := { s₀ with heap := h₃, toks := tk₁ + 1 }) (ys := (rows.take i).flatten) (its := its) (by rw [mark_none]; simpa using S.walks) hk hx hb hDJ hDC (Ne.symm hCJ) (by simp [hDJ, Ne.symm ha.2.1]) (by simp [hCJ, Ne.symm ha.2.2]) (by omega) S.start (k3 _ _ hD₂) ⟨_, hn₂.keeps k3⟩ ?_
      intro h₄ tk₄ hR₄ hD₄ k4
      have k4' : Kp [I, D, cenv.locals] s₀.heap h₄ := fun b o nb e => by
        have e2 := k2' b o nb e
        refine k4 b o (fun q => ?_) (k3 b o e2)
        simp at q nb
        rcases q with q | q | q
        · rw [q, hJ'] at e2; cases e2
        · exact nb.2.1 q
        · exact nb.2.2 q
      refine wpAny_pure ⟨rfl, rows.length + 1 - (i + 1), by omega, h₄, tk₄, i + 1, rfl, hlt, rfl, ?_, hR₄, by rw [flat_take hrow]; exact hD₄, k4'⟩
      refine W.frame _ _ _ hst₂ fun b hb o e => k4 b o (fun q => ?_) (k3 b o e)
      simp at q
      rcases q with q | q | q
      · exact fpJ b hb o e q
      · exact hDf (q ▸ hb)
      · exact hCf (q ▸ hb)
  · obtain rfl : i = rows.length := Nat.le_antisymm hi (Nat.not_lt.mp hlt)
    refine W.done _ _ _ hst' fun h₂ tk₂ hk₂ => ?_
    have k2 : Kp [I] h h₂ := hk₂
    refine wpAny_pure (fin h₂ tk₂ ⟨m, hm.at' (k2.at (by simpa using Ne.symm hIC))⟩ ?_ (hk'.trans (k2.mono (by simp))))
    rw [List.take_length] at hD'
    exact k2.get (by simpa using hDI) hD'

/-- [w for l in rows for w in l]: the rows, one behind the other -/
theorem listcomp_flat {i0 : Expr} {x y : Str} {px py ex ey : Pos} {scope : Scope} {pos : Pos} {env : Env} {Q : Value → Shared → Prop} (hh : A.handled = none)
    (hclos : closureFor scope env = pure []) (hkind : scope.kind = .function) (hnames : ∀ z ∈ scope.names, z.2 = .local → scope.names.lookup z.1 = some .local) (hx : scope.names.lookup x = some .local) (hy : scope.names.lookup y = some .local)
    (hb : (x == ("__debug__" : Str)) = false) (hb' : (y == ("__debug__" : Str)) = false)
    (hcl : ∀ n, cellsFrom n scope.names [] = []) (hpc : ∀ H, pushCells H scope.names = H)
    (h : wpAny (model prog w) A (eval i0 env) (fun xv s₁ => ∃ (ax : Addr) (vs : List Value) (rows : List (List Value)), xv = .ref ax ∧ s₁.heap.IsList ax vs.toArray ∧ vs.length = rows.length ∧ vs.length ≤ sizeLine ∧ rows.flatten.length ≤ sizeLine ∧
      (∀ (i : Nat) (v : Value), vs[i]? = some v → ∃ (a : Addr) (its : List Value), v = .ref a ∧ rows[i]? = some its ∧ s₁.heap.IsList a its.toArray) ∧
      (∀ D h tk, s₁.heap.get? D = none → h.get? D = some (LCg.lst rows.flatten) → (∀ b o, s₁.heap.get? b = some o → h.get? b = some o) → Q (.ref D) { s₁ with heap := h, toks := tk })) E s)
    (hs : ∀ x, foldedSetIterable i0 env x = pure x := by intro _; rfl) :
    wpAny (model prog w) A (eval (.ListComp (.Name x ex) [⟨.Name y py, i0, [], 0⟩, ⟨.Name x px, .Name y ey, [], 0⟩] scope pos) env) Q E s := by
  rw [eval_ListComp]
  refine wpAny_comprehension_free (use := none) rfl hs hclos hkind hnames (wpAny_mono h (fun xv s₁ h₁ => ?_) fun _ _ e => e)
  obtain ⟨ax, vs, rows, rfl, hl, hlen, hsz, hszf, hrows, fin⟩ := h₁
  refine src_list hh hl (by rw [List.size_toArray]; exact hsz) fun I h₂ hI k2 hS => ?_
  obtain ⟨St, S⟩ := hS
  refine wpAny_newObj_type (newEnv_comp ?_)
  dsimp only
  rw [hpc, hcl]
  generalize hH2 : h₂.push { cls := .type "list", dict := none, data := .seq ([] : List Value).toArray } = H2
  generalize hH3 : H2.push { cls := .type "dict", data := .dict #[] } = H3
  have hIlt : I < h₂.objs.size := S.below I (.head _)
  have hC : H2.objs.size = h₂.objs.size + 1 := by rw [← hH2, Heap.size_push]
  have hns : H3.Ns H2.objs.size (fun _ => none) := by rw [← hH3]; exact Heap.Ns.new H2 (.type "dict")
  generalize hCc : H2.objs.size = C at hC hns
  have hCg : @LT.lt Nat _ h₂.objs.size C := by rw [hC]; exact Nat.lt_succ_self _
  have hDC : h₂.objs.size ≠ C := Nat.ne_of_lt hCg
  have hIC : I ≠ C := Nat.ne_of_lt (Nat.lt_trans hIlt hCg)
  have up23 : ∀ b o, H2.get? b = some o → H3.get? b = some o := fun b o e => by rw [← hH3]; exact Heap.get?_push_of_some _ e
  have old : ∀ b o, h₂.get? b = some o → H3.get? b = some o := fun b o e => up23 b o (by rw [← hH2]; exact Heap.get?_push_of_some _ e)
  have hacc : H3.get? h₂.objs.size = some (LCg.lst []) := up23 _ _ (by rw [← hH2]; exact Heap.get?_push_size _ rfl)
  have loop : codeAny (model prog w) A (.compLoop (.ListComp (.Name x ex) [⟨.Name y py, i0, [], 0⟩, ⟨.Name x px, .Name y ey, [], 0⟩] scope pos) 0 (.ref I) (.ref h₂.objs.size) (compEnvC scope [] C env))
      (compPost (model prog w) A E none Q (.ref h₂.objs.size) C) { s₁ with heap := H3 } := by
    refine outer_loop (H₀ := s₁.heap) (rows := rows) (s₀ := { s₁ with heap := H3 }) hh (by rw [← hlen]; simpa using S.walks) hkind (lookup_relabel_local hx) (lookup_relabel_local hy) hb hb' (Ne.symm (Nat.ne_of_lt hIlt)) (hDC) (hIC) (fun q => Nat.lt_irrefl _ (S.below _ q))
      (fun q => Nat.lt_asymm hCg (S.below _ q)) hszf (fun i v hv => ?_) (fun b o e => ?_) S.it (S.walks.frame 0 _ _ S.start fun b _ o e => old b o e) hacc ⟨_, hns⟩ ?_
    · exact hrows i v (by simpa using hv)
    · have hb2 := Heap.lt_size (k2 b o e)
      refine ⟨fun q => (by rw [q, hI] at e; cases e), Nat.ne_of_lt hb2, Nat.ne_of_lt (Nat.lt_trans hb2 hCg), old _ _ (k2 b o e)⟩
    · intro h tk hR hD k
      obtain ⟨m, hm⟩ := hR
      refine ⟨m, hm, fun h' hs' => fin _ h' tk ?_ ((Kp.same hs').get (by simpa using hDC) hD) fun b o e => ?_⟩
      · cases q : s₁.heap.get? h₂.objs.size with
        | none => rfl
        | some o => exact absurd (Heap.lt_size (k2 _ _ q)) (Nat.lt_irrefl _)
      · have hb2 : b < h₂.objs.size := Heap.lt_size (k2 b o e)
        have hbI : b ≠ I := fun q => by rw [q, hI] at e; cases e
        refine (Kp.same hs') b o (by simpa using Nat.ne_of_lt (Nat.lt_trans hb2 hCg)) (k b o ?_ (old _ _ (k2 b o e)))
        show b ∉ [I, h₂.objs.size, C]
        intro q
        rcases List.mem_cons.mp q with q | q
        · exact hbI q
        · rcases List.mem_cons.mp q with q | q
          · exact Nat.ne_of_lt hb2 q
          · exact Nat.ne_of_lt (Nat.lt_trans hb2 hCg) (List.mem_singleton.mp q)
  exact codeAny_compStart_list loop (S.walks.self 0 _ _ _ (S.walks.frame 0 _ _ S.start fun b _ o e => old b o e) loop)

/-- a for over whatever walks: its word (Inv), told of the heap -/
theorem for_walk {x : Str} {px pos : Pos} {iter : Expr} {body : List Stmt} {env : Env} {Q : Flow → Shared → Prop}
    (hiter : wpAny (model prog w) A (eval iter env) (fun xv s₁ => wpAny (model prog w) A (pyIter xv) (fun it s₂ => ∃ I fp n P St, it = .ref I ∧ Src prog w A I fp n P St s₂.heap ∧
      ∃ Inv : Nat → Heap → Prop, (∀ i h h', Inv i h → Kp [I] h h' → (∃ o, h.get? I = some o) → Inv i h') ∧ Inv 0 s₂.heap ∧
      (∀ i v h tk, i < n → P i v → Inv i h → (∃ o, h.get? I = some o) →
        wpAny (model prog w) A (assign (.Name x px) env v) (fun _ s₃ => wpAny (model prog w) A (execs body env) (fun fl s₄ => fl = .next ∧ ∃ h' tk', s₄ = { s₂ with heap := h', toks := tk' } ∧ Inv (i + 1) h' ∧ ∀ b ∈ fp, ∀ o, h.get? b = some o → h'.get? b = some o) (fun _ _ => False) s₃) (fun _ _ => False) { s₂ with heap := h, toks := tk }) ∧
      (∀ h tk, Inv n h → Q .next { s₂ with heap := h, toks := tk })) E s₁) E s)
    (hs : ∀ x, foldedSetIterable iter env x = pure x := by intro _; rfl) :
    wpAny (model prog w) A (exec (.For (.Name x px) iter body [] pos) env) Q E s := by
  refine wpAny_For (wpAny_mono hiter (fun xv s₁ h₁ => wpAny_mono h₁ (fun it s₂ h₂ => ?_) fun _ _ e => e) fun _ _ e => e) hs
  obtain ⟨I, fp, n, P, St, rfl, S, Inv, inv_kp, i0, step, fin⟩ := h₂
  refine codeAny_forLoop_any (fun k s' => ∃ h tk i, s' = { s₂ with heap := h, toks := tk } ∧ i ≤ n ∧ k = n + 1 - i ∧ St i h ∧ Inv i h) (fun k s' hI => ?_) (n + 1) ⟨s₂.heap, s₂.toks, 0, rfl, Nat.zero_le _, rfl, S.start, i0⟩
  obtain ⟨h, tk, i, rfl, hi, rfl, hst, hinv⟩ := hI
  by_cases hlt : i < n
  · refine S.walks.item i _ _ _ hlt hst fun v h₁ tk₁ hP hst₁ hk₁ => ?_
    refine wpAny_of_eq (show letOwnedTupleGo (.Name x px) (.ref I) v = pure () from rfl) ?_
    refine wpAny_mono (step i v h₁ tk₁ hlt hP (inv_kp _ _ _ hinv hk₁ (S.it _ _ hst)) (S.it _ _ hst₁)) (fun _ s₃ h₃ => ?_) fun _ _ f => f.elim
    refine wpAny_mono h₃ (fun fl s₄ h₄ => ?_) fun _ _ f => f.elim
    obtain ⟨rfl, h', tk', rfl, hinv', hfp⟩ := h₄
    exact ⟨n + 1 - (i + 1), by omega, h', tk', i + 1, rfl, hlt, rfl, S.walks.frame _ _ _ hst₁ hfp, hinv'⟩
  · obtain rfl : i = n := Nat.le_antisymm hi (Nat.not_lt.mp hlt)
    refine S.walks.done _ _ _ hst fun h₂ tk₂ hk₂ => ?_
    rw [execs_nil]
    exact wpAny_pure (fin h₂ tk₂ (inv_kp _ _ _ hinv hk₂ (S.it _ _ hst)))

/-- what a while's turn comes to -/
def WhileEnd (s : Shared) (Inv : Nat → Heap → Prop) (k : Nat) (fl : Flow) (s₃ : Shared) : Prop := fl = .next ∧ ∃ k' h' tk', k' < k ∧ s₃ = { s with heap := h', toks := tk' } ∧ Inv k' h'
/-- a while by its word and a measure -/
theorem while_inv {test : Expr} {body : List Stmt} {pos : Pos} {env : Env} {Q : Flow → Shared → Prop} (Inv : Nat → Heap → Prop) (n : Nat) (h0 : Inv n s.heap)
    (turn : ∀ k h tk, Inv k h → wpAny (model prog w) A (isTrue test env (eval test env)) (fun b s₂ =>
      if b = true then wpAny (model prog w) A (execs body env) (WhileEnd s Inv k) (fun _ _ => False) s₂ else Q .next s₂) (fun _ _ => False) { s with heap := h, toks := tk }) :
    wpAny (model prog w) A (exec (.While test body [] pos) env) Q E s := by
  refine wpAny_While ?_
  refine codeAny_whileLoop (fun k s' => ∃ h tk, s' = { s with heap := h, toks := tk } ∧ Inv k h) (fun k s' hI => ?_) n ⟨s.heap, s.toks, rfl, h0⟩
  obtain ⟨h, tk, rfl, hinv⟩ := hI
  refine wpAny_mono (turn k h tk hinv) (fun b s₂ h₂ => ?_) fun _ _ f => f.elim
  cases b with
  | false =>
    simp only [Bool.false_eq_true, if_false] at h₂ ⊢
    rw [execs_nil]
    exact wpAny_pure h₂
  | true =>
    simp only [if_true] at h₂ ⊢
    refine wpAny_mono h₂ (fun fl s₃ h₃ => ?_) fun _ _ f => f.elim
    obtain ⟨rfl, k', h', tk', hk, rfl, hinv'⟩ := h₃
    exact ⟨k', hk, h', tk', rfl, hinv'⟩
end
end Mine
end

section
open PySem PySem.W PyProof.Rows PySem.Calls PySem.Spec
namespace Mine
section
variable {prog : Program} {w : World} {A : Around} {E : Value → Shared → Prop} {s : Shared}

/-- what an iterator at hand must bring for a for's rest -/
def ForAt (prog : Program) (w : World) (A : Around) (x : Str) (px : Pos) (body : List Stmt) (env : Env) (Q : Flow → Shared → Prop) (it : Value) (s₂ : Shared) : Prop :=
  ∃ I fp n P St, it = .ref I ∧ Src prog w A I fp n P St s₂.heap ∧
      ∃ Inv : Nat → Heap → Prop, (∀ i h h', Inv i h → Kp [I] h h' → (∃ o, h.get? I = some o) → Inv i h') ∧ Inv 0 s₂.heap ∧
      (∀ i v h tk, i < n → P i v → Inv i h → (∃ o, h.get? I = some o) →
        wpAny (model prog w) A (assign (.Name x px) env v) (fun _ s₃ => wpAny (model prog w) A (execs body env) (fun fl s₄ => fl = .next ∧ ∃ h' tk', s₄ = { s₂ with heap := h', toks := tk' } ∧ Inv (i + 1) h' ∧ ∀ b ∈ fp, ∀ o, h.get? b = some o → h'.get? b = some o) (fun _ _ => False) s₃) (fun _ _ => False) { s₂ with heap := h, toks := tk }) ∧
      (∀ h tk, Inv n h → Q .next { s₂ with heap := h, toks := tk })

theorem for_at {x : Str} {px pos : Pos} {iter : Expr} {body : List Stmt} {env : Env} {Q : Flow → Shared → Prop}
    (h : wpAny (model prog w) A (eval iter env) (fun xv s₁ => wpAny (model prog w) A (pyIter xv) (ForAt prog w A x px body env Q) E s₁) E s)
    (hs : ∀ x, foldedSetIterable iter env x = pure x := by intro _; rfl) :
    wpAny (model prog w) A (exec (.For (.Name x px) iter body [] pos) env) Q E s := for_walk h hs

/-- frame and ledger, as they stand at a turn's end -/
def TurnEnd (g : Heap) (L : Addr) (own : List (Addr × Obj)) (J : (Str → Option Value) → List (Addr × Obj) → Prop) (s₀ : Shared) (fl : Flow) (s' : Shared) : Prop :=
  fl = .next ∧ ∃ h' tk' m' news', s' = { s₀ with heap := h', toks := tk' } ∧ Fr g L h' m' ∧ News g L h' (own ++ news') ∧ J m' news'

theorem news_kp {g h h' : Heap} {L : Addr} {news : List (Addr × Obj)} {W : List Addr} (N : News g L h news) (k : Kp W h h') (n : ∀ p ∈ news, p.1 ∉ W) : News g L h' news :=
  fun p hp => ⟨k _ _ (n p hp) (N p hp).1, (N p hp).2⟩
theorem fr_kp {g h h' : Heap} {L : Addr} {m : Str → Option Value} {W : List Addr} (F : Fr g L h m) (k : Kp W h h') (hL : L ∉ W) (hg : ∀ b ∈ W, g.get? b = none) : Fr g L h' m :=
  ⟨F.ns.at' (k.at hL), fun b o e => k b o (fun q => by rw [hg b q] at e; cases e) (F.keep b o e), F.above⟩

/-- a for over a walked thing: the frame and a ledger at fixed places, a word of both -/
theorem forAt_ledger {g : Heap} {x : Str} {px : Pos} {body : List Stmt} {env : Env} {Q : Flow → Shared → Prop} {I : Addr} {fp : List Addr} {n : Nat} {P : Nat → Value → Prop} {St : Nat → Heap → Prop} {s₂ : Shared} {m₀ : Str → Option Value} {news₀ : List (Addr × Obj)} {h₁ : Heap}
    (hx : env.kindOf x = some .local) (hp : (env.scope.kind == .class || (env.scope.kind == .module && env.locals != env.globals)) = false)
    (S : Src prog w A I fp n P St s₂.heap) (hI : h₁.get? I = none) (k₁ : ∀ b o, h₁.get? b = some o → s₂.heap.get? b = some o) (F : Fr g env.locals h₁ m₀) (N : News g env.locals h₁ news₀)
    (J : Nat → (Str → Option Value) → List (Addr × Obj) → Prop) (hj : J 0 m₀ news₀)
    (hfp : ∀ i m news h, J i m news → Fr g env.locals h m → News g env.locals h news → ∀ b ∈ fp, b = I ∨ (∃ o, g.get? b = some o) ∨ ∃ o, (b, o) ∈ news₀ ∧ ∀ i' m' news', J i' m' news' → (b, o) ∈ news')
    (hadr : ∀ i m news, J i m news → ∀ p ∈ news, ∃ q ∈ news₀, q.1 = p.1)
    (turn : ∀ i v m news h tk oI, i < n → P i v → J i m news → Fr g env.locals h (fun y => if y = x then some v else m y) → News g env.locals h ((I, oI) :: news) → (∀ p ∈ news₀, @LT.lt Nat _ p.1 I) →
      wpAny (model prog w) A (execs body env) (TurnEnd g env.locals [(I, oI)] (J (i + 1)) s₂) (fun _ _ => False) { s₂ with heap := h, toks := tk })
    (hIge : ∀ b o, h₁.get? b = some o → @LT.lt Nat _ b I)
    (done : ∀ m news h tk, J n m news → Fr g env.locals h m → News g env.locals h news → Q .next { s₂ with heap := h, toks := tk }) :
    ForAt prog w A x px body env Q (.ref I) s₂ := by
  have hgI : g.get? I = none := by
    cases e : g.get? I with
    | none => rfl
    | some o => have := F.keep _ _ e; rw [hI] at this; cases this
  have hLI : env.locals ≠ I := by
    obtain ⟨oL, _, _, eL, _⟩ := F.ns
    intro q; rw [← q, eL] at hI; cases hI
  have hlt : ∀ p ∈ news₀, @LT.lt Nat _ p.1 I := fun p hp => hIge _ _ (N p hp).1
  have hne : ∀ i m news, J i m news → ∀ p ∈ news, p.1 ≠ I := fun i m news hJ p hp q => by
    obtain ⟨r, hr, e⟩ := hadr i m news hJ p hp
    exact Nat.ne_of_lt (hlt r hr) (e.trans q)
  refine ⟨I, fp, n, P, St, rfl, S, fun i h => ∃ m news, J i m news ∧ Fr g env.locals h m ∧ News g env.locals h news, ?_, ⟨m₀, news₀, hj, F.keeps k₁, N.grown k₁⟩, ?_, ?_⟩
  · rintro i h h' ⟨m, news, hJ, F', N'⟩ k _
    exact ⟨m, news, hJ, fr_kp F' k (by simpa using hLI) (by intro b hb; rw [List.mem_singleton.mp hb]; exact hgI), news_kp N' k fun p hp => by simpa using hne i m news hJ p hp⟩
  · rintro i v h tk hi hP ⟨m, news, hJ, F', N'⟩ ⟨oI, hoI⟩
    refine wpAny_assign_Name (wpAny_storeName_local hx F'.ns (fun h₂ hn₂ hs₂ => ?_) hp)
    have k2 : Kp [env.locals] h h₂ := Kp.same hs₂
    have hoI₂ : h₂.get? I = some oI := k2.get (by simpa using Ne.symm hLI) hoI
    have F₂ : Fr g env.locals h₂ (fun y => if y = x then some v else m y) := F'.set hn₂ hs₂
    have N₂ : News g env.locals h₂ news := N'.set hs₂
    refine wpAny_mono (turn i v m news h₂ _ oI hi hP hJ F₂ (fun p hp => ?_) hlt) (fun fl s₄ h₄ => ?_) fun _ _ f => f
    · rcases List.mem_cons.mp hp with rfl | hp
      · exact ⟨hoI₂, Ne.symm hLI, hgI⟩
      · exact N₂ p hp
    · obtain ⟨rfl, h', tk', m', news', rfl, F₃, N₃, hJ'⟩ := h₄
      refine ⟨rfl, h', tk', rfl, ⟨m', news', hJ', F₃, fun p hp => N₃ p (List.mem_append_right _ hp)⟩, fun b hb o e => ?_⟩
      rcases hfp i m news h hJ F' N' b hb with rfl | ⟨o', eg⟩ | ⟨o', hm, hall⟩
      · have e2 : h₂.get? b = some o := k2.get (by simpa using Ne.symm hLI) e
        have : oI = o := by rw [hoI₂] at e2; cases e2; rfl
        rw [← this]
        exact (N₃ (b, oI) (List.mem_append_left _ (List.mem_singleton.mpr rfl))).1
      · have e1 := F'.keep _ _ eg
        have : o' = o := by rw [e1] at e; cases e; rfl
        rw [← this]; exact F₃.keep _ _ eg
      · have e1 := (N' (b, o') (hall _ _ _ hJ)).1
        have : o' = o := by rw [e1] at e; cases e; rfl
        rw [← this]; exact (N₃ (b, o') (List.mem_append_right _ (hall _ _ _ hJ'))).1
  · rintro h tk ⟨m, news, hJ, F', N'⟩
    exact done m news h tk hJ F' N'

theorem forAt_list {g : Heap} {x : Str} {px : Pos} {body : List Stmt} {env : Env} {Q : Flow → Shared → Prop} {ax : Addr} {its : List Value} {m₀ : Str → Option Value} {news₀ : List (Addr × Obj)} (hh : A.handled = none)
    (hx : env.kindOf x = some .local) (hp : (env.scope.kind == .class || (env.scope.kind == .module && env.locals != env.globals)) = false)
    (F : Fr g env.locals s.heap m₀) (N : News g env.locals s.heap news₀) (hl : s.heap.IsList ax its.toArray) (hsz : its.length ≤ sizeLine)
    (J : Nat → (Str → Option Value) → List (Addr × Obj) → Prop) (hj : J 0 m₀ news₀)
    (hax : (∃ o, g.get? ax = some o) ∨ ∃ o, (ax, o) ∈ news₀ ∧ ∀ i' m' news', J i' m' news' → (ax, o) ∈ news')
    (hadr : ∀ i m news, J i m news → ∀ p ∈ news, ∃ q ∈ news₀, q.1 = p.1)
    (turn : ∀ I i v m news h tk oI (s₂ : Shared), its[i]? = some v → J i m news → Fr g env.locals h (fun y => if y = x then some v else m y) → News g env.locals h ((I, oI) :: news) → (∀ p ∈ news₀, @LT.lt Nat _ p.1 I) → (∃ h₂, s₂ = { s with heap := h₂ }) →
      wpAny (model prog w) A (execs body env) (TurnEnd g env.locals [(I, oI)] (J (i + 1)) s₂) (fun _ _ => False) { s₂ with heap := h, toks := tk })
    (done : ∀ m news h tk, J its.length m news → Fr g env.locals h m → News g env.locals h news → Q .next { s with heap := h, toks := tk }) :
    wpAny (model prog w) A (pyIter (.ref ax)) (ForAt prog w A x px body env Q) E s := by
  have hlt : ax < s.heap.objs.size := by obtain ⟨_, e, _⟩ := hl; exact Heap.lt_size e
  refine wpAny_pyIter_list hl ?_
  have up : ∀ b o, s.heap.get? b = some o → (s.heap.push { cls := .type "list_iterator", data := .fields #[.ref ax, .int 0 0] }).get? b = some o := fun b o e => Heap.get?_push_of_some _ e
  refine forAt_ledger (fp := [s.heap.objs.size, ax]) (n := its.toArray.size) (P := fun i v => its.toArray[i]? = some v) hx hp
    ⟨Walks.list hh s.heap.objs.size ax (Nat.ne_of_lt hlt) its.toArray, by rw [List.size_toArray]; exact hsz, fun i h st => by obtain ⟨o, e, _⟩ := st.1; exact ⟨o, e⟩, ⟨⟨_, Heap.get?_push_size _ rfl, rfl, rfl⟩, hl.push _⟩, fun b hb => ?_⟩
    (fresh_ge (Nat.le_refl _)) up F N J hj (fun i m news h _ _ _ b hb => ?_) hadr (fun i v m news h tk oI hi hP hJ F' N' hlt' => turn _ i v m news h tk oI _ (by simpa using hP) hJ F' N' hlt' ⟨_, rfl⟩) (fun b o e => Heap.lt_size e) (fun m news h tk hJ F' N' => ?_)
  · show b < (s.heap.push _).objs.size
    rw [Heap.size_push]
    rcases List.mem_cons.mp hb with rfl | hb
    · exact Nat.lt_succ_self _
    · rw [List.mem_singleton.mp hb]; exact Nat.lt_succ_of_lt hlt
  · rcases List.mem_cons.mp hb with rfl | hb
    · exact .inl rfl
    · rw [List.mem_singleton.mp hb]; exact .inr hax
  · rw [List.size_toArray] at hJ
    exact done m news h tk hJ F' N'

theorem forAt_range {g : Heap} {x : Str} {px : Pos} {body : List Stmt} {env : Env} {Q : Flow → Shared → Prop} {r : Addr} {a b : Int} {t u v : Tok} {n : Nat} {m₀ : Str → Option Value} {news₀ : List (Addr × Obj)} (hh : A.handled = none)
    (hx : env.kindOf x = some .local) (hp : (env.scope.kind == .class || (env.scope.kind == .module && env.locals != env.globals)) = false)
    (F : Fr g env.locals s.heap m₀) (N : News g env.locals s.heap news₀) (hr : IsRange s.heap r a b 1 t u v) (hsm : Builtin.Range.small a b 1 = true) (hn : Builtin.Range.rangeSize a b 1 = ((n : Nat) : Int)) (hsz : n ≤ sizeLine)
    (J : Nat → (Str → Option Value) → List (Addr × Obj) → Prop) (hj : J 0 m₀ news₀)
    (hadr : ∀ i m news, J i m news → ∀ p ∈ news, ∃ q ∈ news₀, q.1 = p.1)
    (turn : ∀ I i tv m news h tk oI (s₂ : Shared), i < n → J i m news → Fr g env.locals h (fun y => if y = x then some (.int (a + (i : Int)) tv) else m y) → News g env.locals h ((I, oI) :: news) → (∀ p ∈ news₀, @LT.lt Nat _ p.1 I) → (∃ h₂, s₂ = { s with heap := h₂ }) →
      wpAny (model prog w) A (execs body env) (TurnEnd g env.locals [(I, oI)] (J (i + 1)) s₂) (fun _ _ => False) { s₂ with heap := h, toks := tk })
    (done : ∀ m news h tk, J n m news → Fr g env.locals h m → News g env.locals h news → Q .next { s with heap := h, toks := tk }) :
    wpAny (model prog w) A (pyIter (.ref r)) (ForAt prog w A x px body env Q) E s := by
  refine wpAny_pyIter_range hr hsm ?_
  refine forAt_ledger (fp := [s.heap.objs.size]) (n := n) (P := fun i v => ∃ t, v = .int (a + (i : Int)) t) hx hp
    ⟨LCg.range_walks hh a n, hsz, fun i h st => ⟨_, st⟩, by show IsRangeIter _ _ _ _ _; rw [hn]; simpa using Heap.get?_push_size _ rfl, fun b hb => ?_⟩
    (fresh_ge (Nat.le_refl _)) (fun b o e => Heap.get?_push_of_some _ e) F N J hj (fun i m news h _ _ _ b hb => .inl (List.mem_singleton.mp hb)) hadr (fun i v m news h tk oI hi hP hJ F' N' hlt' => ?_) (fun b o e => Heap.lt_size e) (fun m news h tk hJ F' N' => done m news h tk hJ F' N')
  · rw [List.mem_singleton.mp hb]
    show s.heap.objs.size < (s.heap.push _).objs.size
    rw [Heap.size_push]; exact Nat.lt_succ_self _
  · obtain ⟨t, rfl⟩ := hP
    exact turn _ i t m news h tk oI _ hi hJ F' N' hlt' ⟨_, rfl⟩
end
end Mine
end

section
open PySem PySem.W PyProof.Rows PySem.Calls PySem.Spec
namespace Mine
section
variable {prog : Program} {w : World} {A : Around} {E : Value → Shared → Prop} {s : Shared} {g : Heap} {L l : Addr} {m : Str → Option Value} {news : List (Addr × Obj)} {ys : List Value} {xs : List Int} {k : Int} {u : Tok} {value slice : Expr} {Q : Value → Shared → Prop} {nn : Nat}

theorem ints_at {i : Nat} (hi : IntsAre ys xs) (h : i < xs.length) : ∃ t, ys[i]? = some (.int (xs.getD i 0) t) := by
  have hl : i < ys.length := by rw [IntsAre.length hi]; exact h
  obtain ⟨a, t, e, hk⟩ := IntsAre.at hi i ys[i] (List.getElem?_eq_getElem hl)
  refine ⟨t, ?_⟩
  rw [List.getElem?_eq_getElem hl, e, List.getD_eq_getElem?_getD, hk]; rfl

theorem item_at (hl : s.heap.IsList l ys.toArray) (hi : IntsAre ys xs) (h0 : 0 ≤ k) (h1 : k < (xs.length : Int)) (hf : k < 2 ^ 63) (h : ∀ t, Q (.int (xs.getD k.toNat 0) t) s)
    (hs : subscripted slice false (.ref l) (.int k u) = operate [.ref l, .int k u] (getItem (.ref l) (.int k u)) := by with_unfolding_all rfl) :
    wpAny (model prog w) A (subscriptTail value slice (.ref l) (.int k u)) Q E s := by
  obtain ⟨t, e⟩ := ints_at (i := k.toNat) hi (by omega)
  exact tail_any hl.typeIs slot_list_getitem.lookup (wpAny_getItem_list hl h0 hf (by simpa using e) (h t)) hs
theorem item_led (N : News g L s.heap news) (hm : (l, listOf ys.toArray nn) ∈ news) (hi : IntsAre ys xs) (h0 : 0 ≤ k) (h1 : k < (xs.length : Int)) (hf : k < 2 ^ 63) (h : ∀ t, Q (.int (xs.getD k.toNat 0) t) s)
    (hs : subscripted slice false (.ref l) (.int k u) = operate [.ref l, .int k u] (getItem (.ref l) (.int k u)) := by with_unfolding_all rfl) :
    wpAny (model prog w) A (subscriptTail value slice (.ref l) (.int k u)) Q E s :=
  item_at ⟨_, (N _ hm).1, rfl, _, rfl⟩ hi h0 h1 hf h hs
theorem item_base (F : Fr g L s.heap m) (hl : g.IsList l ys.toArray) (hi : IntsAre ys xs) (h0 : 0 ≤ k) (h1 : k < (xs.length : Int)) (hf : k < 2 ^ 63) (h : ∀ t, Q (.int (xs.getD k.toNat 0) t) s)
    (hs : subscripted slice false (.ref l) (.int k u) = operate [.ref l, .int k u] (getItem (.ref l) (.int k u)) := by with_unfolding_all rfl) :
    wpAny (model prog w) A (subscriptTail value slice (.ref l) (.int k u)) Q E s :=
  item_at (by obtain ⟨o, e, r⟩ := hl; exact ⟨o, F.keep _ _ e, r⟩) hi h0 h1 hf h hs

theorem py_ok {a b : Int} (h0 : 0 < b) (h1 : b < 2 ^ 63) : Builtin.divisionGoesByPylong a b = false := by
  refine PyProof.noPylong_of_log2 ?_
  have h2 : b.natAbs < 2 ^ 63 := by omega
  have h3 : b.natAbs.log2 < 63 := (Nat.log2_lt (by omega)).mpr h2
  omega
theorem fdiv_ok {a b : Int} {t t' : Tok} (h0 : 0 < b) (h1 : b < 2 ^ 63) (h : Q (.int (a.fdiv b) s.toks) { s with toks := s.toks + 1 }) : wpAny (model prog w) A (binaryOp .FloorDiv (.int a t) (.int b t')) Q E s :=
  floordiv_int (by omega) h (Or.inl (py_ok h0 h1))

/-- the same at a loop's own number -/
theorem item_ledK {n : Nat} (N : News g L s.heap news) (hm : (l, listOf ys.toArray nn) ∈ news) (hi : IntsAre ys xs) (h0 : 0 ≤ k) (h1 : k < 0 + ((((n : Int) - 0).toNat : Nat) : Int)) (hn : n ≤ 4) (he : xs.length = n) (h : ∀ t, Q (.int (xs.getD k.toNat 0) t) s)
    (hs : subscripted slice false (.ref l) (.int k u) = operate [.ref l, .int k u] (getItem (.ref l) (.int k u)) := by with_unfolding_all rfl) :
    wpAny (model prog w) A (subscriptTail value slice (.ref l) (.int k u)) Q E s :=
  item_led N hm hi h0 (by omega) (by omega) h hs
theorem item_baseK {n : Nat} (F : Fr g L s.heap m) (hl : g.IsList l ys.toArray) (hi : IntsAre ys xs) (h0 : 0 ≤ k) (h1 : k < 0 + ((((n : Int) - 0).toNat : Nat) : Int)) (hn : n ≤ 4) (he : xs.length = n) (h : ∀ t, Q (.int (xs.getD k.toNat 0) t) s)
    (hs : subscripted slice false (.ref l) (.int k u) = operate [.ref l, .int k u] (getItem (.ref l) (.int k u)) := by with_unfolding_all rfl) :
    wpAny (model prog w) A (subscriptTail value slice (.ref l) (.int k u)) Q E s :=
  item_base F hl hi h0 (by omega) (by omega) h hs
theorem len_mapK {n : Nat} {f : Int → Int} : (List.map f (rangeKs 0 ((n : Int) - 0).toNat)).length = n := by rw [List.length_map, rangeKs_length]; omega

theorem get_K {n : Nat} {D : Addr} (N : News g L s.heap news) (hm : (D, listOf ys.toArray nn) ∈ news) (hi : IntsAre ys xs) (h0 : 0 ≤ k) (h1 : k < ((((n : Int) - 0).toNat : Nat) : Int)) (hn : n ≤ 4) (he : xs.length = n) (h : ∀ t, Q (.int (xs.getD k.toNat 0) t) s) :
    wpAny (model prog w) A (getItem (.ref D) (.int k u)) Q E s := ksa_get (n := nn) N hm hi h0 (by omega) (by omega) h
theorem set_K {n : Nat} {D : Addr} {x : Int} {t : Tok} {news' : List (Addr × Obj)} {Q : Unit → Shared → Prop} (F : Fr g L s.heap m) (N : News g L s.heap news) (U : Upd D (listOf ys.toArray nn) (listOf (ys.set k.toNat (.int x u)).toArray nn) news news') (hi : IntsAre ys xs) (h0 : 0 ≤ k) (h1 : k < ((((n : Int) - 0).toNat : Nat) : Int)) (hn : n ≤ 4) (he : xs.length = n)
    (h : ∀ h', Fr g L h' m → News g L h' news' → IntsAre (ys.set k.toNat (.int x u)) (xs.set k.toNat x) → (xs.set k.toNat x).length = n → (xs.set k.toNat x).sum = xs.sum - xs.getD k.toNat 0 + x → Q () { s with heap := h' }) :
    wpAny (model prog w) A (setItem (.ref D) (.int k t) (.int x u)) Q E s :=
  ksa_set (n := nn) F N U hi h0 (by omega) (by omega) fun h' F' N' a b c => h h' F' N' a (b.trans he) c
end
end Mine
end

section
open PySem PySem.W PyProof.Rows PySem.Calls PySem.Spec
namespace Mine
section
variable {prog : Program} {w : World} {A : Around} {E : Value → Shared → Prop} {s : Shared} {g : Heap} {L : Addr} {m : Str → Option Value} {news : List (Addr × Obj)}

/-- what an element of a comprehension comes to: all stands, new things (new) stand beside, the word holds one turn on -/
def EltEnd (R : List (Addr × Obj) → List Value → Prop) (s₃ : Shared) (dl : List (Addr × Obj)) (ys : List Value) (y : Value) (s₅ : Shared) : Prop :=
  ∃ h' tk' new, s₅ = { s₃ with heap := h', toks := tk' } ∧ (∀ b o, s₃.heap.get? b = some o → h'.get? b = some o) ∧ (∀ p ∈ new, h'.get? p.1 = some p.2 ∧ s₃.heap.get? p.1 = none) ∧ R (new ++ dl) (ys ++ [y])

/-- what the iterator of a comprehension must bring -/
def CompAt (prog : Program) (w : World) (A : Around) (elt : Expr) (x : Str) (scope : Scope) (cl : List (Str × Addr)) (env : Env) (Q : Value → Shared → Prop) (it : Value) (s₂ : Shared) : Prop :=
  ∃ I fp n P St, it = .ref I ∧ Src prog w A I fp n P St s₂.heap ∧
      ∃ Acc : List Addr → Nat → List Value → Heap → Prop, (∀ X i ys h h', Acc X i ys h → Kp X h h' → Acc X i ys h') ∧ (∀ X h, (∀ b o, s₂.heap.get? b = some o → h.get? b = some o) → Acc X 0 [] h) ∧
      (∀ C X i v ys (s₃ : Shared) (E' : Value → Shared → Prop), s₂.heap.objs.size ≤ C → C ∈ X → i < n → P i v → (∃ m, s₃.heap.Ns C m ∧ m x = some v) → Kp [I] s₂.heap s₃.heap → (∀ b ∈ X, ∃ o, s₃.heap.get? b = some o) → Acc X i ys s₃.heap →
        wpAny (model prog w) A (forIn ([] : List Expr) true fun c r => if r = true then do let ok ← isTrue c (compEnvC scope cl C env) (eval c (compEnvC scope cl C env)); pure (ForInStep.yield ok) else pure (ForInStep.yield r))
          (fun ok s₄ => if ok = true then wpAny (model prog w) A (eval elt (compEnvC scope cl C env)) (fun y s₅ => Keeps s₃ s₅ ∧ Acc X (i + 1) (ys ++ [y]) s₅.heap) E' s₄ else Keeps s₃ s₄ ∧ Acc X (i + 1) ys s₄.heap) E' s₃) ∧
      (∀ D X h tk ys, s₂.heap.get? D = none → D ∈ X → h.get? D = some (LCg.lst ys) → Acc X n ys h → Kp [I] s₂.heap h → ys.length ≤ n → Q (.ref D) { s₂ with heap := h, toks := tk })

theorem comp_at {elt iter : Expr} {x : Str} {px : Pos} {scope : Scope} {cl : List (Str × Addr)} {pos : Pos} {env : Env} {Q : Value → Shared → Prop}
    (hclos : closureFor scope env = pure cl) (hkind : scope.kind = .function) (hnames : ∀ y ∈ scope.names, y.2 = .local → scope.names.lookup y.1 = some .local) (hx : scope.names.lookup x = some .local)
    (hcl : ∀ n, cellsFrom n scope.names cl = cl) (hpc : ∀ H, pushCells H scope.names = H)
    (h : wpAny (model prog w) A (eval iter env) (fun xv s₁ => wpAny (model prog w) A (pyIter xv) (CompAt prog w A elt x scope cl env Q) E s₁) E s)
    (hs : ∀ x, foldedSetIterable iter env x = pure x := by intro _; rfl) :
    wpAny (model prog w) A (eval (.ListComp elt [⟨.Name x px, iter, [], 0⟩] scope pos) env) Q E s := listcomp_local hclos hkind hnames hx hcl hpc h hs

theorem compAt_led {elt : Expr} {x : Str} {scope : Scope} {cl : List (Str × Addr)} {env : Env} {Q : Value → Shared → Prop} {I : Addr} {fp : List Addr} {n : Nat} {P : Nat → Value → Prop} {St : Nat → Heap → Prop} {s₂ : Shared} {h₁ : Heap}
    (S : Src prog w A I fp n P St s₂.heap) (hI : h₁.get? I = none) (k₁ : ∀ b o, h₁.get? b = some o → s₂.heap.get? b = some o) (F : Fr g L h₁ m) (N : News g L h₁ news)
    (R : Nat → List (Addr × Obj) → List Value → Prop) (R0 : R 0 [] [])
    (turn : ∀ C i v oC m₂ ys dl (s₃ : Shared) (E' : Value → Shared → Prop), i < n → P i v → R i dl ys → LCg.NsObj oC m₂ → m₂ x = some v → Fr g L s₃.heap m → News g L s₃.heap ((C, oC) :: (dl ++ news)) → (∀ p ∈ news, p.1 ≠ C) → (∀ p ∈ dl, p.1 ≠ C) →
      wpAny (model prog w) A (eval elt (compEnvC scope cl C env)) (EltEnd (R (i + 1)) s₃ dl ys) E' s₃)
    (fin : ∀ D dl h tk ys, Fr g L h m → News g L h ((D, LCg.lst ys) :: (dl ++ news)) → (∀ p ∈ dl, h₁.get? p.1 = none) → h₁.get? D = none → (∀ p ∈ dl, p.1 ≠ D) → R n dl ys → (∀ b o, h₁.get? b = some o → h.get? b = some o) → Q (.ref D) { s₂ with heap := h, toks := tk }) :
    CompAt prog w A elt x scope cl env Q (.ref I) s₂ := by
  have gnone : ∀ b, h₁.get? b = none → g.get? b = none := fun b hb => by
    cases e : g.get? b with
    | none => rfl
    | some o => have := F.keep _ _ e; rw [hb] at this; cases this
  have hL : ∃ o, h₁.get? L = some o := by obtain ⟨o, _, _, e, _⟩ := F.ns; exact ⟨o, e⟩
  have neL : ∀ b, h₁.get? b = none → b ≠ L := fun b hb q => by obtain ⟨o, e⟩ := hL; rw [← q, hb] at e; cases e
  have kI : ∀ {h : Heap}, Kp [I] s₂.heap h → ∀ b o, h₁.get? b = some o → h.get? b = some o := fun k b o e => k b o (fun q => by rw [List.mem_singleton.mp q, hI] at e; cases e) (k₁ b o e)
  refine ⟨I, fp, n, P, St, rfl, S, fun X i ys h => ∃ dl, R i dl ys ∧ ∀ p ∈ dl, h.get? p.1 = some p.2 ∧ h₁.get? p.1 = none ∧ p.1 ∉ X, ?_, ?_, ?_, ?_⟩
  · rintro X i ys h h' ⟨dl, hr, hd⟩ k
    exact ⟨dl, hr, fun p hp => ⟨k _ _ (hd p hp).2.2 (hd p hp).1, (hd p hp).2⟩⟩
  · intro X h k
    exact ⟨[], R0, fun p hp => nomatch hp⟩
  · rintro C X i v ys s₃ E' hC hCX0 hi hP ⟨m₂, hn, hv⟩ k hX ⟨dl, hr, hd⟩
    refine wpAny_tests_nil ?_
    simp only [if_true]
    obtain ⟨oC, eC, hoC⟩ := LCg.ns_obj hn
    have hC₁ : h₁.get? C = none := by
      cases e : h₁.get? C with
      | none => rfl
      | some o => exact absurd (Heap.lt_size (k₁ _ _ e)) (Nat.not_lt.mpr hC)
    have F₃ : Fr g L s₃.heap m := F.keeps (kI k)
    have N₃ : News g L s₃.heap news := N.grown (kI k)
    have neC : ∀ p ∈ news, p.1 ≠ C := fun p hp q => by have := (N p hp).1; rw [q, hC₁] at this; cases this
    have hCX : ∀ p ∈ dl, p.1 ≠ C := fun p hp q => (hd p hp).2.2 (q ▸ hCX0)
    · refine wpAny_mono (turn C i v oC m₂ ys dl s₃ E' hi hP hr hoC hv F₃ (fun p hp => ?_) neC hCX) (fun y s₅ h₅ => ?_) fun _ _ e => e
      · rcases List.mem_cons.mp hp with rfl | hp
        · exact ⟨eC, neL _ hC₁, gnone _ hC₁⟩
        · rcases List.mem_append.mp hp with hp | hp
          · exact ⟨(hd p hp).1, neL _ (hd p hp).2.1, gnone _ (hd p hp).2.1⟩
          · exact N₃ p hp
      · obtain ⟨h', tk', new, rfl, kk, hnew, hr'⟩ := h₅
        refine ⟨⟨h', tk', rfl, kk⟩, new ++ dl, hr', fun p hp => ?_⟩
        rcases List.mem_append.mp hp with hp | hp
        · refine ⟨(hnew p hp).1, ?_, fun q => ?_⟩
          · cases e : h₁.get? p.1 with
            | none => rfl
            | some o => have := kI k _ _ e; rw [(hnew p hp).2] at this; cases this
          · obtain ⟨o, e⟩ := hX _ q
            rw [(hnew p hp).2] at e; cases e
        · exact ⟨kk _ _ (hd p hp).1, (hd p hp).2⟩
  · rintro D X h tk ys hD hDX hd' ⟨dl, hr, hd⟩ k hl
    have hD₁ : h₁.get? D = none := by
      cases e : h₁.get? D with
      | none => rfl
      | some o => have := k₁ _ _ e; rw [hD] at this; cases this
    refine fin D dl h tk ys (F.keeps (kI k)) (fun p hp => ?_) (fun p hp => (hd p hp).2.1) hD₁ (fun p hp q => (hd p hp).2.2 (q ▸ hDX)) hr (kI k)
    rcases List.mem_cons.mp hp with rfl | hp
    · exact ⟨hd', neL _ hD₁, gnone _ hD₁⟩
    · rcases List.mem_append.mp hp with hp | hp
      · exact ⟨(hd p hp).1, neL _ (hd p hp).2.1, gnone _ (hd p hp).2.1⟩
      · exact (N.grown (kI k)) p hp

/-- over a range: the numbers in turn -/
theorem compAt_range {elt : Expr} {x : Str} {scope : Scope} {cl : List (Str × Addr)} {env : Env} {Q : Value → Shared → Prop} {r : Addr} {a b : Int} {t u v : Tok} {n : Nat} (hh : A.handled = none)
    (F : Fr g L s.heap m) (N : News g L s.heap news) (hr : IsRange s.heap r a b 1 t u v) (hsm : Builtin.Range.small a b 1 = true) (hn : Builtin.Range.rangeSize a b 1 = ((n : Nat) : Int)) (hsz : n ≤ sizeLine)
    (R : Nat → List (Addr × Obj) → List Value → Prop) (R0 : R 0 [] [])
    (turn : ∀ C i tv oC m₂ ys dl (s₃ : Shared) (E' : Value → Shared → Prop), i < n → R i dl ys → LCg.NsObj oC m₂ → m₂ x = some (.int (a + (i : Int)) tv) → Fr g L s₃.heap m → News g L s₃.heap ((C, oC) :: (dl ++ news)) → (∀ p ∈ news, p.1 ≠ C) → (∀ p ∈ dl, p.1 ≠ C) →
      wpAny (model prog w) A (eval elt (compEnvC scope cl C env)) (EltEnd (R (i + 1)) s₃ dl ys) E' s₃)
    (fin : ∀ D dl h tk ys, Fr g L h m → News g L h ((D, LCg.lst ys) :: (dl ++ news)) → (∀ p ∈ dl, s.heap.get? p.1 = none) → s.heap.get? D = none → (∀ p ∈ dl, p.1 ≠ D) → R n dl ys → ∀ h₂, Q (.ref D) { ({ s with heap := h₂ } : Shared) with heap := h, toks := tk }) :
    wpAny (model prog w) A (pyIter (.ref r)) (CompAt prog w A elt x scope cl env Q) E s := by
  refine src_range hh hr hsm hn hsz fun I h' hI k hS => ?_
  obtain ⟨St, S⟩ := hS
  refine compAt_led (h₁ := s.heap) S hI k F N R R0 (fun C i v oC m₂ ys dl s₃ E' hi hP hR hoC hv F' N' h1 h2 => ?_) (fun D dl h tk ys F' N' h1 h2 h3 h4 _ => fin D dl h tk ys F' N' h1 h2 h3 h4 h')
  obtain ⟨tv, rfl⟩ := hP
  exact turn C i tv oC m₂ ys dl s₃ E' hi hR hoC hv F' N' h1 h2
/-- over a list -/
theorem compAt_list {elt : Expr} {x : Str} {scope : Scope} {cl : List (Str × Addr)} {env : Env} {Q : Value → Shared → Prop} {ax : Addr} {its : List Value} (hh : A.handled = none)
    (F : Fr g L s.heap m) (N : News g L s.heap news) (hl : s.heap.IsList ax its.toArray) (hsz : its.length ≤ sizeLine)
    (R : Nat → List (Addr × Obj) → List Value → Prop) (R0 : R 0 [] [])
    (turn : ∀ C i v oC m₂ ys dl (s₃ : Shared) (E' : Value → Shared → Prop), its[i]? = some v → R i dl ys → LCg.NsObj oC m₂ → m₂ x = some v → Fr g L s₃.heap m → News g L s₃.heap ((C, oC) :: (dl ++ news)) → (∀ p ∈ news, p.1 ≠ C) → (∀ p ∈ dl, p.1 ≠ C) →
      wpAny (model prog w) A (eval elt (compEnvC scope cl C env)) (EltEnd (R (i + 1)) s₃ dl ys) E' s₃)
    (fin : ∀ D dl h tk ys, Fr g L h m → News g L h ((D, LCg.lst ys) :: (dl ++ news)) → (∀ p ∈ dl, s.heap.get? p.1 = none) → s.heap.get? D = none → (∀ p ∈ dl, p.1 ≠ D) → R its.length dl ys → ∀ h₂, Q (.ref D) { ({ s with heap := h₂ } : Shared) with heap := h, toks := tk }) :
    wpAny (model prog w) A (pyIter (.ref ax)) (CompAt prog w A elt x scope cl env Q) E s := by
  refine src_list hh hl (by rw [List.size_toArray]; exact hsz) fun I h' hI k hS => ?_
  obtain ⟨St, S⟩ := hS
  refine compAt_led (h₁ := s.heap) S hI k F N R R0 (fun C i v oC m₂ ys dl s₃ E' hi hP hR hoC hv F' N' h1 h2 => turn C i v oC m₂ ys dl s₃ E' (by simpa using hP) hR hoC hv F' N' h1 h2)
    (fun D dl h tk ys F' N' h1 h2 h3 h4 _ => fin D dl h tk ys F' N' h1 h2 h3 (by simpa using h4) h')
/-- the same, told that all that stood stands -/
theorem compAt_listK {elt : Expr} {x : Str} {scope : Scope} {cl : List (Str × Addr)} {env : Env} {Q : Value → Shared → Prop} {ax : Addr} {its : List Value} (hh : A.handled = none)
    (F : Fr g L s.heap m) (N : News g L s.heap news) (hl : s.heap.IsList ax its.toArray) (hsz : its.length ≤ sizeLine)
    (R : Nat → List (Addr × Obj) → List Value → Prop) (R0 : R 0 [] [])
    (turn : ∀ C i v oC m₂ ys dl (s₃ : Shared) (E' : Value → Shared → Prop), its[i]? = some v → R i dl ys → LCg.NsObj oC m₂ → m₂ x = some v → Fr g L s₃.heap m → News g L s₃.heap ((C, oC) :: (dl ++ news)) → (∀ p ∈ news, p.1 ≠ C) → (∀ p ∈ dl, p.1 ≠ C) →
      wpAny (model prog w) A (eval elt (compEnvC scope cl C env)) (EltEnd (R (i + 1)) s₃ dl ys) E' s₃)
    (fin : ∀ D dl h tk ys, Fr g L h m → News g L h ((D, LCg.lst ys) :: (dl ++ news)) → (∀ p ∈ dl, s.heap.get? p.1 = none) → s.heap.get? D = none → (∀ p ∈ dl, p.1 ≠ D) → R its.length dl ys → (∀ b o, s.heap.get? b = some o → h.get? b = some o) → ∀ h₂, Q (.ref D) { ({ s with heap := h₂ } : Shared) with heap := h, toks := tk }) :
    wpAny (model prog w) A (pyIter (.ref ax)) (CompAt prog w A elt x scope cl env Q) E s := by
  refine src_list hh hl (by rw [List.size_toArray]; exact hsz) fun I h' hI k hS => ?_
  obtain ⟨St, S⟩ := hS
  refine compAt_led (h₁ := s.heap) S hI k F N R R0 (fun C i v oC m₂ ys dl s₃ E' hi hP hR hoC hv F' N' h1 h2 => turn C i v oC m₂ ys dl s₃ E' (by simpa using hP) hR hoC hv F' N' h1 h2)
    (fun D dl h tk ys F' N' h1 h2 h3 h4 hk => fin D dl h tk ys F' N' h1 h2 h3 (by simpa using h4) hk h')

abbrev tupOf (a b : Int) (t u : Tok) (n : Nat) : Obj := { cls := .type "tuple", data := .seq #[.int a t, .int b u] n }
/-- the ledger bears the pairs ps at the values ys -/
def PairsIn (dl : List (Addr × Obj)) (ys : List Value) (ps : List (Int × Int)) : Prop :=
  ys.length = ps.length ∧ ∀ (i : Nat) (p : Int × Int), ps[i]? = some p → ∃ (a : Addr) (t u : Tok) (n : Nat), ys[i]? = some (Value.ref a) ∧ (a, tupOf p.1 p.2 t u n) ∈ dl
/-- the ledger bears the rows of ints at the values ys -/
def RowsIn (dl : List (Addr × Obj)) (ys : List Value) (rows : List (List Int)) : Prop :=
  ys.length = rows.length ∧ ∀ (i : Nat) (r : List Int), rows[i]? = some r → ∃ (a : Addr) (vs : List Value) (n : Nat), ys[i]? = some (Value.ref a) ∧ (a, listOf vs.toArray n) ∈ dl ∧ IntsAre vs r
theorem snoc_at {α : Type} {l : List α} {x y : α} {i : Nat} (h : (l ++ [x])[i]? = some y) : l[i]? = some y ∨ (i = l.length ∧ y = x) := by
  rcases Nat.lt_trichotomy i l.length with c | c | c
  · rw [List.getElem?_append_left c] at h; exact .inl h
  · subst c
    rw [List.getElem?_append_right (Nat.le_refl _), Nat.sub_self] at h
    exact .inr ⟨rfl, (Option.some.inj h).symm⟩
  · rw [List.getElem?_eq_none (by rw [List.length_append, List.length_singleton]; omega)] at h; cases h
theorem PairsIn.nil : PairsIn [] [] [] := ⟨rfl, fun i p h => by simp at h⟩
theorem PairsIn.mono {dl dl' : List (Addr × Obj)} {ys : List Value} {ps : List (Int × Int)} (x : PairsIn dl ys ps) (s : ∀ p ∈ dl, p ∈ dl') : PairsIn dl' ys ps :=
  ⟨x.1, fun i p h => let ⟨a, t, u, n, e, hm⟩ := x.2 i p h; ⟨a, t, u, n, e, s _ hm⟩⟩
theorem PairsIn.snoc {dl : List (Addr × Obj)} {ys : List Value} {ps : List (Int × Int)} {a : Addr} {x y : Int} {t u : Tok} {n : Nat} (h : PairsIn dl ys ps) : PairsIn ((a, tupOf x y t u n) :: dl) (ys ++ [.ref a]) (ps ++ [(x, y)]) := by
  refine ⟨by rw [List.length_append, List.length_append, h.1]; rfl, fun i p hp => ?_⟩
  rcases snoc_at hp with c | ⟨rfl, rfl⟩
  · obtain ⟨b, t', u', n', e, hm⟩ := h.2 i p c
    refine ⟨b, t', u', n', ?_, .tail _ hm⟩
    rw [List.getElem?_append_left]; exact e
    exact (List.getElem?_eq_some_iff.mp e).1
  · refine ⟨a, t, u, n, ?_, .head _⟩
    rw [← h.1]; simp
theorem RowsIn.nil : RowsIn [] [] [] := ⟨rfl, fun i p h => by simp at h⟩
theorem RowsIn.mono {dl dl' : List (Addr × Obj)} {ys : List Value} {rows : List (List Int)} (x : RowsIn dl ys rows) (s : ∀ p ∈ dl, p ∈ dl') : RowsIn dl' ys rows :=
  ⟨x.1, fun i p h => let ⟨a, vs, n, e, hm, hi⟩ := x.2 i p h; ⟨a, vs, n, e, s _ hm, hi⟩⟩
theorem RowsIn.snoc {dl : List (Addr × Obj)} {ys : List Value} {rows : List (List Int)} {a : Addr} {vs : List Value} {r : List Int} {n : Nat} (h : RowsIn dl ys rows) (hi : IntsAre vs r) : RowsIn ((a, listOf vs.toArray n) :: dl) (ys ++ [.ref a]) (rows ++ [r]) := by
  refine ⟨by rw [List.length_append, List.length_append, h.1]; rfl, fun i p hp => ?_⟩
  rcases snoc_at hp with c | ⟨rfl, rfl⟩
  · obtain ⟨b, vs', n', e, hm, hi'⟩ := h.2 i p c
    refine ⟨b, vs', n', ?_, .tail _ hm, hi'⟩
    rw [List.getElem?_append_left]; exact e
    exact (List.getElem?_eq_some_iff.mp e).1
  · refine ⟨a, vs, n, ?_, .head _, hi⟩
    rw [← h.1]; simp

/-- a new tuple, what stood told -/
theorem newTuple_kept {prog : Program} {w : World} {A : Around} {E : Value → Shared → Prop} {s : Shared} {vs : List Value} {Q : Value → Shared → Prop} (F : Fr g L s.heap m) (N : News g L s.heap news)
    (h : ∀ a h', Fr g L h' m → News g L h' ((a, { cls := .type "tuple", data := .seq vs.toArray }) :: news) → (∀ b o, s.heap.get? b = some o → h'.get? b = some o) → s.heap.get? a = none → Q (.ref a) { s with heap := h' }) (hsz : vs.length ≤ sizeLine := by size_fits) :
    wpAny (model prog w) A (newTuple vs) Q E s :=
  wpAny_newObj_type (h _ _ (F.push _) (N.push F _) (fun b o e => Heap.get?_push_of_some _ e) (fresh_ge (Nat.le_refl _))) (by show vs.toArray.size ≤ sizeLine; rw [List.size_toArray]; exact hsz)
/-- a tail of the ledger that stands off the places cs -/
def OffAll (cs : List Addr) (dl : List (Addr × Obj)) : Prop := ∀ p ∈ dl, p.1 ∉ cs
theorem OffAll.ne {cs : List Addr} {dl : List (Addr × Obj)} {c : Addr} (h : OffAll cs dl) (hc : c ∈ cs) : ∀ p ∈ dl, p.1 ≠ c := fun p hp q => h p hp (q ▸ hc)
end
end Mine
end

section
open PySem PySem.W PyProof.Rows PySem.Calls PySem.Spec
namespace Mine
section
variable {prog : Program} {w : World} {A : Around} {E : Value → Shared → Prop} {s : Shared} {g : Heap} {L : Addr} {m : Str → Option Value} {news : List (Addr × Obj)}

/-- what the iterator of a comprehension must bring whose name is a cell -/
def CompAtC (prog : Program) (w : World) (A : Around) (elt : Expr) (x : Str) (scope : Scope) (cl : List (Str × Addr)) (env : Env) (Q : Value → Shared → Prop) (it : Value) (s₂ : Shared) : Prop :=
  ∃ I fp n P St, it = .ref I ∧ Src prog w A I fp n P St s₂.heap ∧
      ∃ Acc : List Addr → Nat → List Value → Heap → Prop, (∀ X i ys h h', Acc X i ys h → Kp X h h' → Acc X i ys h') ∧ (∀ X h, (∀ b o, s₂.heap.get? b = some o → h.get? b = some o) → Acc X 0 [] h) ∧
      (∀ C X i v ys (s₃ : Shared) (E' : Value → Shared → Prop), s₂.heap.objs.size ≤ C → C ∈ X → C + 1 ∈ X → i < n → P i v → s₃.heap.IsCell (C + 1) (some v) → Kp [I] s₂.heap s₃.heap → (∀ b ∈ X, ∃ o, s₃.heap.get? b = some o) → Acc X i ys s₃.heap →
        wpAny (model prog w) A (forIn ([] : List Expr) true fun c r => if r = true then do let ok ← isTrue c (compEnvC scope ((x, C + 1) :: cl) C env) (eval c (compEnvC scope ((x, C + 1) :: cl) C env)); pure (ForInStep.yield ok) else pure (ForInStep.yield r))
          (fun ok s₄ => if ok = true then wpAny (model prog w) A (eval elt (compEnvC scope ((x, C + 1) :: cl) C env)) (fun y s₅ => Keeps s₃ s₅ ∧ Acc X (i + 1) (ys ++ [y]) s₅.heap) E' s₄ else Keeps s₃ s₄ ∧ Acc X (i + 1) ys s₄.heap) E' s₃) ∧
      (∀ D X h tk ys, s₂.heap.get? D = none → D ∈ X → h.get? D = some (LCg.lst ys) → Acc X n ys h → Kp [I] s₂.heap h → ys.length ≤ n → Q (.ref D) { s₂ with heap := h, toks := tk })

theorem comp_atC {elt iter : Expr} {x : Str} {px : Pos} {scope : Scope} {cl : List (Str × Addr)} {pos : Pos} {env : Env} {Q : Value → Shared → Prop}
    (hclos : closureFor scope env = pure cl) (hkind : scope.kind = .function) (hnames : ∀ y ∈ scope.names, y.2 = .local → scope.names.lookup y.1 = some .local) (hx : ∀ C, (compEnvC scope ((x, C + 1) :: cl) C env).kindOf x = some .cell)
    (hcl : ∀ n, cellsFrom n scope.names cl = (x, n) :: cl) (hpc : ∀ H, pushCells H scope.names = H.push { cls := .type "cell", data := .cell none })
    (h : wpAny (model prog w) A (eval iter env) (fun xv s₁ => wpAny (model prog w) A (pyIter xv) (CompAtC prog w A elt x scope cl env Q) E s₁) E s)
    (hs : ∀ x, foldedSetIterable iter env x = pure x := by intro _; rfl) :
    wpAny (model prog w) A (eval (.ListComp elt [⟨.Name x px, iter, [], 0⟩] scope pos) env) Q E s := listcomp_cell hclos hkind hnames hx hcl hpc h hs

/-- over a list, the name a cell -/
theorem compAtC_list {elt : Expr} {x : Str} {scope : Scope} {cl : List (Str × Addr)} {env : Env} {Q : Value → Shared → Prop} {ax : Addr} {its : List Value} (hh : A.handled = none)
    (F : Fr g L s.heap m) (N : News g L s.heap news) (hl : s.heap.IsList ax its.toArray) (hsz : its.length ≤ sizeLine)
    (R : Nat → List (Addr × Obj) → List Value → Prop) (R0 : R 0 [] [])
    (turn : ∀ C i v oC ys dl (s₃ : Shared) (E' : Value → Shared → Prop), its[i]? = some v → R i dl ys → oC.data = .cell (some v) → Fr g L s₃.heap m → News g L s₃.heap ((C + 1, oC) :: (dl ++ news)) → (∀ p ∈ news, p.1 ≠ C + 1) → (∀ p ∈ dl, p.1 ≠ C + 1) → (∀ b o, s.heap.get? b = some o → s₃.heap.get? b = some o) →
      wpAny (model prog w) A (eval elt (compEnvC scope ((x, C + 1) :: cl) C env)) (EltEnd (R (i + 1)) s₃ dl ys) E' s₃)
    (fin : ∀ D dl h tk ys, Fr g L h m → News g L h ((D, LCg.lst ys) :: (dl ++ news)) → (∀ p ∈ dl, s.heap.get? p.1 = none) → s.heap.get? D = none → (∀ p ∈ dl, p.1 ≠ D) → R its.length dl ys → ∀ h₂, Q (.ref D) { ({ s with heap := h₂ } : Shared) with heap := h, toks := tk }) :
    wpAny (model prog w) A (pyIter (.ref ax)) (CompAtC prog w A elt x scope cl env Q) E s := by
  refine src_list hh hl (by rw [List.size_toArray]; exact hsz) fun I h' hI k₁ hS => ?_
  obtain ⟨St, S⟩ := hS
  have gnone : ∀ b, s.heap.get? b = none → g.get? b = none := fun b hb => by
    cases e : g.get? b with
    | none => rfl
    | some o => have := F.keep _ _ e; rw [hb] at this; cases this
  have hL : ∃ o, s.heap.get? L = some o := by obtain ⟨o, _, _, e, _⟩ := F.ns; exact ⟨o, e⟩
  have neL : ∀ b, s.heap.get? b = none → b ≠ L := fun b hb q => by obtain ⟨o, e⟩ := hL; rw [← q, hb] at e; cases e
  have kI : ∀ {h : Heap}, Kp [I] h' h → ∀ b o, s.heap.get? b = some o → h.get? b = some o := fun k b o e => k b o (fun q => by rw [List.mem_singleton.mp q, hI] at e; cases e) (k₁ b o e)
  refine ⟨I, _, its.toArray.size, _, St, rfl, S, fun X i ys h => ∃ dl, R i dl ys ∧ ∀ p ∈ dl, h.get? p.1 = some p.2 ∧ s.heap.get? p.1 = none ∧ p.1 ∉ X, ?_, ?_, ?_, ?_⟩
  · rintro X i ys h h' ⟨dl, hr, hd⟩ k
    exact ⟨dl, hr, fun p hp => ⟨k _ _ (hd p hp).2.2 (hd p hp).1, (hd p hp).2⟩⟩
  · intro X h k
    exact ⟨[], R0, fun p hp => nomatch hp⟩
  · rintro C X i v ys s₃ E' hC hCX0 hCX1 hi hP ⟨oC, eC, hoC⟩ k hX ⟨dl, hr, hd⟩
    refine wpAny_tests_nil ?_
    simp only [if_true]
    have hC₁ : s.heap.get? (C + 1) = none := by
      cases e : s.heap.get? (C + 1) with
      | none => rfl
      | some o => exact absurd (Heap.lt_size (k₁ _ _ e)) (Nat.not_lt.mpr (Nat.le_succ_of_le hC))
    have F₃ : Fr g L s₃.heap m := F.keeps (kI k)
    have N₃ : News g L s₃.heap news := N.grown (kI k)
    have neC : ∀ p ∈ news, p.1 ≠ C + 1 := fun p hp q => by have := (N p hp).1; rw [q, hC₁] at this; cases this
    have hCX : ∀ p ∈ dl, p.1 ≠ C + 1 := fun p hp q => (hd p hp).2.2 (q ▸ hCX1)
    · refine wpAny_mono (turn C i v oC ys dl s₃ E' (by simpa using hP) hr hoC F₃ (fun p hp => ?_) neC hCX (kI k)) (fun y s₅ h₅ => ?_) fun _ _ e => e
      · rcases List.mem_cons.mp hp with rfl | hp
        · exact ⟨eC, neL _ hC₁, gnone _ hC₁⟩
        · rcases List.mem_append.mp hp with hp | hp
          · exact ⟨(hd p hp).1, neL _ (hd p hp).2.1, gnone _ (hd p hp).2.1⟩
          · exact N₃ p hp
      · obtain ⟨h', tk', new, rfl, kk, hnew, hr'⟩ := h₅
        refine ⟨⟨h', tk', rfl, kk⟩, new ++ dl, hr', fun p hp => ?_⟩
        rcases List.mem_append.mp hp with hp | hp
        · refine ⟨(hnew p hp).1, ?_, fun q => ?_⟩
          · cases e : s.heap.get? p.1 with
            | none => rfl
            | some o => have := kI k _ _ e; rw [(hnew p hp).2] at this; cases this
          · obtain ⟨o, e⟩ := hX _ q
            rw [(hnew p hp).2] at e; cases e
        · exact ⟨kk _ _ (hd p hp).1, (hd p hp).2⟩
  · rintro D X h tk ys hD hDX hd' ⟨dl, hr, hd⟩ k hl
    have hD₁ : s.heap.get? D = none := by
      cases e : s.heap.get? D with
      | none => rfl
      | some o => have := k₁ _ _ e; rw [show h'.get? D = none from hD] at this; cases this
    refine fin D dl h tk ys (F.keeps (kI k)) (fun p hp => ?_) (fun p hp => (hd p hp).2.1) hD₁ (fun p hp q => (hd p hp).2.2 (q ▸ hDX)) (by simpa using hr) h'
    rcases List.mem_cons.mp hp with rfl | hp
    · exact ⟨hd', neL _ hD₁, gnone _ hD₁⟩
    · rcases List.mem_append.mp hp with hp | hp
      · exact ⟨(hd p hp).1, neL _ (hd p hp).2.1, gnone _ (hd p hp).2.1⟩
      · exact (N.grown (kI k)) p hp
end
end Mine
end

section
open PySem PySem.W PyProof.Rows PySem.Calls PySem.Spec
namespace Mine
section
variable {prog : Program} {w : World} {A : Around} {E : Value → Shared → Prop} {s : Shared} {g : Heap} {L : Addr} {m : Str → Option Value} {news : List (Addr × Obj)}

/-- what the iterator of a comprehension with one test must bring, the element its own name -/
def CompAtT (prog : Program) (w : World) (A : Around) (x : Str) (ex : Pos) (c : Expr) (scope : Scope) (cl : List (Str × Addr)) (env : Env) (Q : Value → Shared → Prop) (it : Value) (s₂ : Shared) : Prop :=
  ∃ I fp n P St, it = .ref I ∧ Src prog w A I fp n P St s₂.heap ∧
      ∃ Acc : List Addr → Nat → List Value → Heap → Prop, (∀ X i ys h h', Acc X i ys h → Kp X h h' → Acc X i ys h') ∧ (∀ X h, (∀ b o, s₂.heap.get? b = some o → h.get? b = some o) → Acc X 0 [] h) ∧
      (∀ C X i v ys (s₃ : Shared) (E' : Value → Shared → Prop), s₂.heap.objs.size ≤ C → C ∈ X → i < n → P i v → (∃ m, s₃.heap.Ns C m ∧ m x = some v) → Kp [I] s₂.heap s₃.heap → (∀ b ∈ X, ∃ o, s₃.heap.get? b = some o) → Acc X i ys s₃.heap →
        wpAny (model prog w) A (forIn [c] true fun c r => if r = true then do let ok ← isTrue c (compEnvC scope cl C env) (eval c (compEnvC scope cl C env)); pure (ForInStep.yield ok) else pure (ForInStep.yield r))
          (fun ok s₄ => if ok = true then wpAny (model prog w) A (eval (.Name x ex) (compEnvC scope cl C env)) (fun y s₅ => Keeps s₃ s₅ ∧ Acc X (i + 1) (ys ++ [y]) s₅.heap) E' s₄ else Keeps s₃ s₄ ∧ Acc X (i + 1) ys s₄.heap) E' s₃) ∧
      (∀ D X h tk ys, s₂.heap.get? D = none → D ∈ X → h.get? D = some (LCg.lst ys) → Acc X n ys h → Kp [I] s₂.heap h → ys.length ≤ n → Q (.ref D) { s₂ with heap := h, toks := tk })

theorem comp_atT {c iter : Expr} {x : Str} {px ex : Pos} {scope : Scope} {cl : List (Str × Addr)} {pos : Pos} {env : Env} {Q : Value → Shared → Prop}
    (hclos : closureFor scope env = pure cl) (hkind : scope.kind = .function) (hnames : ∀ y ∈ scope.names, y.2 = .local → scope.names.lookup y.1 = some .local) (hx : scope.names.lookup x = some .local)
    (hcl : ∀ n, cellsFrom n scope.names cl = cl) (hpc : ∀ H, pushCells H scope.names = H)
    (h : wpAny (model prog w) A (eval iter env) (fun xv s₁ => wpAny (model prog w) A (pyIter xv) (CompAtT prog w A x ex c scope cl env Q) E s₁) E s)
    (hs : ∀ x, foldedSetIterable iter env x = pure x := by intro _; rfl) :
    wpAny (model prog w) A (eval (.ListComp (.Name x ex) [⟨.Name x px, iter, [c], 0⟩] scope pos) env) Q E s := listcomp_local hclos hkind hnames hx hcl hpc h hs

/-- what a test comes to -/
def TestEnd (b₀ : Bool) (s₃ : Shared) (b : Bool) (s₄ : Shared) : Prop := b = b₀ ∧ ∃ tk', s₄ = { s₃ with toks := tk' }
theorem compAtT_list {c : Expr} {x : Str} {ex : Pos} {scope : Scope} {cl : List (Str × Addr)} {env : Env} {Q : Value → Shared → Prop} {ax : Addr} {its : List Value} {xs : List Int} (f : Int → Bool) (hh : A.handled = none) (hkind : scope.kind = .function) (hx : scope.names.lookup x = some .local) (hb : (x == ("__debug__" : Str)) = false)
    (F : Fr g L s.heap m) (N : News g L s.heap news) (hl : s.heap.IsList ax its.toArray) (hi : IntsAre its xs) (hsz : its.length ≤ sizeLine)
    (turn : ∀ C v tv oC m₂ (s₃ : Shared) (E' : Value → Shared → Prop), v ∈ xs → LCg.NsObj oC m₂ → m₂ x = some (.int v tv) → Fr g L s₃.heap m → News g L s₃.heap ((C, oC) :: news) → (∀ p ∈ news, p.1 ≠ C) →
      wpAny (model prog w) A (isTrue c (compEnvC scope cl C env) (eval c (compEnvC scope cl C env))) (TestEnd (f v) s₃) E' s₃)
    (fin : ∀ D h tk ys, Fr g L h m → News g L h ((D, LCg.lst ys) :: news) → s.heap.get? D = none → IntsAre ys (xs.filter f) → (∀ b o, s.heap.get? b = some o → h.get? b = some o) → ∀ h₂, Q (.ref D) { ({ s with heap := h₂ } : Shared) with heap := h, toks := tk }) :
    wpAny (model prog w) A (pyIter (.ref ax)) (CompAtT prog w A x ex c scope cl env Q) E s := by
  refine src_list hh hl (by rw [List.size_toArray]; exact hsz) fun I h' hI k₁ hS => ?_
  obtain ⟨St, S⟩ := hS
  have gnone : ∀ b, s.heap.get? b = none → g.get? b = none := fun b hb => by
    cases e : g.get? b with
    | none => rfl
    | some o => have := F.keep _ _ e; rw [hb] at this; cases this
  have hL : ∃ o, s.heap.get? L = some o := by obtain ⟨o, _, _, e, _⟩ := F.ns; exact ⟨o, e⟩
  have neL : ∀ b, s.heap.get? b = none → b ≠ L := fun b hb q => by obtain ⟨o, e⟩ := hL; rw [← q, hb] at e; cases e
  have kI : ∀ {h : Heap}, Kp [I] h' h → ∀ b o, s.heap.get? b = some o → h.get? b = some o := fun k b o e => k b o (fun q => by rw [List.mem_singleton.mp q, hI] at e; cases e) (k₁ b o e)
  refine ⟨I, _, its.toArray.size, _, St, rfl, S, fun X i ys h => IntsAre ys ((xs.take i).filter f), ?_, ?_, ?_, ?_⟩
  · intro X i ys h h' a _; exact a
  · intro X h k; exact .nil
  · rintro C X i v ys s₃ E' hC hCX0 hit hP ⟨m₂, hn, hv⟩ k hX hr
    refine wpAny_tests_one ?_
    obtain ⟨oC, eC, hoC⟩ := LCg.ns_obj hn
    have hC₁ : s.heap.get? C = none := by
      cases e : s.heap.get? C with
      | none => rfl
      | some o => exact absurd (Heap.lt_size (k₁ _ _ e)) (Nat.not_lt.mpr hC)
    have F₃ : Fr g L s₃.heap m := F.keeps (kI k)
    have N₃ : News g L s₃.heap news := N.grown (kI k)
    have neC : ∀ p ∈ news, p.1 ≠ C := fun p hp q => by have := (N p hp).1; rw [q, hC₁] at this; cases this
    obtain ⟨a, t, rfl, ha⟩ := IntsAre.at hi i v (by simpa using hP)
    refine wpAny_mono (turn C a t oC m₂ s₃ E' (List.mem_of_getElem? ha) hoC hv F₃ (fun p hp => ?_) neC) (fun b s₄ h₄ => ?_) fun _ _ e => e
    · rcases List.mem_cons.mp hp with rfl | hp
      · exact ⟨eC, neL _ hC₁, gnone _ hC₁⟩
      · exact N₃ p hp
    · obtain ⟨rfl, tk', rfl⟩ := h₄
      have et : (xs.take (i + 1)).filter f = (xs.take i).filter f ++ [a].filter f := by rw [List.take_add_one, ha, List.filter_append]; rfl
      cases hf : f a
      · simp only [Bool.false_eq_true, if_false]
        refine ⟨⟨s₃.heap, tk', rfl, fun _ _ e => e⟩, ?_⟩
        rw [et, List.filter_cons_of_neg (by simp [hf]), List.filter_nil, List.append_nil]
        exact hr
      · simp only [if_true]
        refine wpAny_Name (wpAny_loadName_local (by simp [compEnvC, relabel, hkind]) (lookup_relabel_local hx) hn hv ?_) hb
        refine ⟨⟨s₃.heap, tk', rfl, fun _ _ e => e⟩, ?_⟩
        rw [et, List.filter_cons_of_pos (by simp [hf]), List.filter_nil]
        exact IntsAre.append hr (.cons _ _ .nil)
  · rintro D X h tk ys hD hDX hd' hr k hlen
    have hD₁ : s.heap.get? D = none := by
      cases e : s.heap.get? D with
      | none => rfl
      | some o => have := k₁ _ _ e; rw [show h'.get? D = none from hD] at this; cases this
    refine fin D h tk ys (F.keeps (kI k)) (fun p hp => ?_) hD₁ ?_ (kI k) h'
    · rcases List.mem_cons.mp hp with rfl | hp
      · exact ⟨hd', neL _ hD₁, gnone _ hD₁⟩
      · exact (N.grown (kI k)) p hp
    · rw [List.size_toArray, IntsAre.length hi, List.take_length] at hr
      exact hr

/-- what the outer iterable of `[x for y in rows for x in y]` must bring -/
def FlatAt (Q : Value → Shared → Prop) (xv : Value) (s₁ : Shared) : Prop :=
  ∃ (ax : Addr) (vs : List Value) (rows : List (List Value)), xv = .ref ax ∧ s₁.heap.IsList ax vs.toArray ∧ vs.length = rows.length ∧ vs.length ≤ sizeLine ∧ rows.flatten.length ≤ sizeLine ∧
      (∀ (i : Nat) (v : Value), vs[i]? = some v → ∃ (a : Addr) (its : List Value), v = .ref a ∧ rows[i]? = some its ∧ s₁.heap.IsList a its.toArray) ∧
      (∀ D h tk, s₁.heap.get? D = none → h.get? D = some (LCg.lst rows.flatten) → (∀ b o, s₁.heap.get? b = some o → h.get? b = some o) → Q (.ref D) { s₁ with heap := h, toks := tk })
theorem comp_flat {i0 : Expr} {x y : Str} {px py ex ey : Pos} {scope : Scope} {pos : Pos} {env : Env} {Q : Value → Shared → Prop} (hh : A.handled = none)
    (hclos : closureFor scope env = pure []) (hkind : scope.kind = .function) (hnames : ∀ z ∈ scope.names, z.2 = .local → scope.names.lookup z.1 = some .local) (hx : scope.names.lookup x = some .local) (hy : scope.names.lookup y = some .local)
    (hb : (x == ("__debug__" : Str)) = false) (hb' : (y == ("__debug__" : Str)) = false)
    (hcl : ∀ n, cellsFrom n scope.names [] = []) (hpc : ∀ H, pushCells H scope.names = H)
    (h : wpAny (model prog w) A (eval i0 env) (FlatAt Q) E s)
    (hs : ∀ x, foldedSetIterable i0 env x = pure x := by intro _; rfl) :
    wpAny (model prog w) A (eval (.ListComp (.Name x ex) [⟨.Name y py, i0, [], 0⟩, ⟨.Name x px, .Name y ey, [], 0⟩] scope pos) env) Q E s :=
  listcomp_flat hh hclos hkind hnames hx hy hb hb' hcl hpc h hs
end
end Mine
end

section
open PySem PySem.W PyProof.Rows PySem.Calls PySem.Spec
namespace Mine
section
variable {prog : Program} {w : World} {A : Around} {E : Value → Shared → Prop} {s : Shared}
/-- frame and ledger at a turn's end; the ledger's places may be new ones, off the iterator -/
def TurnEnd2 (g : Heap) (L I : Addr) (oI : Obj) (J : (Str → Option Value) → List (Addr × Obj) → Prop) (s₀ : Shared) (fl : Flow) (s' : Shared) : Prop :=
  fl = .next ∧ ∃ h' tk' m' news', s' = { s₀ with heap := h', toks := tk' } ∧ Fr g L h' m' ∧ News g L h' ((I, oI) :: news') ∧ (∀ p ∈ news', p.1 ≠ I) ∧ J m' news'

theorem forAt_range2 {g : Heap} {x : Str} {px : Pos} {body : List Stmt} {env : Env} {Q : Flow → Shared → Prop} {r : Addr} {a b : Int} {t u v : Tok} {n : Nat} {m₀ : Str → Option Value} {news₀ : List (Addr × Obj)} (hh : A.handled = none)
    (hx : env.kindOf x = some .local) (hp : (env.scope.kind == .class || (env.scope.kind == .module && env.locals != env.globals)) = false)
    (F : Fr g env.locals s.heap m₀) (N : News g env.locals s.heap news₀) (hr : IsRange s.heap r a b 1 t u v) (hsm : Builtin.Range.small a b 1 = true) (hn : Builtin.Range.rangeSize a b 1 = ((n : Nat) : Int)) (hsz : n ≤ sizeLine)
    (J : Nat → (Str → Option Value) → List (Addr × Obj) → Prop) (hj : J 0 m₀ news₀)
    (turn : ∀ I i tv m news h tk oI (s₂ : Shared), i < n → J i m news → Fr g env.locals h (fun y => if y = x then some (.int (a + (i : Int)) tv) else m y) → News g env.locals h ((I, oI) :: news) → (∀ p ∈ news, p.1 ≠ I) → (∃ h₂, s₂ = { s with heap := h₂ }) →
      wpAny (model prog w) A (execs body env) (TurnEnd2 g env.locals I oI (J (i + 1)) s₂) (fun _ _ => False) { s₂ with heap := h, toks := tk })
    (done : ∀ m news h tk, J n m news → Fr g env.locals h m → News g env.locals h news → Q .next { s with heap := h, toks := tk }) :
    wpAny (model prog w) A (pyIter (.ref r)) (ForAt prog w A x px body env Q) E s := by
  refine wpAny_pyIter_range hr hsm ?_
  generalize hH : s.heap.push _ = H
  have hHI : H.get? s.heap.objs.size = some { cls := .type "range_iterator", data := .fields #[.int a 0, .int (a + Builtin.Range.rangeSize a b 1 * 1) 0, .int 1 0, .int 0 0] } ∨ True := .inr trivial
  clear hHI
  have up : ∀ b o, s.heap.get? b = some o → H.get? b = some o := fun b o e => by rw [← hH]; exact Heap.get?_push_of_some _ e
  have hI : s.heap.get? s.heap.objs.size = none := fresh_ge (Nat.le_refl _)
  have hgI : g.get? s.heap.objs.size = none := by
    cases e : g.get? s.heap.objs.size with
    | none => rfl
    | some o => have := F.keep _ _ e; rw [hI] at this; cases this
  have hLI : env.locals ≠ s.heap.objs.size := by
    obtain ⟨oL, _, _, eL, _⟩ := F.ns
    intro q; rw [← q, eL] at hI; cases hI
  have S : Src prog w A s.heap.objs.size [s.heap.objs.size] n (fun i v => ∃ t, v = .int (a + (i : Int)) t) _ H :=
    ⟨LCg.range_walks hh a n, hsz, fun i h st => ⟨_, st⟩, by rw [← hH]; show IsRangeIter _ _ _ _ _; rw [hn]; simpa using Heap.get?_push_size _ rfl, fun b hb => by
      rw [List.mem_singleton.mp hb, ← hH, Heap.size_push]; exact Nat.lt_succ_self _⟩
  refine ⟨s.heap.objs.size, [s.heap.objs.size], n, _, _, rfl, S, fun i h => ∃ m news, J i m news ∧ Fr g env.locals h m ∧ News g env.locals h news ∧ ∀ p ∈ news, p.1 ≠ s.heap.objs.size, ?_, ⟨m₀, news₀, hj, F.keeps up, N.grown up, fun p hp q => by have := (N p hp).1; rw [q, hI] at this; cases this⟩, ?_, ?_⟩
  · rintro i h h' ⟨m, news, hJ, F', N', ne⟩ k _
    exact ⟨m, news, hJ, fr_kp F' k (by simpa using hLI) (by intro b hb; rw [List.mem_singleton.mp hb]; exact hgI), news_kp N' k (fun p hp => by simpa using ne p hp), ne⟩
  · rintro i v h tk hi hP ⟨m, news, hJ, F', N', ne⟩ ⟨oI, hoI⟩
    obtain ⟨tv, rfl⟩ := hP
    refine wpAny_assign_Name (wpAny_storeName_local hx F'.ns (fun h₂ hn₂ hs₂ => ?_) hp)
    have k2 : Kp [env.locals] h h₂ := Kp.same hs₂
    have hoI₂ : h₂.get? s.heap.objs.size = some oI := k2.get (by simpa using Ne.symm hLI) hoI
    have F₂ : Fr g env.locals h₂ (fun y => if y = x then some (.int (a + (i : Int)) tv) else m y) := F'.set hn₂ hs₂
    have N₂ : News g env.locals h₂ news := N'.set hs₂
    refine wpAny_mono (turn s.heap.objs.size i tv m news h₂ _ oI { s with heap := H } hi hJ F₂ (fun p hp => ?_) ne ⟨H, rfl⟩) (fun fl s₄ h₄ => ?_) fun _ _ f => f
    · rcases List.mem_cons.mp hp with rfl | hp
      · exact ⟨hoI₂, Ne.symm hLI, hgI⟩
      · exact N₂ p hp
    · obtain ⟨rfl, h', tk', m', news', rfl, F₃, N₃, ne', hJ'⟩ := h₄
      refine ⟨rfl, h', tk', rfl, ⟨m', news', hJ', F₃, fun p hp => N₃ p (.tail _ hp), ne'⟩, fun b hb o e => ?_⟩
      rw [List.mem_singleton.mp hb] at e ⊢
      rw [hoI] at e; cases e
      exact (N₃ _ (.head _)).1
  · rintro h tk ⟨m, news, hJ, F', N', _⟩
    exact done m news h tk hJ F' N'
end
end Mine
end

section
open PySem PySem.W PyProof.Rows PySem.Calls
namespace Mine

/-- a goal laid by for the hand -/
def Held (P : Prop) : Prop := P
theorem hold {P : Prop} (h : Held P) : P := h

/-- the call of def f upon args, from a def's frame: what must stand ahead, what comes back; all that stood stands as it was -/
def Contract (w : World) (mean : ExcName → Option Value) (mg mb : Str → Option Value) (f : Addr) (d : Nat) (args : List Value)
    (Pre : Heap → Prop) (Post : Heap → Heap → Value → Prop) : Prop :=
  ∀ (dp un : Nat) (gd : Option (List Code)) (cn : Str) (cs : Scope) (a : Addr) (ccd : Value) (cl : List (Str × Addr)) (outer : List Env) (A₀ : Around) (base h₀ : Heap) (L : Addr)
    (m : Str → Option Value) (s : Shared) (Q E : Value → Shared → Prop),
    Below A₀ base outer h₀ → Fr h₀ L s.heap m → (hd.heap_39 w.params).In h₀ →
    Top hd.view_39 (looseW hd.view_39 [Str.ofString "divisor", Str.ofString "quota"]) mean mg mb h₀ → cs.kind = .function →
    dp + d < recursionLimit → un + 8 * d < cLine → Pre s.heap →
    (∀ v h' tk', (∀ b o, s.heap.get? b = some o → h'.get? b = some o) → Post s.heap h' v → Q v { s with heap := h', toks := tk' }) →
    wpAny (model PySem.Challenge.rw_ab5005_01.row.prog w) (ktrTop dp un gd cn cs L a ccd cl outer) (call (.ref f) args) Q E s

section
variable {prog : Program} {w : World} {A₀ A : Around} {E : Value → Shared → Prop} {s : Shared} {K : Frag} {L : Addr} {h₀ base : Heap} {m mg mb : Str → Option Value} {p : Program} {loose : List Str} {mean : ExcName → Option Value} {Q : Value → Shared → Prop}
theorem enterN {env : Env} {outer : List Env} {name qual : Str} {params : Arguments} {body : List Stmt} {scope : Scope} {dV kV doc pm cdv ct oc : Value} {an od : Option Addr} {osl : Array (Option Value)} {f : Addr} {args : List Value} {binds : List (Str × Value)}
    (B : Below A₀ base outer h₀) (F : Fr h₀ L s.heap m) (X₀ : K.In h₀) (T : Top p loose mean mg mb h₀) (hA : A.frames = some (env :: outer)) (hf : env.frame = some L) (hke : env.scope.kind = .function)
    (ho : K.lookup f = some ⟨oc, od, .func (fnOf name qual params body scope dV kV doc pm an cdv ct), osl⟩) (hcd : codeIn K cdv qual = true) (hroom : A.depth < recursionLimit)
    (hbind : BindsTo s (fnOf name qual params body scope dV kV doc pm an cdv ct) ⟨args, []⟩ binds) (hloc : ∀ y ∈ binds, scope.names.lookup y.1 = some .local)
    (h : ∀ L' h₁, Fr s.heap L' h₁ (fun y => binds.reverse.lookup y) → News s.heap L' h₁ [] → Below A base (env :: outer) s.heap → K.In s.heap → Top p loose mean mg mb s.heap →
      wpAny (model prog w) (A.deeper (envOf qual scope L' f cdv)) (execs body (envOf qual scope L' f cdv))
        (fun fl s' => Q (match fl with | .ret v => v | _ => .none) s') (fun _ _ => False) { s with heap := h₁, toks := s.toks + binds.length })
    (hco : scope.isCoroutine = false) (hgen : scope.isGenerator = false) (hk : scope.kind = .function)
    (hcell : ∀ x ∈ scope.names, x.2 ≠ .cell) : wpAny (model prog w) A (call (.ref f) args) Q E s := by
  refine wpAny_call ?_
  refine codeAny_call_def (fd := fnX name qual params body scope [] dV kV doc pm an cdv ct) (body := body) (binds := binds) hroom ((X₀.keeps F.keep) _ _ ho) rfl (T.nolimit.keeps F.keep) (codeRec_of (X₀.keeps F.keep) hcd) rfl hbind hcell hloc (fun h₁ hns hk₁ => ?_) hco hgen hk
  exact wpAny_mono (h s.heap.objs.size h₁ ⟨hns, hk₁, Nat.le_refl _⟩ News.nil ⟨hA, fun b o e => F.keep b o (B.stays b o e), (pushX B F hf hke).frames⟩ (X₀.keeps F.keep) (T.keeps F.keep)) (fun fl s' hq => hq) fun _ _ y => y.elim

theorem enterC {env : Env} {outer : List Env} {name qual : Str} {params : Arguments} {body : List Stmt} {scope : Scope} {dV kV doc pm cdv ct oc : Value} {an od : Option Addr} {osl : Array (Option Value)} {f : Addr} {args : List Value} {binds : List (Str × Value)}
    (B : Below A₀ base outer h₀) (F : Fr h₀ L s.heap m) (X₀ : K.In h₀) (T : Top p loose mean mg mb h₀) (hA : A.frames = some (env :: outer)) (hf : env.frame = some L) (hke : env.scope.kind = .function)
    (ho : K.lookup f = some ⟨oc, od, .func (fnOf name qual params body scope dV kV doc pm an cdv ct), osl⟩) (hcd : codeIn K cdv qual = true) (hroom : A.depth < recursionLimit)
    (hbind : BindsTo s (fnOf name qual params body scope dV kV doc pm an cdv ct) ⟨args, []⟩ binds)
    (hkind : (binds.all fun y => scope.names.lookup y.1 == some .local || scope.names.lookup y.1 == some .cell) = true)
    (hnd : ((cellsFrom 0 scope.names []).map (·.1)).Nodup)
    (h : ∀ L' h₁ tk cells, Fr s.heap L' h₁ (bindL (envOfC qual scope L' f cdv).kindOf binds fun _ => none) → News s.heap L' h₁ cells →
      CellsAre (bindC (envOfC qual scope L' f cdv).kindOf binds fun _ => none) (cellsFrom (L' + 1) scope.names []) cells → Below A base (env :: outer) s.heap → K.In s.heap → Top p loose mean mg mb s.heap →
      wpAny (model prog w) (A.deeper (envOfC qual scope L' f cdv)) (execs body (envOfC qual scope L' f cdv))
        (fun fl s' => Q (match fl with | .ret v => v | _ => .none) s') (fun _ _ => False) { s with heap := h₁, toks := tk })
    (hco : scope.isCoroutine = false) (hgen : scope.isGenerator = false) (hk : scope.kind = .function) : wpAny (model prog w) A (call (.ref f) args) Q E s := by
  refine wpAny_call ?_
  refine codeAny_call_function hroom ((X₀.keeps F.keep) _ _ ho) rfl hco hgen rfl (codeRec_of (X₀.keeps F.keep) hcd) (hbind _ _ _ _ ?_)
  refine wpAny_newFunctionEnv_cells hk (kindsX hkind _) fun env' he s' x => ?_
  subst he
  refine ⟨(T.nolimit.keeps F.keep).keeps x.toInCall.keep, codeAny_func ?_⟩
  obtain ⟨h₁, tk, rfl, _⟩ := x.done
  have hk₁ := x.toInCall.keep
  obtain ⟨cells, NC, Y⟩ := Cl.news (h₀ := s.heap) (Nat.le_refl _) fun n c hm => ⟨x.cell n c (lookup_of_mem_nodup (cellsFrom_names scope.names 0 (s.heap.objs.size + 1) [] [] rfl ▸ hnd) hm), x.above n c hm⟩
  exact wpAny_mono (h s.heap.objs.size h₁ tk cells ⟨x.toInCall.ns, hk₁, Nat.le_refl _⟩ NC Y ⟨hA, fun b o e => F.keep b o (B.stays b o e), (pushX B F hf hke).frames⟩ (X₀.keeps F.keep) (T.keeps F.keep)) (fun fl s' hq => hq) fun _ _ y => y.elim
end

theorem cells_five {cm : Str → Option Value} {n1 n2 n3 n4 n5 : Str} {c1 c2 c3 c4 c5 : Addr} {cells : List (Addr × Obj)} (x : CellsAre cm [(n1, c1), (n2, c2), (n3, c3), (n4, c4), (n5, c5)] cells) :
    ∃ o1 o2 o3 o4 o5, cells = [(c1, o1), (c2, o2), (c3, o3), (c4, o4), (c5, o5)] ∧ o1.data = .cell (cm n1) ∧ o2.data = .cell (cm n2) ∧ o3.data = .cell (cm n3) ∧ o4.data = .cell (cm n4) ∧ o5.data = .cell (cm n5) := by
  cases x with
  | cons d1 x => cases x with
    | cons d2 x => cases x with
      | cons d3 x => cases x with
        | cons d4 x => cases x with
          | cons d5 x => cases x with
            | nil => exact ⟨_, _, _, _, _, rfl, d1, d2, d3, d4, d5⟩
theorem cells_six {cm : Str → Option Value} {n1 n2 n3 n4 n5 n6 : Str} {c1 c2 c3 c4 c5 c6 : Addr} {cells : List (Addr × Obj)} (x : CellsAre cm [(n1, c1), (n2, c2), (n3, c3), (n4, c4), (n5, c5), (n6, c6)] cells) :
    ∃ o1 o2 o3 o4 o5 o6, cells = [(c1, o1), (c2, o2), (c3, o3), (c4, o4), (c5, o5), (c6, o6)] ∧ o1.data = .cell (cm n1) ∧ o2.data = .cell (cm n2) ∧ o3.data = .cell (cm n3) ∧ o4.data = .cell (cm n4) ∧ o5.data = .cell (cm n5) ∧ o6.data = .cell (cm n6) := by
  cases x with
  | cons d1 x => cases x with
    | cons d2 x => cases x with
      | cons d3 x => cases x with
        | cons d4 x => cases x with
          | cons d5 x => cases x with
            | cons d6 x => cases x with
              | nil => exact ⟨_, _, _, _, _, _, rfl, d1, d2, d3, d4, d5, d6⟩

/-- a caller's frame and ledger behind a call that keeps all that stood -/
theorem fresh_news {h₀ h h' : Heap} {L D : Addr} {m : Str → Option Value} {o : Obj} {news : List (Addr × Obj)} (F : Fr h₀ L h m) (N : News h₀ L h news)
    (k : ∀ b o, h.get? b = some o → h'.get? b = some o) (hD : h.get? D = none) (hD' : h'.get? D = some o) : Fr h₀ L h' m ∧ News h₀ L h' ((D, o) :: news) ∧ ∀ p ∈ news, p.1 ≠ D := by
  refine ⟨F.keeps k, ?_, fun p hp q => ?_⟩
  · intro p hp
    rcases List.mem_cons.mp hp with rfl | hp
    · refine ⟨hD', ?_, ?_⟩
      · rintro rfl
        obtain ⟨oL, _, _, hL, _⟩ := F.ns
        rw [hD] at hL; cases hL
      · cases q : h₀.get? D with
        | none => rfl
        | some o' => have := F.keep _ _ q; rw [hD] at this; cases this
    · exact (N.grown k) p hp
  · have := (N p hp).1
    rw [q, hD] at this; cases this
end Mine
end

section
open PySem PySem.W PyProof.Rows
namespace Mine
local macro_rules | `(tactic| walk_at "enterN") => `(tactic| k_dflt (refine' enterN ?k1 ?k2 ?k3 ?k5 ?kA ?kF ?kK ?k6 ?k7 ?k8 ?k9 ?kB ?_ ?c2 ?c3 ?c4 ?c5; (case kA => exact rfl); (case kF => exact rfl); (case kK => first | exact rfl | assumption); (case k1 => k_asm); (case k2 => k_asm); (case k3 => k_asm); (case k5 => k_asm); (case k6 => k_is); (case k7 => k_is); (case k8 => ktr_room); (case k9 => first | exact BindsTo.of_eq rfl | exact binds_K (by k_in) rfl (by k_is) rfl rfl rfl); (case c5 => decide); (case kB => exact locs rfl); (case c2 => exact rfl); (case c3 => exact rfl); (case c4 => exact rfl); k_whole; intro L' h' F' N' B' X' T'; (try dsimp only); (try k_fold)))
def cellV (ns : List Int) (i : Int) : Int := if i < ns.length then (if ns.getD i.toNat 0 < 0 then -ns.getD i.toNat 0 else ns.getD i.toNat 0) else 37 * i + 11
theorem cellV_nonneg {ns : List Int} {i : Int} (h : 0 ≤ i) : 0 ≤ cellV ns i := by
  unfold cellV
  split
  · split <;> omega
  · omega
set_option maxRecDepth 100000 in
set_option maxHeartbeats 4000000 in
theorem cell_ok (w : World) (mean : ExcName → Option Value) (mg mb : Str → Option Value) (l : Addr) (vs : List Value) (ns : List Int) (i : Int) (tk : Tok) (h0 : 0 ≤ i)
    (hi : IntsAre vs ns) (hfit : ns.length < 2 ^ 62) :
    Contract w mean mg mb 53 1 [.ref l, .int i tk] (fun h => h.IsList l vs.toArray) (fun _ _ v => ∃ t, v = .int (cellV ns i) t) := by
  intro dp un gd cn cs a ccd cl outer A₀ base h₀ L m s Q E B F X T hk hdp hu hl hret
  have hX : PySem.Challenge.rw_ab5005_01 = PySem.Challenge.rw_ab5005_01 ∧ hd.heap_39 w.params = hd.heap_39 w.params := by
    k_fill
    exact ⟨rfl, rfl⟩
  walk_at "enterN"
  k_steps
  all_goals (try k_data)
  all_goals (try dsimp only)
  · refine hret _ _ _ (Fr.keep (by k_asm)) ?_
    unfold cellV
    rw [if_pos (by with_reducible assumption)]
    exact ⟨_, rfl⟩
  · refine hret _ _ _ (Fr.keep (by k_asm)) ?_
    unfold cellV
    rw [if_neg (by with_reducible assumption)]
    exact ⟨_, rfl⟩
end Mine
end

section
open PySem PySem.W PyProof.Rows
namespace Mine
local macro_rules | `(tactic| walk_at "enterC") => `(tactic| k_dflt (refine' enterC ?k1 ?k2 ?k3 ?k5 ?kA ?kF ?kK ?k6 ?k7 ?k8 ?k9 ?kB ?kD ?_ ?c2 ?c3 ?c4; (case kA => exact rfl); (case kF => exact rfl); (case kK => first | exact rfl | assumption); (case k1 => k_asm); (case k2 => k_asm); (case k3 => k_asm); (case k5 => k_asm); (case k6 => k_is); (case k7 => k_is); (case k8 => ktr_room); (case k9 => first | exact BindsTo.of_eq rfl | exact binds_K (by k_in) rfl (by k_is) rfl rfl rfl); (case kB => exact rfl); (case kD => decide +kernel); (case c2 => exact rfl); (case c3 => exact rfl); (case c4 => exact rfl); k_whole; intro L' h' tk' cells' F' N' Y' B' X' T'; k_cells Y'; (try simp only [List.cons_append, List.nil_append] at N'); (try dsimp only); (try k_fold)))
local macro_rules | `(tactic| walk_at "call ref") => `(tactic| (k_here; k_dflt (
  refine' cell_ok _ _ _ _ _ _ _ _ _ ?h0 ?hi ?hf _ _ _ _ _ _ _ _ _ _ _ _ _ _ _ _ _ ?k1 ?k2 ?k3 ?k5 ?k6 ?kd ?ku ?kp ?_;
  (case h0 => first | decide | omega | l_idx); (case hi => l_ints); (case hf => l_fit);
  (case k1 => k_asm); (case k2 => k_asm); (case k3 => k_asm); (case k5 => k_asm); (case k6 => first | exact rfl | assumption);
  (case kd => ktr_room); (case ku => ktr_units); (case kp => is_list);
  k_whole; intro v9 h9 tk9 K9 P9; obtain ⟨t9, hv9⟩ := P9; subst hv9; (have F9 := Fr.keeps (by k_asm) K9); (have N9 := News.grown (by k_asm) K9); clear K9; (try dsimp only); (try k_fold))))

theorem votes_len {n : Int} (g : Int → Int) (h : 1 ≤ n) : (((rangeKs 0 (n - 0).toNat).map g).length : Int) = n := by
  rw [List.length_map, rangeKs_length]; omega
theorem votes_bnd {ns : List Int} {n : Int} {t : Int} (h0 : 0 < t) (h1 : t ≤ 10 ^ 12) : ∀ x ∈ (rangeKs 0 (n - 0).toNat).map (fun k => 1 + (cellV ns (3 + k)).fmod t), 1 ≤ x ∧ x ≤ 10 ^ 12 := by
  intro x hx
  obtain ⟨k, _, rfl⟩ := List.mem_map.mp hx
  have a := Int.fmod_nonneg_of_pos (cellV ns (3 + k)) h0
  have b := Int.fmod_lt_of_pos (cellV ns (3 + k)) h0
  omega
set_option maxRecDepth 100000 in
set_option maxHeartbeats 4000000 in
theorem votes_ok (w : World) (mean : ExcName → Option Value) (mg mb : Str → Option Value) (l : Addr) (vs : List Value) (ns : List Int) (n : Int) (tk tk1 : Tok) (h0 : 1 ≤ n) (h4 : n ≤ 4)
    (hi : IntsAre vs ns) (hfit : ns.length < 2 ^ 62) :
    Contract w mean mg mb 58 2 [.ref l, .int n tk, .int 1 tk1] (fun h => h.IsList l vs.toArray)
      (fun h h' v => ∃ (D : Addr) (ys : List Value) (xs : List Int), v = .ref D ∧ h.get? D = none ∧ h'.get? D = some (LCg.lst ys) ∧ IntsAre ys xs ∧ (xs.length : Int) = n ∧ ∀ x ∈ xs, 1 ≤ x ∧ x ≤ 10 ^ 12) := by
  intro dp un gd cn cs a ccd cl outer A₀ base h₀ L m s Q E B F X T hk hdp hu hl hret
  have hX : PySem.Challenge.rw_ab5005_01 = PySem.Challenge.rw_ab5005_01 ∧ hd.heap_39 w.params = hd.heap_39 w.params := by
    k_fill
    exact ⟨rfl, rfl⟩
  walk_at "enterC"
  k_steps
  all_goals (
    (rename Fr _ _ _ _ => F1); (rename News _ _ _ _ => N1); (rename IntsAre _ _ => I1)
    (have hm := N1 _ List.mem_cons_self)
    refine hret _ _ _ F1.keep ⟨_, _, _, rfl, hm.2.2, hm.1, I1, ?_, ?_⟩)
  all_goals first
    | exact votes_len _ h0
    | exact votes_bnd (by decide) (by decide)
end Mine
end

section
open PySem PySem.W PyProof.Rows
namespace Mine
local macro_rules | `(tactic| walk_at "enterC") => `(tactic| k_dflt (refine' enterC ?k1 ?k2 ?k3 ?k5 ?kA ?kF ?kK ?k6 ?k7 ?k8 ?k9 ?kB ?kD ?_ ?c2 ?c3 ?c4; (case kA => exact rfl); (case kF => exact rfl); (case kK => first | exact rfl | assumption); (case k1 => k_asm); (case k2 => k_asm); (case k3 => k_asm); (case k5 => k_asm); (case k6 => k_is); (case k7 => k_is); (case k8 => ktr_room); (case k9 => first | exact BindsTo.of_eq rfl | exact binds_K (by k_in) rfl (by k_is) rfl rfl rfl); (case kB => exact rfl); (case kD => decide +kernel); (case c2 => exact rfl); (case c3 => exact rfl); (case c4 => exact rfl); k_whole; intro L' h' tk' cells' F' N' Y' B' X' T'; k_cells Y'; (try simp only [List.cons_append, List.nil_append] at N'); (try dsimp only); (try k_fold)))

local macro_rules | `(tactic| k_cells $Y:ident) => `(tactic| (have hY := cells_six $Y; obtain ⟨o1', o2', o3', o4', o5', o6', hE', d1', d2', d3', d4', d5', d6'⟩ := hY; subst hE'; clear $Y))
local macro_rules | `(tactic| walk_at "exec While Compare cons nil") => `(tactic| refine hold ?_)
local macro_rules | `(tactic| walk_at "exec For Name Name cons nil") => `(tactic| refine for_at ?_)
local macro_rules | `(tactic| walk_at "pyIter ref") => `(tactic| refine hold ?_)
local macro_rules | `(tactic| mul_fits) => `(tactic| exact IntMulOk.of_right (intBits_le_64 (by omega) (by omega)))
local macro_rules | `(tactic| mul_fits) => `(tactic| exact IntMulOk.of_left (intBits_le_64 (by omega) (by omega)))
theorem fr_name {g h : Heap} {L : Addr} {m : Str → Option Value} {x : Str} {v : Value} (F : Fr g L h m) (e : m x = some v) : Fr g L h (fun y => if y = x then some v else m y) := by
  have q : (fun y => if y = x then some v else m y) = m := by
    funext y
    by_cases c : y = x
    · rw [if_pos c, c, e]
    · rw [if_neg c]
  rw [q]; exact F
theorem getD_bits {ns : List Int} {i : Nat} (hp : ∀ x ∈ ns, 1 ≤ x ∧ x ≤ 3 * 10 ^ 12) : Builtin.Int.intBits (ns.getD i 0) ≤ 64 := by
  by_cases h : i < ns.length
  · have e : ns.getD i 0 = ns[i] := by rw [List.getD_eq_getElem?_getD, List.getElem?_eq_getElem h]; rfl
    have := hp _ (e ▸ List.getElem_mem h : ns.getD i 0 ∈ ns)
    exact intBits_le_64 (by omega) (by omega)
  · have e : ns.getD i 0 = 0 := by rw [List.getD_eq_getElem?_getD, List.getElem?_eq_none (by omega)]; rfl
    rw [e]; decide
theorem neg_bits {ns : List Int} {k : Int} (hp : ∀ x ∈ ns, 1 ≤ x ∧ x ≤ 3 * 10 ^ 12) (h : k ∈ ns) : Builtin.Int.intBits (-k) ≤ 64 := by
  have := hp _ h
  exact intBits_le_64 (by omega) (by omega)
local macro_rules | `(tactic| mul_fits) => `(tactic| first | exact IntMulOk.of_left (getD_bits (by assumption)) | exact IntMulOk.of_left (neg_bits (by assumption) (by assumption)))
theorem le_sum {R : List Int} (hpos : ∀ x ∈ R, 0 ≤ x) : ∀ x ∈ R, x ≤ R.sum := by
  induction R with
  | nil => intro x hx; cases hx
  | cons a R ih =>
    intro x hx
    have h1 := ih fun y hy => hpos y (.tail _ hy)
    have h2 : 0 ≤ R.sum := by
      clear h1 ih hx
      induction R with
      | nil => exact Int.le_refl _
      | cons b R ih2 =>
        have := ih2 (fun y hy => hpos y (by rcases List.mem_cons.mp hy with rfl | hy; exact .head _; exact .tail _ (.tail _ hy)))
        have := hpos b (.tail _ (.head _))
        rw [List.sum_cons]; omega
    have h3 := hpos a (.head _)
    rw [List.sum_cons]
    rcases List.mem_cons.mp hx with rfl | hx
    · omega
    · have := h1 x hx; omega
theorem rep_pos {R : List Int} {i : Nat} (hpos : ∀ x ∈ R, 0 ≤ x) : 0 ≤ R.getD i 0 ∧ R.getD i 0 ≤ R.sum := by
  by_cases h : i < R.length
  · have e : R.getD i 0 = R[i] := by rw [List.getD_eq_getElem?_getD, List.getElem?_eq_getElem h]; rfl
    have hm : R.getD i 0 ∈ R := e ▸ List.getElem_mem h
    exact ⟨hpos _ hm, le_sum hpos _ hm⟩
  · have e : R.getD i 0 = 0 := by rw [List.getD_eq_getElem?_getD, List.getElem?_eq_none (by omega)]; rfl
    rw [e]
    refine ⟨Int.le_refl _, ?_⟩
    clear h e
    induction R with
    | nil => exact Int.le_refl _
    | cons a R ih => have := ih fun y hy => hpos y (.tail _ hy); have := hpos a (.head _); rw [List.sum_cons]; omega
theorem sum_bnd {ns : List Int} (hp : ∀ x ∈ ns, 1 ≤ x ∧ x ≤ 3 * 10 ^ 12) : (ns.length : Int) ≤ ns.sum ∧ ns.sum ≤ 3 * 10 ^ 12 * ns.length := by
  induction ns with
  | nil => simp
  | cons a ns ih => have := ih fun y hy => hp y (.tail _ hy); have := hp a (.head _); rw [List.sum_cons, List.length_cons]; omega
theorem fdiv_rep {prog : Program} {w : World} {A : Around} {E : Value → Shared → Prop} {s : Shared} {Q : Value → Shared → Prop} {a : Int} {t t' : Tok} {R : List Int} {i : Nat} (hpos : ∀ x ∈ R, 0 ≤ x) (hs : R.sum ≤ 9)
    (h : Q (.int (a.fdiv (R.getD i 0 + 1)) s.toks) { s with toks := s.toks + 1 }) : wpAny (model prog w) A (binaryOp .FloorDiv (.int a t) (.int (R.getD i 0 + 1) t')) Q E s :=
  fdiv_ok (by have := rep_pos (i := i) hpos; omega) (by have := rep_pos (i := i) hpos; omega) h
theorem fdiv_sum {prog : Program} {w : World} {A : Around} {E : Value → Shared → Prop} {s : Shared} {Q : Value → Shared → Prop} {a : Int} {t t' : Tok} {ns : List Int} (hp : ∀ x ∈ ns, 1 ≤ x ∧ x ≤ 3 * 10 ^ 12) (h1 : 1 ≤ ns.length) (h4 : ns.length ≤ 4)
    (h : Q (.int (a.fdiv ns.sum) s.toks) { s with toks := s.toks + 1 }) : wpAny (model prog w) A (binaryOp .FloorDiv (.int a t) (.int ns.sum t')) Q E s :=
  fdiv_ok (by have := sum_bnd hp; omega) (by have := sum_bnd hp; omega) h
local macro_rules | `(tactic| walk_at "binaryOp FloorDiv int int") => `(tactic| (first | refine fdiv_rep (by assumption) (by assumption) ?_ | refine fdiv_sum (by assumption) (by assumption) (by assumption) ?_))
local macro_rules | `(tactic| walk_at "subscriptTail Name Name ref int") => `(tactic| (k_here; k_dflt (first
  | (refine' item_ledK ?N ?m ?i ?a ?b ?c ?e ?_; (case N => k_asm); (case m => k_mem); (case i => assumption); (case a => assumption); (case b => assumption); (case c => assumption); (case e => first | rfl | assumption | exact List.length_map .. | exact len_mapK); k_whole)
  | (refine' item_baseK ?F ?m ?i ?a ?b ?c ?e ?_; (case F => k_asm); (case m => assumption); (case i => assumption); (case a => assumption); (case b => assumption); (case c => assumption); (case e => first | rfl | assumption); k_whole)); intro tI))
theorem fold_filter {p : Int → Prop} [DecidablePred p] (ks : List Int) : ∀ l : List Int, ks.foldl (fun l k => if p k then l ++ [k] else l) l = l ++ ks.filter (fun k => decide (p k)) := by
  induction ks with
  | nil => intro l; simp
  | cons k ks ih =>
    intro l
    rw [List.foldl_cons, ih]
    by_cases h : p k
    · rw [if_pos h, List.filter_cons_of_pos (by simpa using h)]; simp
    · rw [if_neg h, List.filter_cons_of_neg (by simpa using h)]
theorem getD_mapK {f : Int → Int} {N : Nat} {k : Int} (h : k ∈ rangeKs 0 N) : (List.map f (rangeKs 0 N)).getD k.toNat 0 = f k := by
  have hb := mem_rangeKs h
  have hl : k.toNat < (List.map f (rangeKs 0 N)).length := by rw [List.length_map, rangeKs_length]; omega
  rw [List.getD_eq_getElem?_getD, List.getElem?_eq_getElem hl]
  show (List.map f (rangeKs 0 N))[k.toNat] = f k
  have e : 0 + ((k.toNat : Nat) : Int) = k := by omega
  have e' : max k 0 = k := by omega
  simp [rangeKs, e']
abbrev firsts (f : Int → Int) (N : Nat) (M : Int) : List Int := List.foldl (fun l k => if (List.map f (rangeKs 0 N)).getD k.toNat 0 = M then l ++ [k] else l) [] (rangeKs 0 N)
theorem firsts_ok {f : Int → Int} {N : Nat} {M : Int} (h : M ∈ List.map f (rangeKs 0 N)) : 0 < (firsts f N M).length ∧ ∀ k ∈ firsts f N M, 0 ≤ k ∧ k < N := by
  unfold firsts
  rw [fold_filter (p := fun k => (List.map f (rangeKs 0 N)).getD k.toNat 0 = M), List.nil_append]
  obtain ⟨k, hk, e⟩ := List.mem_map.mp h
  constructor
  · exact List.length_pos_of_mem (List.mem_filter.mpr ⟨hk, by rw [getD_mapK hk, e]; simp⟩)
  · intro k hk
    have := mem_rangeKs (List.mem_filter.mp hk).1
    omega
theorem item_first {prog : Program} {w : World} {A : Around} {E : Value → Shared → Prop} {s : Shared} {g : Heap} {L l : Addr} {news : List (Addr × Obj)} {ys : List Value} {u : Tok} {value slice : PySem.Expr} {Q : Value → Shared → Prop} {f : Int → Int} {N nn : Nat} {M : Int}
    (Ns : News g L s.heap news) (hm : (l, listOf ys.toArray nn) ∈ news) (hi : IntsAre ys (List.foldl (fun l k => if (List.map f (rangeKs 0 N)).getD k.toNat 0 = M then l ++ [k] else l) [] (rangeKs 0 N))) (hM : M ∈ List.map f (rangeKs 0 N))
    (h : ∀ ix t, 0 ≤ ix → ix < (N : Int) → ix = (firsts f N M).getD 0 0 → Q (.int ix t) s)
    (hs : subscripted slice false (.ref l) (.int 0 u) = operate [.ref l, .int 0 u] (getItem (.ref l) (.int 0 u)) := by with_unfolding_all rfl) :
    wpAny (model prog w) A (subscriptTail value slice (.ref l) (.int 0 u)) Q E s := by
  obtain ⟨h1, h2⟩ := firsts_ok hM
  refine item_led Ns hm hi (Int.le_refl 0) (by unfold firsts at h1; omega) (by decide) (fun t => ?_) hs
  have e : (firsts f N M).getD 0 0 ∈ firsts f N M := by
    rw [List.getD_eq_getElem?_getD, List.getElem?_eq_getElem h1]
    exact List.getElem_mem h1
  exact h _ t (h2 _ e).1 (h2 _ e).2 rfl
local macro_rules | `(tactic| walk_at "subscriptTail Name Constant ref int") => `(tactic| (k_here; k_dflt (refine' item_first ?N ?m ?i ?M ?_; (case N => k_asm); (case m => k_mem); (case i => assumption); (case M => assumption); k_whole); intro ix tI hix0 hix1 hixE))
local macro_rules | `(tactic| walk_at "getItem ref int") => `(tactic| (k_here; k_dflt (refine' get_K ?N ?m ?i ?a ?b ?c ?e ?_; (case N => k_asm); (case m => k_mem); (case i => assumption); (case a => assumption); (case b => assumption); (case c => assumption); (case e => assumption); k_whole); intro tI))
local macro_rules | `(tactic| walk_at "setItem ref int int") => `(tactic| (k_here; k_dflt (refine' set_K ?F ?N ?U ?i ?a ?b ?c ?e ?_; (case F => k_asm); (case N => k_asm); (case U => k_upd); (case i => assumption); (case a => assumption); (case b => assumption); (case c => assumption); (case e => assumption); k_whole); intro h' F' N' hi' hl' hs'))
theorem bne_tt {a b : Int} (h : a ≠ b) : (a != b) = true := by simpa using h
local macro_rules | `(tactic| walk_at "ite") => `(tactic| refine ite_pos (bne_tt (by assumption)) ?_)
local macro_rules | `(tactic| walk_at "exec Assign cons ListComp") => `(tactic| (k_here; lct_look; k_dflt (refine LCt.Assign_ListComp_T (F₀ := by k_asm) (by rfl) (by with_unfolding_all rfl) (by with_unfolding_all rfl) (by decide) (by rfl) (by decide) (by rfl) (by rfl) (by rfl) ?_)))
theorem small_n {n : Nat} (h : n ≤ 4) : Builtin.Range.small 0 (n : Int) 1 = true := small_one (by omega) (by omega) (by omega) (by omega)
theorem line_n {n : Nat} (h : n ≤ 4) : ((n : Int) - 0).toNat ≤ sizeLine := by rw [PySem.sizeLine_eq]; omega
local macro_rules | `(tactic| walk_at "CompSrcT") => `(tactic| (k_here; k_dflt (refine LCt.CompSrcT.range (by rfl) (by k_asm) (by k_asm) (by assumption) (small_n (by assumption)) (rangeSize_nat _ _) (line_n (by assumption)) ?_; intro g'; (refine' kci_range _ (fun k' t' I' oI' C' oC' D' m' ys' l' h' tk' E' hlo' hhi' hI' hC' hx' F' N' off' ne' hMark' => ?_) ?_ ?_); (all_goals (try (simp only [LCg.Off3, and_true] at off'))); kcf_last)))
local macro_rules | `(tactic| walk_at "CompEnd") => `(tactic| first | kcf_end | (refine LCg.CompEnd.intro (by assumption) (by assumption) _ (fun p hp => hp) (by first | assumption | (simp only [LCg.Off3, and_true]; assumption)) (by first | exact True.intro | lcg_src | assumption) ?_))
def prodUp (R : List Int) : Int := R.foldl (fun a r => a * (r + 1)) 1
theorem prodUp_snoc (R : List Int) (r : Int) : prodUp (R ++ [r]) = prodUp R * (r + 1) := by unfold prodUp; rw [List.foldl_append]; rfl
theorem zeros_flat (n : Nat) : (List.replicate n [(0 : Int)]).flatten = List.replicate n 0 := by
  induction n with
  | zero => rfl
  | succ n ih => rw [List.replicate_succ, List.flatten_cons, ih]; rfl
theorem i1z {vs : List Value} {n : Nat} (h : IntsAre vs (List.replicate ((n : Int)).toNat [(0 : Int)]).flatten) : IntsAre vs (List.replicate n 0) := by
  rw [zeros_flat] at h; simpa using h
theorem lst_rep {n : Nat} {v : Value} : LCg.lst (List.replicate n [v]).flatten = listOf (List.replicate n [v]).flatten.toArray (List.replicate n [v]).flatten.length := rfl
theorem sum_zeros (n : Nat) : (List.replicate n (0 : Int)).sum = 0 := by
  induction n with
  | zero => rfl
  | succ n ih => rw [List.replicate_succ, List.sum_cons, ih]; rfl
theorem set_getD_nonneg {R : List Int} {j : Nat} {x : Int} (hx : 0 ≤ x) (h : ∀ y ∈ R, 0 ≤ y) : ∀ y ∈ R.set j x, 0 ≤ y := fun y hy => by
  rcases List.mem_or_eq_of_mem_set hy with h1 | h1
  · exact h y h1
  · rw [h1]; exact hx
/-- the quota method's step: the places' quotas, the first place of the greatest, one more there -/
abbrev qN (ns : List Int) : Nat := ((ns.length : Int) - 0).toNat
abbrev qf (ns R : List Int) : Int → Int := fun k' => if (List.map (fun k' => -(-k' * (R.sum + 1)).fdiv ns.sum) ns).getD k'.toNat 0 ≤ R.getD k'.toNat 0 then 0 else (List.map (fun k' => (ns.getD k'.toNat 0 * prodUp R).fdiv (R.getD k'.toNat 0 + 1)) (rangeKs 0 (qN ns))).getD k'.toNat 0
def qidx (ns R : List Int) : Int := (firsts (qf ns R) (qN ns) (((List.map (qf ns R) (rangeKs 0 (qN ns))).max?).getD 0)).getD 0 0
def qstep (ns R : List Int) : List Int := R.set (qidx ns R).toNat (R.getD (qidx ns R).toNat 0 + 1)
def qIter (ns : List Int) : Nat → List Int
  | 0 => List.replicate ns.length 0
  | j + 1 => qstep ns (qIter ns j)
theorem max_is {l : List Int} {M : Int} (h : M ∈ l) (h' : ∀ a ∈ l, a ≤ M) : l.max?.getD 0 = M := by
  rw [List.max?_eq_some_iff.mpr ⟨h, h'⟩]; rfl
theorem max_in {l : List Int} (h : l ≠ []) : l.max?.getD 0 ∈ l := by
  cases e : l.max? with
  | none => exact absurd (List.max?_eq_none_iff.mp e) h
  | some M => exact (List.max?_eq_some_iff.mp e).1
theorem qidx_bnd {ns R : List Int} (h1 : 1 ≤ ns.length) : 0 ≤ qidx ns R ∧ qidx ns R < ns.length := by
  have hne : List.map (qf ns R) (rangeKs 0 (qN ns)) ≠ [] := by
    intro e
    have := congrArg List.length e
    rw [List.length_map, rangeKs_length] at this
    have h2 : ((ns.length : Int) - 0).toNat = 0 := this
    omega
  obtain ⟨a, b⟩ := firsts_ok (max_in hne)
  have e : qidx ns R ∈ firsts (qf ns R) (qN ns) (((List.map (qf ns R) (rangeKs 0 (qN ns))).max?).getD 0) := by
    unfold qidx
    rw [List.getD_eq_getElem?_getD, List.getElem?_eq_getElem a]
    exact List.getElem_mem a
  have h3 := b _ e
  have h2 : ((qN ns : Nat) : Int) = ns.length := by
    show ((((ns.length : Int) - 0).toNat : Nat) : Int) = ns.length
    omega
  exact ⟨h3.1, by rw [← h2]; exact h3.2⟩
theorem qIter_ok {ns : List Int} (h1 : 1 ≤ ns.length) : ∀ j, (qIter ns j).length = ns.length ∧ (∀ x ∈ qIter ns j, 0 ≤ x) ∧ (qIter ns j).sum = j := fun j => by
  induction j with
  | zero => exact ⟨List.length_replicate, fun x hx => by rw [(List.mem_replicate.mp hx).2]; exact Int.le_refl _, sum_zeros _⟩
  | succ j ih =>
    obtain ⟨a, b, c⟩ := ih
    have hb := qidx_bnd (R := qIter ns j) h1
    refine ⟨(List.length_set ..).trans a, set_getD_nonneg (by have := (rep_pos (i := (qidx ns (qIter ns j)).toNat) b).1; omega) b, ?_⟩
    show (qstep ns (qIter ns j)).sum = _
    unfold qstep
    rw [sum_set (by omega), c]
    omega
theorem qstep_eq {ns R : List Int} {j : Nat} {M ix : Int} (hRR : qIter ns j = R) (hM : M ∈ List.map (qf ns R) (rangeKs 0 (qN ns))) (hMx : ∀ a : Int, a ∈ List.map (qf ns R) (rangeKs 0 (qN ns)) → a ≤ M) (hE : ix = (firsts (qf ns R) (qN ns) M).getD 0 0) :
    R.set ix.toNat (R.getD ix.toNat 0 + 1) = qIter ns (j + 1) := by
  show _ = qstep ns (qIter ns j)
  rw [hRR]
  unfold qstep qidx
  rw [max_is hM hMx, ← hE]
/-- what stands between two turns of quota's while -/
def QInv (g : Heap) (L l D : Nat) (n : Int) (tk : Tok) (ns : List Int) (k : Nat) (h : Heap) : Prop :=
  ∃ (m : Str → Option Value) (ys : List Value) (j : Nat) (nn : Nat) (oV oR oC oQ oU oM : Obj) (u1 u2 u3 u4 : Option Value), Fr g L h m ∧ m (Str.ofString "seats") = some (.int n tk) ∧
    News g L h [(D, listOf ys.toArray nn), (L + 1 + 1 + 1 + 1 + 1 + 1, oM), (L + 1 + 1 + 1 + 1 + 1, oU), (L + 1 + 1 + 1 + 1, oQ), (L + 1 + 1 + 1, oC), (L + 1 + 1, oR), (L + 1, oV)] ∧ L + 1 + 1 + 1 + 1 + 1 + 1 < D ∧
    oV.data = .cell (some (.ref l)) ∧ oR.data = .cell (some (.ref D)) ∧ oC.data = .cell u1 ∧ oQ.data = .cell u2 ∧ oU.data = .cell u3 ∧ oM.data = .cell u4 ∧ IntsAre ys (qIter ns j) ∧ ((j + k : Nat) : Int) = n
/-- between two turns of the for that multiplies -/
def PJ (L l D nn : Nat) (n : Int) (tk : Tok) (R : List Int) (ys : List Value) (oV oR oQ oU oM : Obj) (i : Nat) (m : Str → Option Value) (news : List (Addr × Obj)) : Prop :=
  m (Str.ofString "seats") = some (.int n tk) ∧ ∃ (oC : Obj) (tc : Tok), oC.data = .cell (some (.int (prodUp (R.take i)) tc)) ∧
    news = [(D, listOf ys.toArray nn), (L + 1 + 1 + 1 + 1 + 1 + 1, oM), (L + 1 + 1 + 1 + 1 + 1, oU), (L + 1 + 1 + 1 + 1, oQ), (L + 1 + 1 + 1, oC), (L + 1 + 1, oR), (L + 1, oV)]

set_option maxRecDepth 100000 in
set_option maxHeartbeats 40000000 in
theorem quota_ok (w : World) (mean : ExcName → Option Value) (mg mb : Str → Option Value) (l : Addr) (vs : List Value) (ns : List Int) (n : Int) (tkn tk1 : Tok) (h0 : 0 ≤ n) (h4 : n ≤ 9)
    (hi : IntsAre vs ns) (hl1 : 1 ≤ ns.length) (hl4 : ns.length ≤ 4) (hp : ∀ x ∈ ns, 1 ≤ x ∧ x ≤ 3 * 10 ^ 12) :
    Contract w mean mg mb 46 1 [.ref l, .int n tkn] (fun h => h.IsList l vs.toArray)
      (fun h h' v => ∃ (D : Addr) (ys : List Value), v = .ref D ∧ h.get? D = none ∧ (∃ nn, h'.get? D = some (listOf ys.toArray nn)) ∧ IntsAre ys (qIter ns n.toNat)) := by
  intro dp un gd cn cs a ccd cl outer A₀ base h₀ L m s Q E B F X T hk hdp hu hl hret
  have hX : PySem.Challenge.rw_ab5005_01 = PySem.Challenge.rw_ab5005_01 ∧ hd.heap_39 w.params = hd.heap_39 w.params := by
    k_fill
    exact ⟨rfl, rfl⟩
  walk_at "enterC"
  k_steps
  all_goals (clear F X T B hX)
  rename_i L9 hh9 tk9 B9 X9 T9 o1 o2 o3 o4 o5 o6 c1 c2 c3 c4 c5 c6 l9 hb9 l1a D9 hc9 i1 n1 s1 e1 e2 e3 l1 hd9 o9 F9 N9 d9
  unfold Held
  refine while_inv (QInv s.heap L9 l D9 n tkn ns) n.toNat ?_ ?_
  · exact ⟨_, _, 0, _, _, _, _, _, _, _, _, _, _, _, F9, rfl, fun p hp' => N9 p (by
      rcases List.mem_cons.mp hp' with h | h
      · exact h ▸ .head _
      · exact .tail _ (.tail _ h)), by omega, c6, d9, c4, c3, c2, c1, i1z i1, by omega⟩
  clear F9 N9 i1 s1 e1 e2 e3 d9 c1 c2 c3 c4 c5 c6 l1 l1a
  intro k h tk2 hinv
  obtain ⟨m, ys, j, nn, oV, oR, oC, oQ, oU, oM, u1, u2, u3, u4, F2a, hm, N2, hD, q1, q2, q3, q4, q5, q6, hI, hjk⟩ := hinv
  obtain ⟨hlen, hpos, hsum⟩ := qIter_ok hl1 j
  generalize hRR : qIter ns j = R at hI hlen hpos hsum
  have F2 := fr_name F2a hm
  clear F2a
  have hsum9 : R.sum ≤ 9 := by omega
  have hs0 : ns.sum ≠ 0 := by have := sum_bnd hp; omega
  k_steps
  · unfold Held
    rename_i F3 N3 d3
    refine forAt_list (its := ys) rfl (by rfl) (by rfl) F3 N3 ⟨_, (N3 _ (.head _)).1, rfl, _, rfl⟩ (by rw [IntsAre.length hI, hlen, PySem.sizeLine_eq]; omega) (PJ L9 l D9 nn n tkn R ys oV oR oQ oU oM) ⟨rfl, _, _, d3, rfl⟩ (.inr ⟨_, .head _, ?_⟩) ?_ ?_ ?_
    · rintro i' m' news' ⟨_, oC', tc', _, rfl⟩
      exact .head _
    · rintro i' m' news' ⟨_, oC', tc', _, rfl⟩ p hp'
      simp only [List.mem_cons, List.not_mem_nil, or_false] at hp' ⊢
      rcases hp' with rfl | rfl | rfl | rfl | rfl | rfl | rfl <;> simp
    · rintro I i v m' news' hh tkk oI s₂ hv ⟨hm', oC', tc', hdC, rfl⟩ F4 N4 hlt ⟨h₂, rfl⟩
      k_lt hlt
      obtain ⟨r, tr, rfl, hr⟩ := IntsAre.at hI i v hv
      have hr0 := hpos r (List.mem_of_getElem? hr)
      have hr9 := le_sum hpos r (List.mem_of_getElem? hr)
      have hr10 : r ≤ 9 := by omega
      clear F3 N3 d3
      k_steps
      rename_i F6 N6 d6
      rw [← prodUp_snoc, ← take_snoc hr] at d6
      exact ⟨rfl, _, _, _, _, rfl, F6, N6, hm', _, _, d6, rfl⟩
    · rintro m' news' hh tkk ⟨hm', oC', tc', hdC, rfl⟩ F4 N4
      have F5 := fr_name F4 hm'
      rw [IntsAre.length hI, List.take_length] at hdC
      clear F3 N3 d3 F4
      k_steps
      (rename (_ : Int) = List.getD (firsts _ _ _) 0 0 => hE)
      (rename _ ∈ List.map _ _ => hM)
      (rename ∀ (a : Int), a ∈ List.map _ _ → a ≤ _ => hMx)
      (rename IntsAre (List.set _ _ _) _ => hI9)
      (rename Fr _ _ _ _ => F7)
      (rename News _ _ _ _ => N7)
      have hlt9 : R.sum < n := by assumption
      rw [qstep_eq hRR hM hMx hE] at hI9
      refine ⟨rfl, k - 1, _, _, by omega, rfl, _, _, j + 1, _, _, _, _, _, _, _, _, _, _, _, F7, rfl, fun p hp' => N7 p (.tail _ (.tail _ (.tail _ (.tail _ hp')))), hD, by assumption, by assumption, by assumption, by assumption, by assumption, by assumption, hI9, by omega⟩
  · rename_i hnlt
    dsimp only
    have hj : n.toNat = j := by omega
    (rename Fr _ _ _ _ => F7)
    (rename News _ _ _ _ => N7)
    refine hret _ _ _ (Fr.keep F7) ⟨D9, ys, rfl, (N7 _ (.head _)).2.2, ⟨_, (N7 _ (.head _)).1⟩, ?_⟩
    rw [hj, hRR]
    exact hI
end Mine
end

section
namespace Mine
/-- the sum of the first k values -/
def sumTo (f : Nat → Int) : Nat → Int
  | 0 => 0
  | k + 1 => sumTo f k + f k
theorem sumTo_le {f g : Nat → Int} : ∀ {k : Nat}, (∀ i, i < k → f i ≤ g i) → sumTo f k ≤ sumTo g k
  | 0, _ => Int.le_refl _
  | k + 1, h => by
    have := sumTo_le (k := k) fun i hi => h i (by omega)
    have := h k (by omega)
    simp only [sumTo]; omega
theorem sumTo_lt {f g : Nat → Int} : ∀ {k a : Nat}, (∀ i, i < k → f i ≤ g i) → a < k → f a < g a → sumTo f k < sumTo g k
  | 0, _, _, h, _ => absurd h (by omega)
  | k + 1, a, h, ha, hl => by
    simp only [sumTo]
    rcases Nat.lt_or_ge a k with h1 | h1
    · have := sumTo_lt (k := k) (fun i hi => h i (by omega)) h1 hl
      have := h k (by omega)
      omega
    · have e : a = k := by omega
      subst e
      have := sumTo_le (k := a) fun i hi => h i (by omega)
      omega
/-- if b has no less in all and a has less, some other has more -/
theorem more_of_less {R R' : Nat → Int} {n a : Nat} (ha : a < n) (hs : sumTo R n ≤ sumTo R' n) (hl : R' a < R a) : ∃ b, b < n ∧ b ≠ a ∧ R b < R' b := by
  refine Classical.byContradiction fun hc => ?_
  have : sumTo R' n < sumTo R n := sumTo_lt (fun i hi => ?_) ha hl
  · omega
  · by_cases e : i = a
    · subst e; omega
    · refine Int.not_lt.mp fun h => hc ⟨i, hi, e, h⟩
/-- (a, i) comes before (b, j) -/
def Bef (q g : Nat → Int) (a i b j : Nat) : Prop := q b * g j < q a * g i ∨ (q b * g j = q a * g i ∧ a < b)
/-- a stable share: each seat given comes before each seat next in line elsewhere -/
def Stable (q g : Nat → Int) (n : Nat) (x : Nat → Nat) : Prop := ∀ a b, a < n → b < n → a ≠ b → 0 < x a → Bef q g a (x a - 1) b (x b)
/-- the exchange -/
theorem exch {q q' g : Nat → Int} {n K a : Nat} {x x' : Nat → Nat} (ha : a < n) (hx : ∀ i, i < n → x i ≤ K) (hx' : ∀ i, i < n → x' i ≤ K)
    (hg : ∀ i j, i ≤ j → j ≤ K → g j ≤ g i) (hg0 : ∀ i, i ≤ K → 0 ≤ g i) (hq : ∀ i, i < n → 0 ≤ q i) (hqa : q a ≤ q' a) (hqb : ∀ i, i < n → i ≠ a → q' i = q i)
    (S : Stable q g n x) (S' : Stable q' g n x') (hs : sumTo (fun i => (x i : Int)) n ≤ sumTo (fun i => (x' i : Int)) n) : x a ≤ x' a := by
  refine Classical.byContradiction fun hc => ?_
  obtain ⟨b, hb, hba, hlt⟩ := more_of_less (R := fun i => (x i : Int)) (R' := fun i => (x' i : Int)) ha hs (by simp; omega)
  have hlt : x b < x' b := by simpa using hlt
  have h1 := S a b ha hb (fun e => hba e.symm) (by omega)
  have h2 := S' b a hb ha hba (by omega)
  have k1 := hx a ha; have k2 := hx' b hb; have k3 := hx b hb; have k4 := hx' a ha
  have e1 : q b * g (x' b - 1) ≤ q b * g (x b) := Int.mul_le_mul_of_nonneg_left (hg _ _ (by omega) (by omega)) (hq b hb)
  have e2 : q a * g (x a - 1) ≤ q a * g (x' a) := Int.mul_le_mul_of_nonneg_left (hg _ _ (by omega) (by omega)) (hq a ha)
  have e3 : q a * g (x' a) ≤ q' a * g (x' a) := Int.mul_le_mul_of_nonneg_right hqa (hg0 _ (by omega))
  unfold Bef at h1 h2
  rw [hqb b hb hba] at h2
  rcases h1 with h1 | ⟨h1, h1'⟩ <;> rcases h2 with h2 | ⟨h2, h2'⟩ <;> omega
/-- one more in all, nowhere less: one has one more, the others the same -/
theorem unit_step {x x' : Nat → Int} : ∀ {n : Nat}, (∀ i, i < n → x i ≤ x' i) → sumTo x' n = sumTo x n + 1 → ∃ a, a < n ∧ x' a = x a + 1 ∧ ∀ i, i < n → i ≠ a → x' i = x i
  | 0, _, h => by simp [sumTo] at h
  | n + 1, hl, hs => by
    simp only [sumTo] at hs
    have h1 := sumTo_le (f := x) (g := x') (k := n) fun i hi => hl i (by omega)
    have h2 := hl n (by omega)
    by_cases e : x' n = x n
    · obtain ⟨a, ha, e1, e2⟩ := unit_step (n := n) (fun i hi => hl i (by omega)) (by omega)
      refine ⟨a, by omega, e1, fun i hi hia => ?_⟩
      by_cases ein : i = n
      · subst ein; exact e
      · exact e2 i (by omega) hia
    · refine ⟨n, by omega, by omega, fun i hi hin => ?_⟩
      have hi' : i < n := by omega
      have h3 := hl i hi
      refine Int.le_antisymm (Int.not_lt.mp fun h => ?_) h3
      have := sumTo_lt (f := x) (g := x') (k := n) (fun i hi => hl i (by omega)) hi' h
      omega
end Mine
end

section
open PySem PySem.W PyProof.Rows
namespace Mine
local macro_rules | `(tactic| walk_at "enterC") => `(tactic| k_dflt (refine' enterC ?k1 ?k2 ?k3 ?k5 ?kA ?kF ?kK ?k6 ?k7 ?k8 ?k9 ?kB ?kD ?_ ?c2 ?c3 ?c4; (case kA => exact rfl); (case kF => exact rfl); (case kK => first | exact rfl | assumption); (case k1 => k_asm); (case k2 => k_asm); (case k3 => k_asm); (case k5 => k_asm); (case k6 => k_is); (case k7 => k_is); (case k8 => ktr_room); (case k9 => first | exact BindsTo.of_eq rfl | exact binds_K (by k_in) rfl (by k_is) rfl rfl rfl); (case kB => exact rfl); (case kD => decide +kernel); (case c2 => exact rfl); (case c3 => exact rfl); (case c4 => exact rfl); k_whole; intro L' h' tk' cells' F' N' Y' B' X' T'; k_cells Y'; (try simp only [List.cons_append, List.nil_append] at N'); (try dsimp only); (try k_fold)))

local macro_rules | `(tactic| k_cells $Y:ident) => `(tactic| (have hY := cells_five $Y; obtain ⟨o1', o2', o3', o4', o5', hE', d1', d2', d3', d4', d5'⟩ := hY; subst hE'; clear $Y))
local macro_rules | `(tactic| walk_at "exec If") => `(tactic| refine hold ?_)
local macro_rules | `(tactic| walk_at "exec For Name Name cons nil") => `(tactic| refine for_at ?_)
local macro_rules | `(tactic| walk_at "pyIter ref") => `(tactic| refine hold ?_)
local macro_rules | `(tactic| walk_at "eval ListComp Tuple") => `(tactic| (k_dflt (refine comp_at (by with_unfolding_all rfl) (by rfl) (by decide) (by rfl) (fun _ => rfl) (fun _ => rfl) ?_)))

local macro_rules | `(tactic| walk_at "newTuple") => `(tactic| (k_here; k_dflt (refine' newTuple_kept ?F ?N ?_ ?z; (case F => k_asm); (case N => k_asm); (case z => size_fits); k_whole); intro a' h' F' N' K' e'))
inductive Meth where
  | dh | sl | ms | ad | de | hu
def Meth.name : Meth → Str
  | .dh => Str.ofString "dhondt" | .sl => Str.ofString "saintelague" | .ms => Str.ofString "modified_saintelague" | .ad => Str.ofString "adams" | .de => Str.ofString "dean" | .hu => Str.ofString "huntington"
/-- the methods that give each party a first seat -/
def Meth.one : Meth → Bool
  | .ad | .de | .hu => true
  | _ => false
def prDh (i : Nat) : Int × Int := ((i : Int) + 1, 1)
def prSl (i : Nat) : Int × Int := (2 * (i : Int) + 1, 1)
def prHu (i : Nat) : Int × Int := (((i : Int) + 1) * ((i : Int) + 2), 1)
def prDe (i : Nat) : Int × Int := (2 * ((i : Int) + 1) * ((i : Int) + 2), 2 * ((i : Int) + 1) + 1)
def prMs (i : Nat) : Int × Int := if i = 0 then (7, 5) else (2 * (i : Int) + 1, 1)
def Meth.pr : Meth → Nat → Int × Int
  | .dh | .ad => prDh | .sl => prSl | .ms => prMs | .de => prDe | .hu => prHu
/-- how many divisors there are: modified_saintelague always has its first -/
def Meth.cnt (mt : Meth) (n : Int) : Nat := match mt with | .ms => max 1 n.toNat | _ => n.toNat
def Meth.r0 (mt : Meth) (k : Nat) : List Int := List.replicate k (if mt.one then 1 else 0)
/-- what the first chain of ifs leaves -/
def DSeam (g : Heap) (L l : Nat) (n : Int) (tkn : Tok) (mth : Str) (tkm : Tok) (r0 : List Int) (ps : List (Int × Int)) (s₀ : Shared) (fl : Flow) (s' : Shared) : Prop :=
  fl = .next ∧ ∃ (h' : Heap) (tk' : Nat) (m : Str → Option Value) (D1 D2 : Nat) (ys1 ys2 : List Value) (nn1 nn2 : Nat) (dl : List (Addr × Obj)) (oR oD oC oW oM : Obj) (u3 u4 u5 : Option Value),
    s' = { s₀ with heap := h', toks := tk' } ∧ Fr g L h' m ∧ m (Str.ofString "votes") = some (.ref l) ∧ m (Str.ofString "seats") = some (.int n tkn) ∧ m (Str.ofString "method") = some (.str mth tkm) ∧ m (Str.ofString "tiesallowed") = some (.bool true) ∧
    News g L h' ((D1, listOf ys1.toArray nn1) :: (D2, listOf ys2.toArray nn2) :: (L + 1 + 1 + 1 + 1 + 1, oM) :: (L + 1 + 1 + 1 + 1, oW) :: (L + 1 + 1 + 1, oC) :: (L + 1 + 1, oD) :: (L + 1, oR) :: dl) ∧
    oR.data = .cell (some (.ref D1)) ∧ oD.data = .cell (some (.ref D2)) ∧ oC.data = .cell u3 ∧ oW.data = .cell u4 ∧ oM.data = .cell u5 ∧
    IntsAre ys1 r0 ∧ PairsIn dl ys2 ps ∧ OffAll [L + 1, L + 1 + 1, L + 1 + 1 + 1, L + 1 + 1 + 1 + 1, L + 1 + 1 + 1 + 1 + 1] dl ∧ (L + 1 ≠ D1 ∧ L + 1 + 1 ≠ D1 ∧ L + 1 + 1 + 1 ≠ D1 ∧ L + 1 + 1 + 1 + 1 ≠ D1 ∧ L + 1 + 1 + 1 + 1 + 1 ≠ D1) ∧ (L + 1 ≠ D2 ∧ L + 1 + 1 ≠ D2 ∧ L + 1 + 1 + 1 ≠ D2 ∧ L + 1 + 1 + 1 + 1 ≠ D2 ∧ L + 1 + 1 + 1 + 1 + 1 ≠ D2)
theorem off_fresh {g h : Heap} {L : Addr} {news dl : List (Addr × Obj)} {cs : List Addr} (N : News g L h news) (hd : ∀ p ∈ dl, h.get? p.1 = none) (hc : ∀ c ∈ cs, ∃ o, (c, o) ∈ news) : OffAll cs dl := fun p hp hm => by
  obtain ⟨o, ho⟩ := hc _ hm
  have := (N _ ho).1
  rw [show h.get? p.1 = none from hd p hp] at this; cases this
local macro_rules | `(tactic| k_all) => `(tactic| exact OffAll.ne (by assumption) (by simp))
theorem news_sub {g h : Heap} {L : Addr} {l l' : List (Addr × Obj)} (N : News g L h l) (s : ∀ p ∈ l', p ∈ l) : News g L h l' := fun p hp => N p (s p hp)
theorem news_swap {g h : Heap} {L : Addr} {p : Addr × Obj} {dl news : List (Addr × Obj)} (N : News g L h (p :: (dl ++ news))) : News g L h (p :: (news ++ dl)) := fun q hq => N q (by
  rcases List.mem_cons.mp hq with rfl | hq
  · exact .head _
  · exact .tail _ ((List.mem_append.mp hq).elim (fun h => List.mem_append_right _ h) fun h => List.mem_append_left _ h))
theorem off1_fresh {g h : Heap} {L D : Addr} {news : List (Addr × Obj)} (N : News g L h news) (hd : h.get? D = none) : LCg.Off1 D news := by
  induction news with
  | nil => trivial
  | cons p r ih => exact ⟨fun q => (by have := (N p (.head _)).1; rw [show p.1 = D from q, hd] at this; cases this), ih fun x hx => N x (.tail _ hx)⟩
theorem seam_news {g h : Heap} {L : Addr} {x1 x2 y z : Addr × Obj} {r : List (Addr × Obj)} (N : News g L h (x2 :: y :: x1 :: z :: r)) : News g L h (x1 :: x2 :: r) := fun p hp => N p (by
  rcases List.mem_cons.mp hp with rfl | hp
  · exact .tail _ (.tail _ (.head _))
  · rcases List.mem_cons.mp hp with rfl | hp
    · exact .head _
    · exact .tail _ (.tail _ (.tail _ (.tail _ hp))))
theorem seam_drop {g h : Heap} {L : Addr} {x y : Addr × Obj} {r : List (Addr × Obj)} (N : News g L h (x :: y :: r)) : News g L h (x :: r) := fun p hp => N p (by
  rcases List.mem_cons.mp hp with rfl | hp
  · exact .head _
  · exact .tail _ (.tail _ hp))
theorem seam_drop3 {g h : Heap} {L : Addr} {x z y : Addr × Obj} {r : List (Addr × Obj)} (N : News g L h (x :: z :: y :: r)) : News g L h (x :: z :: r) := fun p hp => N p (by
  rcases List.mem_cons.mp hp with rfl | hp
  · exact .head _
  · rcases List.mem_cons.mp hp with rfl | hp
    · exact .tail _ (.head _)
    · exact .tail _ (.tail _ (.tail _ hp)))
theorem seam_swap {g h : Heap} {L : Addr} {x z : Addr × Obj} {r : List (Addr × Obj)} (N : News g L h (x :: z :: r)) : News g L h (z :: x :: r) := fun p hp => N p (by
  rcases List.mem_cons.mp hp with rfl | hp
  · exact .tail _ (.head _)
  · rcases List.mem_cons.mp hp with rfl | hp
    · exact .head _
    · exact .tail _ (.tail _ hp))
theorem ones_of {ns : List Int} (h : ∀ x ∈ ns, 1 ≤ x ∧ x ≤ 3 * 10 ^ 12) : List.map (fun k' : Int => if 0 < k' then (1 : Int) else 0) ns = List.replicate ns.length 1 := by
  induction ns with
  | nil => rfl
  | cons a r ih =>
    have := (h a (.head _)).1
    rw [List.map_cons, List.length_cons, List.replicate_succ, ih fun x hx => h x (.tail _ hx), if_pos (by omega)]
theorem zeros_flat' (n : Nat) : (List.replicate n [(0 : Int)]).flatten = List.replicate n 0 := by
  induction n with
  | zero => rfl
  | succ n ih => rw [List.replicate_succ, List.flatten_cons, ih]; rfl
theorem i1z' {vs : List Value} {n : Nat} (h : IntsAre vs (List.replicate ((n : Int)).toNat [(0 : Int)]).flatten) : IntsAre vs (List.replicate n 0) := by
  rw [zeros_flat'] at h; simpa using h
theorem small_k {n : Int} (h0 : 0 ≤ n) (h4 : n ≤ 9) : Builtin.Range.small 0 n 1 = true := small_one (by omega) (by omega) (by omega) (by omega)
theorem line_k {n : Int} (h4 : n ≤ 9) : (n - 0).toNat ≤ sizeLine := by rw [PySem.sizeLine_eq]; omega
theorem add_named {prog : Program} {w : World} {A : Around} {E : Value → Shared → Prop} {s : Shared} {h₀ : Heap} {L : Addr} {m : Str → Option Value} {news : List (Addr × Obj)} {l b : Addr} {vs ws : List Value} {Q : Value → Shared → Prop} (F : Fr h₀ L s.heap m) (N : News h₀ L s.heap news) (hl : s.heap.IsList l vs.toArray) (hb : s.heap.IsList b ws.toArray)
    (hsz : vs.length + ws.length ≤ sizeLine)
    (h : ∀ D h', s.heap.get? D = none → LCg.Off1 D news → Fr h₀ L h' m → News h₀ L h' ((D, listOf (vs ++ ws).toArray 0) :: news) → Q (.ref D) { s with heap := h' }) :
    wpAny (model prog w) A (binaryOp .Add (.ref l) (.ref b)) Q E s :=
  add_lists F N hl hb (fun h' F' N' => h _ h' (fresh_ge (Nat.le_refl _)) (off1_fresh N (fresh_ge (Nat.le_refl _))) F' N') hsz
theorem news_ne {g h : Heap} {L a c : Addr} {news : List (Addr × Obj)} {oa oc : Obj} (N : News g L h news) (ha : (a, oa) ∈ news) (hc : (c, oc) ∈ news) (hd : oa.data ≠ oc.data) : c ≠ a := fun e => by
  subst e
  have h1 := (N _ ha).1
  have h2 := (N _ hc).1
  exact hd (congrArg Obj.data (Option.some.inj (h1.symm.trans h2)))
theorem tup_ne {g h : Heap} {L lT aT c : Nat} {oL oT oc : Obj} {rest : List (Addr × Obj)} (N : News g L h ((lT, oL) :: (aT, oT) :: rest)) (hc : (c, oc) ∈ rest) (hd : oT.data ≠ oc.data) : @Ne Nat c aT :=
  news_ne N (.tail _ (.head _)) (.tail _ (.tail _ hc)) hd
theorem seam_off {g h : Heap} {L D1 D2 c1 c2 c3 c4 c5 : Nat} {its : Array Value} {nn : Nat} {oD o1 o2 o3 o4 o5 : Obj} {u1 u2 u3 u4 u5 : Option Value} {dl : List (Addr × Obj)} (N : News g L h ((D1, listOf its nn) :: (D2, oD) :: (c5, o5) :: (c4, o4) :: (c3, o3) :: (c2, o2) :: (c1, o1) :: dl))
    (h1 : o1.data = .cell u1) (h2 : o2.data = .cell u2) (h3 : o3.data = .cell u3) (h4 : o4.data = .cell u4) (h5 : o5.data = .cell u5) : @Ne Nat c1 D1 ∧ @Ne Nat c2 D1 ∧ @Ne Nat c3 D1 ∧ @Ne Nat c4 D1 ∧ @Ne Nat c5 D1 :=
  ⟨news_ne N (.head _) (.tail _ (.tail _ (.tail _ (.tail _ (.tail _ (.tail _ (.head _))))))) (by rw [h1]; exact fun q => by cases q), news_ne N (.head _) (.tail _ (.tail _ (.tail _ (.tail _ (.tail _ (.head _)))))) (by rw [h2]; exact fun q => by cases q),
   news_ne N (.head _) (.tail _ (.tail _ (.tail _ (.tail _ (.head _))))) (by rw [h3]; exact fun q => by cases q), news_ne N (.head _) (.tail _ (.tail _ (.tail _ (.head _)))) (by rw [h4]; exact fun q => by cases q), news_ne N (.head _) (.tail _ (.tail _ (.head _))) (by rw [h5]; exact fun q => by cases q)⟩
theorem PairsIn.consF {dl : List (Addr × Obj)} {ys : List Value} {ps : List (Int × Int)} {a : Addr} {x y : Int} {t u : Tok} {n : Nat} (h : PairsIn dl ys ps) : PairsIn ((a, tupOf x y t u n) :: dl) (.ref a :: ys) ((x, y) :: ps) := by
  refine ⟨by simp only [List.length_cons, h.1], fun i p hp => ?_⟩
  cases i with
  | zero =>
    simp only [List.getElem?_cons_zero, Option.some.injEq] at hp
    subst hp
    exact ⟨a, t, u, n, rfl, .head _⟩
  | succ i =>
    obtain ⟨b, t', u', n', e, hm⟩ := h.2 i p (by simpa using hp)
    exact ⟨b, t', u', n', by simpa using e, .tail _ hm⟩
theorem ms_pairs (n : Int) : (7, 5) :: (List.range (n - 1).toNat).map (fun j => prMs (j + 1)) = (List.range (max 1 n.toNat)).map prMs := by
  have e : max 1 n.toNat = (n - 1).toNat + 1 := by omega
  rw [e, List.range_succ_eq_map, List.map_cons, List.map_map]
  rfl
theorem OffAll.cons {cs : List Addr} {dl : List (Addr × Obj)} {p : Addr × Obj} (h : OffAll cs dl) (hp : p.1 ∉ cs) : OffAll cs (p :: dl) := fun q hq => by
  rcases List.mem_cons.mp hq with rfl | hq
  · exact hp
  · exact h q hq
theorem seam_ms {g h : Heap} {L : Addr} {x1 x2 y1 y2 t z1 z2 z3 z4 c1 c2 c3 c4 c5 : Addr × Obj} {dl : List (Addr × Obj)} (N : News g L h (x2 :: y1 :: y2 :: t :: z1 :: z2 :: z3 :: x1 :: z4 :: c5 :: c4 :: c3 :: c2 :: c1 :: dl)) : News g L h (x1 :: x2 :: c5 :: c4 :: c3 :: c2 :: c1 :: t :: dl) := fun p hp => N p (by
  simp only [List.mem_cons] at hp ⊢
  rcases hp with h | h | h | h | h | h | h | h | h <;> simp only [h, true_or, or_true])
theorem ms_fin {g h : Heap} {L aT : Addr} {x1 x2 y1 y2 z1 z2 z3 z4 c1 c2 c3 c4 c5 : Addr × Obj} {dl : List (Addr × Obj)} {t u : Tok} {k : Nat} {n : Int} {ys : List Value} {cs : List Addr} (N : News g L h (x2 :: y1 :: y2 :: (aT, tupOf 7 5 t u k) :: z1 :: z2 :: z3 :: x1 :: z4 :: c5 :: c4 :: c3 :: c2 :: c1 :: dl))
    (hR : PairsIn dl ys ((List.range (n - 1).toNat).map fun j => prMs (j + 1))) (ho : OffAll cs dl) (hp : aT ∉ cs) :
    News g L h (x1 :: x2 :: c5 :: c4 :: c3 :: c2 :: c1 :: (aT, tupOf 7 5 t u k) :: dl) ∧ PairsIn ((aT, tupOf 7 5 t u k) :: dl) (.ref aT :: ys) ((List.range (max 1 n.toNat)).map prMs) ∧ OffAll cs ((aT, tupOf 7 5 t u k) :: dl) :=
  ⟨seam_ms N, by rw [← ms_pairs]; exact hR.consF, ho.cons hp⟩
theorem eltEnd_pair {g h' : Heap} {L : Addr} {rest dl : List (Addr × Obj)} {s₃ : Shared} {tk' : Nat} {f : Nat → Int × Int} {i : Nat} {a : Addr} {x y : Int} {t u : Tok} {n : Nat} {ys : List Value} (N : News g L h' ((a, tupOf x y t u n) :: rest)) (K : ∀ b o, s₃.heap.get? b = some o → h'.get? b = some o) (e : s₃.heap.get? a = none)
    (hR : PairsIn dl ys ((List.range i).map f)) (ef : f i = (x, y)) : EltEnd (fun dl ys => PairsIn dl ys ((List.range (i + 1)).map f)) s₃ dl ys (.ref a) { s₃ with heap := h', toks := tk' } := by
  refine ⟨h', tk', [(a, tupOf x y t u n)], rfl, K, fun p hp => ?_, ?_⟩
  · rw [List.mem_singleton.mp hp]; exact ⟨(N _ (.head _)).1, e⟩
  · rw [List.range_succ, List.map_append, List.map_singleton, ef]
    exact hR.snoc
theorem pairs_next {dl : List (Addr × Obj)} {ys : List Value} {f : Nat → Int × Int} {i : Nat} {a : Addr} {x y : Int} {t u : Tok} {n : Nat} (h : PairsIn dl ys ((List.range i).map f)) (e : f i = (x, y)) : PairsIn ([(a, tupOf x y t u n)] ++ dl) (ys ++ [.ref a]) ((List.range (i + 1)).map f) := by
  rw [List.range_succ, List.map_append, List.map_singleton, e]
  exact h.snoc

theorem fr_four {g h : Heap} {L : Addr} {m : Str → Option Value} {x1 x2 x3 x4 : Str} {v1 v2 v3 v4 : Value} (F : Fr g L h m) (e1 : m x1 = some v1) (e2 : m x2 = some v2) (e3 : m x3 = some v3) (e4 : m x4 = some v4) :
    Fr g L h (fun y => if y = x1 then some v1 else if y = x2 then some v2 else if y = x3 then some v3 else if y = x4 then some v4 else m y) := by
  have q : (fun y => if y = x1 then some v1 else if y = x2 then some v2 else if y = x3 then some v3 else if y = x4 then some v4 else m y) = m := by
    funext y
    by_cases c1 : y = x1
    · rw [if_pos c1, c1, e1]
    rw [if_neg c1]
    by_cases c2 : y = x2
    · rw [if_pos c2, c2, e2]
    rw [if_neg c2]
    by_cases c3 : y = x3
    · rw [if_pos c3, c3, e3]
    rw [if_neg c3]
    by_cases c4 : y = x4
    · rw [if_pos c4, c4, e4]
    rw [if_neg c4]
  rw [q]; exact F
local macro_rules | `(tactic| mul_fits) => `(tactic| exact IntMulOk.of_right (intBits_le_64 (by omega) (by omega)))
local macro_rules | `(tactic| mul_fits) => `(tactic| exact IntMulOk.of_left (intBits_le_64 (by omega) (by omega)))
def comOf (ps : List (Int × Int)) : Int := ps.foldl (fun a p => a * p.1) 1
theorem comOf_snoc (ps : List (Int × Int)) (p : Int × Int) : comOf (ps ++ [p]) = comOf ps * p.1 := by unfold comOf; rw [List.foldl_append]; rfl
/-- between two turns of the for that multiplies -/
def PJd (L l D1 D2 nn1 nn2 : Nat) (n : Int) (tkn : Tok) (mth : Str) (tkm : Tok) (ps : List (Int × Int)) (ys1 ys2 : List Value) (dl : List (Addr × Obj)) (oR oD oW oM : Obj) (i : Nat) (m : Str → Option Value) (news : List (Addr × Obj)) : Prop :=
  (m (Str.ofString "votes") = some (.ref l) ∧ m (Str.ofString "seats") = some (.int n tkn) ∧ m (Str.ofString "method") = some (.str mth tkm) ∧ m (Str.ofString "tiesallowed") = some (.bool true)) ∧ ∃ (oC : Obj) (tc : Tok), oC.data = .cell (some (.int (comOf (ps.take i)) tc)) ∧
    news = (D1, listOf ys1.toArray nn1) :: (D2, listOf ys2.toArray nn2) :: (L + 1 + 1 + 1 + 1 + 1, oM) :: (L + 1 + 1 + 1 + 1, oW) :: (L + 1 + 1 + 1, oC) :: (L + 1 + 1, oD) :: (L + 1, oR) :: dl
theorem tup0 {prog : Program} {w : World} {A : Around} {E : Value → Shared → Prop} {s : Shared} {g : Heap} {L a : Addr} {news : List (Addr × Obj)} {x y : Int} {t t' u : Tok} {k : Nat} {value slice : PySem.Expr} {Q : Value → Shared → Prop} (N : News g L s.heap news) (hm : (a, tupOf x y t t' k) ∈ news) (h : Q (.int x t) s)
    (hs : subscripted slice false (.ref a) (.int 0 u) = operate [.ref a, .int 0 u] (getItem (.ref a) (.int 0 u)) := by with_unfolding_all rfl) : wpAny (model prog w) A (subscriptTail value slice (.ref a) (.int 0 u)) Q E s :=
  item_tupleT (l := [.int x t, .int y t']) (N.isTup hm) (by decide) (by decide) (j := 0) rfl rfl h hs
theorem tup1 {prog : Program} {w : World} {A : Around} {E : Value → Shared → Prop} {s : Shared} {g : Heap} {L a : Addr} {news : List (Addr × Obj)} {x y : Int} {t t' u : Tok} {k : Nat} {value slice : PySem.Expr} {Q : Value → Shared → Prop} (N : News g L s.heap news) (hm : (a, tupOf x y t t' k) ∈ news) (h : Q (.int y t') s)
    (hs : subscripted slice false (.ref a) (.int 1 u) = operate [.ref a, .int 1 u] (getItem (.ref a) (.int 1 u)) := by with_unfolding_all rfl) : wpAny (model prog w) A (subscriptTail value slice (.ref a) (.int 1 u)) Q E s :=
  item_tupleT (l := [.int x t, .int y t']) (N.isTup hm) (by decide) (by decide) (j := 1) rfl rfl h hs
theorem tupI {prog : Program} {w : World} {A : Around} {E : Value → Shared → Prop} {s : Shared} {g : Heap} {L a : Addr} {news : List (Addr × Obj)} {x y : Int} {t t' u : Tok} {k : Nat} {value slice : PySem.Expr} {Q : Value → Shared → Prop} {i : Int} {z : Value} (N : News g L s.heap news) (hm : (a, tupOf x y t t' k) ∈ news) (h0 : 0 ≤ i) (h1 : i < 2) (hz : [Value.int x t, Value.int y t'][i.toNat]? = some z) (h : Q z s)
    (hs : subscripted slice false (.ref a) (.int i u) = operate [.ref a, .int i u] (getItem (.ref a) (.int i u)) := by with_unfolding_all rfl) : wpAny (model prog w) A (subscriptTail value slice (.ref a) (.int i u)) Q E s :=
  item_tupleT (l := [.int x t, .int y t']) (N.isTup hm) (by omega) (by omega) (j := i.toNat) (by
    have e : i = 0 ∨ i = 1 := by omega
    rcases e with rfl | rfl <;> rfl) hz h hs
local macro_rules | `(tactic| walk_at "subscriptTail Name Constant ref int") => `(tactic| (k_here; k_dflt (refine' tupI ?N ?m ?a ?b ?z ?_; (case N => k_asm); (case m => k_mem); (case a => decide); (case b => decide); (case z => rfl); k_whole)))
theorem take_snoc' {α : Type} {l : List α} {i : Nat} {x : α} (h : l[i]? = some x) : l.take (i + 1) = l.take i ++ [x] := by
  rw [List.take_add_one, h]; rfl
theorem PairsIn.at {dl : List (Addr × Obj)} {ys : List Value} {ps : List (Int × Int)} (x : PairsIn dl ys ps) {i : Nat} {v : Value} (h : ys[i]? = some v) : ∃ (p : Int × Int) (a : Addr) (t u : Tok) (n : Nat), ps[i]? = some p ∧ v = .ref a ∧ (a, tupOf p.1 p.2 t u n) ∈ dl := by
  have hl : i < ps.length := by rw [← x.1]; exact (List.getElem?_eq_some_iff.mp h).1
  obtain ⟨a, t, u, n, e, hm⟩ := x.2 i ps[i] (List.getElem?_eq_getElem hl)
  refine ⟨ps[i], a, t, u, n, List.getElem?_eq_getElem hl, ?_, hm⟩
  rw [e] at h; cases h; rfl
theorem news_front {g h : Heap} {L : Addr} {p : Addr × Obj} {news : List (Addr × Obj)} (N : News g L h news) (hp : p ∈ news) : News g L h (p :: news) := fun q hq => by
  rcases List.mem_cons.mp hq with rfl | hq
  · exact N _ hp
  · exact N _ hq
local macro_rules | `(tactic| walk_at "eval ListComp BinOp") => `(tactic| (k_dflt (refine comp_at (by with_unfolding_all rfl) (by rfl) (by decide) (by rfl) (fun _ => rfl) (fun _ => rfl) ?_)))
local macro_rules | `(tactic| walk_at "eval ListComp ListComp") => `(tactic| (k_dflt (refine comp_atC (by with_unfolding_all rfl) (by rfl) (by decide) (fun _ => by rfl) (fun _ => rfl) (fun _ => rfl) ?_)))
def Meth.sq : Meth → Bool
  | .hu => true
  | _ => false
/-- the frame's names that stay -/
def Names4 (l : Nat) (n : Int) (tkn : Tok) (mth : Str) (tkm : Tok) (m : Str → Option Value) : Prop :=
  m (Str.ofString "votes") = some (.ref l) ∧ m (Str.ofString "seats") = some (.int n tkn) ∧ m (Str.ofString "method") = some (.str mth tkm) ∧ m (Str.ofString "tiesallowed") = some (.bool true)
/-- behind the test for the squares -/
def TSeam (g : Heap) (L l : Nat) (n : Int) (tkn : Tok) (mth : Str) (tkm : Tok) (news : List (Addr × Obj)) (b : Bool) (s₀ : Shared) (fl : Bool) (s' : Shared) : Prop :=
  fl = b ∧ ∃ (h' : Heap) (tk' : Nat) (m : Str → Option Value), s' = { s₀ with heap := h', toks := tk' } ∧ Fr g L h' m ∧ Names4 l n tkn mth tkm m ∧ News g L h' news
def wgt (sq : Bool) (c : Int) (p : Int) (d : Int × Int) : Int := ((if sq then p * p else p) * d.2 * c).fdiv d.1
def rowsOf (sq : Bool) (ps : List (Int × Int)) (ns : List Int) : List (List Int) := ns.map fun p => ps.map fun d => wgt sq (comOf ps) p d
/-- behind the weights -/
def WSeam (g : Heap) (L l D1 nn1 : Nat) (n : Int) (tkn : Tok) (mth : Str) (tkm : Tok) (ys1 : List Value) (rows : List (List Int)) (oR oD oC oM : Obj) (s₀ : Shared) (fl : Flow) (s' : Shared) : Prop :=
  fl = .next ∧ ∃ (h' : Heap) (tk' : Nat) (m : Str → Option Value) (DW nnw : Nat) (yw : List Value) (oW : Obj) (dl : List (Addr × Obj)), s' = { s₀ with heap := h', toks := tk' } ∧ Fr g L h' m ∧ Names4 l n tkn mth tkm m ∧
    News g L h' ((D1, listOf ys1.toArray nn1) :: (DW, listOf yw.toArray nnw) :: (L + 1 + 1 + 1 + 1 + 1, oM) :: (L + 1 + 1 + 1 + 1, oW) :: (L + 1 + 1 + 1, oC) :: (L + 1 + 1, oD) :: (L + 1, oR) :: dl) ∧
    oW.data = .cell (some (.ref DW)) ∧ RowsIn dl yw rows ∧ OffAll [L + 1, L + 1 + 1, L + 1 + 1 + 1, L + 1 + 1 + 1 + 1, L + 1 + 1 + 1 + 1 + 1] dl ∧
    (L + 1 ≠ DW ∧ L + 1 + 1 ≠ DW ∧ L + 1 + 1 + 1 ≠ DW ∧ L + 1 + 1 + 1 + 1 ≠ DW ∧ L + 1 + 1 + 1 + 1 + 1 ≠ DW)
local macro_rules | `(tactic| walk_at "binaryOp FloorDiv int int") => `(tactic| refine fdiv_ok (by omega) (by omega) ?_)
theorem row_snoc {ps : List (Int × Int)} {j : Nat} {f : Int × Int → Int} {d : Int × Int} {x : Int} {t : Tok} {zs : List Value} (h : IntsAre zs ((ps.take j).map f)) (e : ps[j]? = some d) (q : x = f d) : IntsAre (zs ++ [.int x t]) ((ps.take (j + 1)).map f) := by
  rw [take_snoc' e, List.map_append, List.map_singleton, ← q]
  exact IntsAre.append h (.cons _ _ .nil)
theorem rows_snoc {sq : Bool} {ps : List (Int × Int)} {ns : List Int} {i : Nat} {p : Int} (e : ns[i]? = some p) : rowsOf sq ps (ns.take (i + 1)) = rowsOf sq ps (ns.take i) ++ [ps.map fun d => wgt sq (comOf ps) p d] := by
  unfold rowsOf
  rw [take_snoc' e, List.map_append, List.map_singleton]
theorem base_list {g h : Heap} {L l : Addr} {m : Str → Option Value} {its : Array Value} (F : Fr g L h m) (hl : g.IsList l its) : h.IsList l its := by
  obtain ⟨o, e, r⟩ := hl
  exact ⟨o, F.keep _ _ e, r⟩
theorem eltEnd_int {R : List (Addr × Obj) → List Value → Prop} {s₃ : Shared} {zs : List Value} {x : Int} {tt : Tok} {tk' : Nat} (hR : R [] (zs ++ [.int x tt])) : EltEnd R s₃ [] zs (.int x tt) { s₃ with toks := tk' } :=
  ⟨s₃.heap, tk', [], rfl, fun _ _ e => e, fun p hp => absurd hp List.not_mem_nil, hR⟩
theorem eltEnd_row {R : List (Addr × Obj) → List Value → Prop} {s₃ : Shared} {zs ys : List Value} {D : Addr} {h₂ h : Heap} {tk : Nat} {dl news : List (Addr × Obj)} {g : Heap} {L : Addr} (N : News g L h ((D, LCg.lst ys) :: news)) (hD : s₃.heap.get? D = none) (hk : ∀ b o, s₃.heap.get? b = some o → h.get? b = some o) (hR : R ([(D, LCg.lst ys)] ++ dl) (zs ++ [.ref D])) :
    EltEnd R s₃ dl zs (.ref D) { ({ s₃ with heap := h₂ } : Shared) with heap := h, toks := tk } :=
  ⟨h, tk, [(D, LCg.lst ys)], rfl, hk, fun p hp => by rw [List.mem_singleton.mp hp]; exact ⟨(N _ (.head _)).1, hD⟩, hR⟩
theorem seam_w {g h : Heap} {L : Addr} {x x1 y c1 c2 c3 c4 c5 : Addr × Obj} {dl dlw : List (Addr × Obj)} (N : News g L h (x :: (dlw ++ (x1 :: y :: c5 :: c4 :: c3 :: c2 :: c1 :: dl)))) : News g L h (x1 :: x :: c5 :: c4 :: c3 :: c2 :: c1 :: dlw) := fun p hp => N p (by
  simp only [List.mem_cons, List.mem_append] at hp ⊢
  rcases hp with h | h | h | h | h | h | h | h <;> simp only [h, true_or, or_true])
theorem RowsIn.vals {dl : List (Addr × Obj)} {ys : List Value} {rows : List (List Int)} (x : RowsIn dl ys rows) : ∃ vss : List (List Value), ys.length = vss.length ∧ IntsAre vss.flatten rows.flatten ∧
    ∀ (i : Nat) (v : Value), ys[i]? = some v → ∃ (a : Addr) (its : List Value) (nn : Nat), v = .ref a ∧ vss[i]? = some its ∧ (a, listOf its.toArray nn) ∈ dl := by
  induction rows generalizing ys with
  | nil => 
    have : ys = [] := List.eq_nil_of_length_eq_zero x.1
    subst this
    exact ⟨[], rfl, .nil, fun i v h => by simp at h⟩
  | cons r rows ih =>
    cases ys with
    | nil => have := x.1; simp at this
    | cons y ys =>
      obtain ⟨a, vs, n, e, hm, hi⟩ := x.2 0 r rfl
      obtain ⟨vss, h1, h2, h3⟩ := ih (ys := ys) ⟨by have := x.1; simpa using this, fun i r h => x.2 (i + 1) r (by simpa using h)⟩
      refine ⟨vs :: vss, by simp [h1], by rw [List.flatten_cons, List.flatten_cons]; exact IntsAre.append hi h2, fun i v h => ?_⟩
      cases i with
      | zero =>
        simp only [List.getElem?_cons_zero, Option.some.injEq] at h e
        subst h
        exact ⟨a, vs, n, e, rfl, hm⟩
      | succ i => exact h3 i v (by simpa using h)
theorem rows_flat_len (sq : Bool) (ps : List (Int × Int)) (ns : List Int) : (rowsOf sq ps ns).flatten.length = ns.length * ps.length := by
  unfold rowsOf
  induction ns with
  | nil => simp
  | cons a ns ih => rw [List.map_cons, List.flatten_cons, List.length_append, ih, List.length_map, List.length_cons, Nat.add_mul]; omega
theorem rows_len (sq : Bool) (ps : List (Int × Int)) (ns : List Int) : (rowsOf sq ps ns).length = ns.length := List.length_map ..
local macro_rules | `(tactic| walk_at "eval ListComp Name cons") => `(tactic| (k_dflt (refine comp_flat (by rfl) (by with_unfolding_all rfl) (by rfl) (by decide) (by rfl) (by rfl) (by rfl) (by rfl) (fun _ => rfl) (fun _ => rfl) ?_)))
local macro_rules | `(tactic| walk_at "eval ListComp Name cons") => `(tactic| ((with_reducible show wpAny _ _ (eval (PySem.Expr.ListComp _ [⟨_, _, [_], _⟩] _ _) _) _ _ _); k_dflt (refine comp_atT (by with_unfolding_all rfl) (by rfl) (by decide) (by rfl) (fun _ => rfl) (fun _ => rfl) ?_)))
theorem item_neg {prog : Program} {w : World} {A : Around} {E : Value → Shared → Prop} {s : Shared} {g : Heap} {L l : Addr} {news : List (Addr × Obj)} {ys : List Value} {xs : List Int} {k : Int} {u : Tok} {value slice : PySem.Expr} {Q : Value → Shared → Prop} {nn : Nat}
    (N : News g L s.heap news) (hm : (l, listOf ys.toArray nn) ∈ news) (hi : IntsAre ys xs) (h0 : k < 0) (h1 : -(xs.length : Int) ≤ k) (hf : -(2 ^ 63) ≤ k) (h : ∀ t, Q (.int (xs.getD (k + xs.length).toNat 0) t) s)
    (hs : subscripted slice false (.ref l) (.int k u) = operate [.ref l, .int k u] (getItem (.ref l) (.int k u)) := by with_unfolding_all rfl) (hg : ∀ r, letTemporaryGo value (.ref l) r = pure () := by intro _; with_unfolding_all rfl) :
    wpAny (model prog w) A (subscriptTail value slice (.ref l) (.int k u)) Q E s :=
  item_list_ints_neg ⟨_, (N _ hm).1, rfl, _, rfl⟩ hi h0 h1 hf h hs hg
local macro_rules | `(tactic| walk_at "subscriptTail Name BinOp ref int") => `(tactic| (k_here; k_dflt (refine' item_neg ?N ?m ?i ?a ?b ?c ?_; (case N => k_asm); (case m => k_mem); (case i => assumption); (case a => omega); (case b => omega); (case c => omega); k_whole); intro tI))
theorem item_any {prog : Program} {w : World} {A : Around} {E : Value → Shared → Prop} {s : Shared} {g : Heap} {L l : Addr} {news : List (Addr × Obj)} {ys : List Value} {k : Int} {j : Nat} {v : Value} {u : Tok} {value slice : PySem.Expr} {Q : Value → Shared → Prop} {nn : Nat}
    (N : News g L s.heap news) (hm : (l, listOf ys.toArray nn) ∈ news) (he : ys[j]? = some v) (hk : k = (j : Int)) (hf : j < 100) (h : Q v s)
    (hs : subscripted slice false (.ref l) (.int k u) = operate [.ref l, .int k u] (getItem (.ref l) (.int k u)) := by with_unfolding_all rfl) :
    wpAny (model prog w) A (subscriptTail value slice (.ref l) (.int k u)) Q E s := by
  have hl : s.heap.IsList l ys.toArray := ⟨_, (N _ hm).1, rfl, _, rfl⟩
  exact tail_any hl.typeIs slot_list_getitem.lookup (wpAny_getItem_list hl (by omega) (by omega) (by rw [hk]; simpa using he) h) hs
theorem item_int {prog : Program} {w : World} {A : Around} {E : Value → Shared → Prop} {s : Shared} {g : Heap} {L l : Addr} {news : List (Addr × Obj)} {ys : List Value} {xs : List Int} {k : Int} {j : Nat} {u : Tok} {value slice : PySem.Expr} {Q : Value → Shared → Prop} {nn : Nat}
    (N : News g L s.heap news) (hm : (l, listOf ys.toArray nn) ∈ news) (hi : IntsAre ys xs) (hj : j < xs.length) (hk : k = (j : Int)) (hf : j < 100) (h : ∀ t, Q (.int (xs.getD j 0) t) s)
    (hs : subscripted slice false (.ref l) (.int k u) = operate [.ref l, .int k u] (getItem (.ref l) (.int k u)) := by with_unfolding_all rfl) :
    wpAny (model prog w) A (subscriptTail value slice (.ref l) (.int k u)) Q E s := by
  obtain ⟨t, e⟩ := ints_at hi hj
  exact item_any N hm e hk hf (h t) hs
local macro_rules | `(tactic| walk_at "subscriptTail Name Name ref int") => `(tactic| (k_here; k_dflt (first
  | (refine' item_int ?N ?m ?i ?j ?k ?c ?_; (case N => k_asm); (case m => k_mem); (case i => assumption); (case j => assumption); (case k => omega); (case c => omega); k_whole; intro tI)
  | (refine' item_any ?N ?m ?e ?k ?c ?_; (case N => k_asm); (case m => k_mem); (case e => assumption); (case k => omega); (case c => omega); k_whole))))
theorem eltEnd_keep {R : List (Addr × Obj) → List Value → Prop} {s₃ : Shared} {zs : List Value} {x : Int} {tt : Tok} {h : Heap} {tk' : Nat} (hk : ∀ b o, s₃.heap.get? b = some o → h.get? b = some o) (hR : R [] (zs ++ [.int x tt])) : EltEnd R s₃ [] zs (.int x tt) { s₃ with heap := h, toks := tk' } :=
  ⟨h, tk', [], rfl, hk, fun p hp => absurd hp List.not_mem_nil, hR⟩
/-- the k-th from above -/
def KthOK (fl : List Int) (k : Nat) (M : Int) : Prop := fl.countP (fun x => decide (M < x)) < k ∧ k ≤ fl.countP (fun x => decide (M ≤ x))
theorem kth_ok {n' fl : List Int} {k : Nat} (p : n'.Perm fl) (o : n'.Pairwise (· ≤ ·)) (h1 : 1 ≤ k) (h2 : k ≤ n'.length) : KthOK fl k (n'.getD (n'.length - k) 0) := by
  have hlt : n'.length - k < n'.length := by omega
  have e : n'.getD (n'.length - k) 0 = n'[n'.length - k] := by rw [List.getD_eq_getElem?_getD, List.getElem?_eq_getElem hlt]; rfl
  rw [e]
  generalize hM : n'[n'.length - k] = M
  have hsplit : n' = n'.take (n'.length - k) ++ M :: n'.drop (n'.length - k + 1) := by
    rw [← hM, List.getElem_cons_drop, List.take_append_drop]
  have hlen : (n'.drop (n'.length - k + 1)).length = k - 1 := by rw [List.length_drop]; omega
  unfold KthOK
  rw [← p.countP_eq, ← p.countP_eq]
  rw [hsplit] at o
  rw [hsplit, List.countP_append, List.countP_append]
  generalize n'.take (n'.length - k) = A at o ⊢
  generalize n'.drop (n'.length - k + 1) = B at o hlen ⊢
  obtain ⟨o1, o2, o3⟩ := List.pairwise_append.mp o
  obtain ⟨o4, o5⟩ := List.pairwise_cons.mp o2
  have a1 : A.countP (fun x => decide (M < x)) = 0 := List.countP_eq_zero.mpr fun x hx => by have := o3 x hx M (.head _); simp; omega
  have a2 : B.countP (fun x => decide (M ≤ x)) = B.length := List.countP_eq_length.mpr fun x hx => by have := o4 x hx; simpa using this
  have a3 := List.countP_le_length (p := fun x => decide (M < x)) (l := B)
  rw [a1, List.countP_cons_of_neg (by simp), List.countP_cons_of_pos (by simp), a2]
  omega
/-- how many of a place's weights stand above -/
def upOf (rows : List (List Int)) (M : Int) (i : Nat) : Int := (((rows.getD i []).filter (fun x => decide (M < x))).length : Nat)
def reps1 (r0 : List Int) (rows : List (List Int)) (M : Int) (j : Nat) : List Int := (List.range j).map fun i => r0.getD i 0 + upOf rows M i
theorem reps1_snoc {r0 : List Int} {rows : List (List Int)} {M : Int} {j : Nat} {zs : List Value} {x : Int} {t : Tok} (h : IntsAre zs (reps1 r0 rows M j)) (q : x = r0.getD j 0 + upOf rows M j) : IntsAre (zs ++ [.int x t]) (reps1 r0 rows M (j + 1)) := by
  unfold reps1
  rw [List.range_succ, List.map_append, List.map_singleton, ← q]
  exact IntsAre.append h (.cons _ _ .nil)
theorem kth_neg {n' fl : List Int} {n S : Int} (p : n'.Perm fl) (o : n'.Pairwise (· ≤ ·)) (h1 : S < n) (h2 : n - S ≤ (n'.length : Int)) : KthOK fl (n - S).toNat (n'.getD (-n + S + (n'.length : Int)).toNat 0) := by
  have e : (-n + S + (n'.length : Int)).toNat = n'.length - (n - S).toNat := by omega
  rw [e]
  exact kth_ok p o (by omega) (by omega)
theorem rows_at {sq : Bool} {ps : List (Int × Int)} {ns : List Int} {i : Nat} (h : i < ns.length) : ∃ r, (rowsOf sq ps ns)[i]? = some r ∧ (rowsOf sq ps ns).getD i [] = r := by
  have hl : i < (rowsOf sq ps ns).length := by rw [rows_len]; exact h
  exact ⟨_, List.getElem?_eq_getElem hl, by rw [List.getD_eq_getElem?_getD, List.getElem?_eq_getElem hl]; rfl⟩
theorem rows_row_len {sq : Bool} {ps : List (Int × Int)} {ns : List Int} {i : Nat} {r : List Int} (h : (rowsOf sq ps ns)[i]? = some r) : r.length = ps.length := by
  have hm := List.mem_of_getElem? h
  obtain ⟨p, _, rfl⟩ := List.mem_map.mp hm
  exact List.length_map ..
local macro_rules | `(tactic| walk_at "exec For Name Call cons nil") => `(tactic| refine for_at ?_)
theorem reps1_len {r0 : List Int} {rows : List (List Int)} {M : Int} {j : Nat} : (reps1 r0 rows M j).length = j := by unfold reps1; rw [List.length_map, List.length_range]
local macro_rules | `(tactic| walk_at "exec For Name Call cons nil") => `(tactic| refine for_at ?_ (by intro _; with_unfolding_all rfl))
def fillStep (n : Int) (rows : List (List Int)) (M : Int) (R : List Int) (i : Nat) : List Int := if R.sum < n ∧ M ∈ rows.getD i [] then R.set i (R.getD i 0 + 1) else R
def fillTo (n : Int) (rows : List (List Int)) (M : Int) (R : List Int) : Nat → List Int
  | 0 => R
  | i + 1 => fillStep n rows M (fillTo n rows M R i) i
theorem fillTo_len {n : Int} {rows : List (List Int)} {M : Int} {R : List Int} : ∀ i, (fillTo n rows M R i).length = R.length := fun i => by
  induction i with
  | zero => rfl
  | succ i ih =>
    show (fillStep n rows M (fillTo n rows M R i) i).length = _
    unfold fillStep
    split
    · rw [List.length_set, ih]
    · exact ih
/-- between two turns of the loop over ties -/
def PT (L l DW D3 nnw nn3 : Nat) (n : Int) (tkn : Tok) (mth : Str) (tkm : Tok) (yw : List Value) (rows : List (List Int)) (M : Int) (R1 : List Int) (dl : List (Addr × Obj)) (oR oD oC oW oM : Obj) (i : Nat) (m : Str → Option Value) (news : List (Addr × Obj)) : Prop :=
  Names4 l n tkn mth tkm m ∧ (∃ b, m (Str.ofString "ties") = some (.bool b)) ∧ ∃ ysR, IntsAre ysR (fillTo n rows M R1 i) ∧
    news = (D3, listOf ysR.toArray nn3) :: (DW, listOf yw.toArray nnw) :: (L + 1 + 1 + 1 + 1 + 1, oM) :: (L + 1 + 1 + 1 + 1, oW) :: (L + 1 + 1 + 1, oC) :: (L + 1 + 1, oD) :: (L + 1, oR) :: dl
section
variable {prog : Program} {w : World} {A : Around} {E : Value → Shared → Prop} {s : Shared} {g : Heap} {L : Addr} {m : Str → Option Value} {news : List (Addr × Obj)} {ys : List Value} {xs : List Int} {k : Int} {u : Tok} {nn : Nat}
theorem get_J {Q : Value → Shared → Prop} {D : Addr} {j : Nat} (N : News g L s.heap news) (hm : (D, listOf ys.toArray nn) ∈ news) (hi : IntsAre ys xs) (hj : j < xs.length) (hk : k = (j : Int)) (hf : j < 100) (h : ∀ t, Q (.int (xs.getD j 0) t) s) :
    wpAny (model prog w) A (getItem (.ref D) (.int k u)) Q E s := by
  have e : k.toNat = j := by omega
  subst e
  exact ksa_get (n := nn) N hm hi (by omega) (by omega) (by omega) h
theorem set_J {D : Addr} {j : Nat} {x : Int} {t : Tok} {news' : List (Addr × Obj)} {Q : Unit → Shared → Prop} (F : Fr g L s.heap m) (N : News g L s.heap news) (U : Upd D (listOf ys.toArray nn) (listOf (ys.set j (.int x u)).toArray nn) news news') (hi : IntsAre ys xs) (hj : j < xs.length) (hk : k = (j : Int)) (hf : j < 100)
    (h : ∀ h', Fr g L h' m → News g L h' news' → IntsAre (ys.set j (.int x u)) (xs.set j x) → Q () { s with heap := h' }) :
    wpAny (model prog w) A (setItem (.ref D) (.int k t) (.int x u)) Q E s := by
  have e : k.toNat = j := by omega
  subst e
  exact ksa_set (n := nn) F N U hi (by omega) (by omega) (by omega) fun h' F' N' a b c => h h' F' N' a
end
local macro_rules | `(tactic| walk_at "getItem ref int") => `(tactic| (k_here; k_dflt (refine' get_J ?N ?m ?i ?j ?k ?c ?_; (case N => k_asm); (case m => k_mem); (case i => assumption); (case j => assumption); (case k => omega); (case c => omega); k_whole); intro tI))
local macro_rules | `(tactic| walk_at "setItem ref int int") => `(tactic| (k_here; k_dflt (refine' set_J ?F ?N ?U ?i ?j ?k ?c ?_; (case F => k_asm); (case N => k_asm); (case i => assumption); (case j => assumption); (case U => k_upd); (case k => omega); (case c => omega); k_whole); intro h' F' N' hi'))
theorem any_true {r : List Int} {M : Int} (h : (r.any fun x => x == M) = true) : M ∈ r := by
  obtain ⟨x, hx, e⟩ := List.any_eq_true.mp h
  rw [← (by simpa using e : x = M)]; exact hx
theorem any_false {r : List Int} {M : Int} (h : (r.any fun x => x == M) = false) : ¬ M ∈ r := fun hm => by
  have : (r.any fun x => x == M) = true := List.any_eq_true.mpr ⟨M, hm, by simp⟩
  rw [h] at this; cases this
/-- what divisor answers -/
def DivRel (mt : Meth) (ns : List Int) (n : Int) (R : List Int) : Prop :=
  (¬ (mt.r0 ns.length).sum < n ∧ R = mt.r0 ns.length) ∨ ((mt.r0 ns.length).sum < n ∧ ∃ M, KthOK (rowsOf mt.sq ((List.range (mt.cnt n)).map mt.pr) ns).flatten (n - (mt.r0 ns.length).sum).toNat M ∧
    ((¬ (reps1 (mt.r0 ns.length) (rowsOf mt.sq ((List.range (mt.cnt n)).map mt.pr) ns) M ns.length).sum < n ∧ R = reps1 (mt.r0 ns.length) (rowsOf mt.sq ((List.range (mt.cnt n)).map mt.pr) ns) M ns.length) ∨
     ((reps1 (mt.r0 ns.length) (rowsOf mt.sq ((List.range (mt.cnt n)).map mt.pr) ns) M ns.length).sum < n ∧ R = fillTo n (rowsOf mt.sq ((List.range (mt.cnt n)).map mt.pr) ns) M (reps1 (mt.r0 ns.length) (rowsOf mt.sq ((List.range (mt.cnt n)).map mt.pr) ns) M ns.length) ns.length)))
theorem meth_pr (mt : Meth) : ∀ i, i < 9 → 1 ≤ (mt.pr i).1 ∧ (mt.pr i).1 ≤ 200 ∧ 1 ≤ (mt.pr i).2 ∧ (mt.pr i).2 ≤ 20 := by
  cases mt <;> decide
theorem meth_com (mt : Meth) : ∀ c, c < 10 → 1 ≤ comOf ((List.range c).map mt.pr) ∧ comOf ((List.range c).map mt.pr) < 2 ^ 62 := by
  cases mt <;> decide
theorem meth_cnt (mt : Meth) {n : Int} (h0 : 0 ≤ n) (h4 : n ≤ 9) : mt.cnt n ≤ 9 ∧ n ≤ (mt.cnt n : Int) := by
  cases mt <;> simp only [Meth.cnt] <;> omega
theorem meth_d (mt : Meth) {n : Int} (h0 : 0 ≤ n) (h4 : n ≤ 9) : ∀ p ∈ (List.range (mt.cnt n)).map mt.pr, 1 ≤ p.1 ∧ p.1 ≤ 200 ∧ 1 ≤ p.2 ∧ p.2 ≤ 20 := fun p hp => by
  obtain ⟨i, hi, rfl⟩ := List.mem_map.mp hp
  have := (meth_cnt mt h0 h4).1
  exact meth_pr mt i (by have := List.mem_range.mp hi; omega)
theorem sum_rep (k : Nat) (x : Int) : (List.replicate k x).sum = k * x := by
  induction k with
  | zero => simp
  | succ k ih => rw [List.replicate_succ, List.sum_cons, ih, Int.natCast_succ, Int.add_mul]; omega
theorem r0_sum (mt : Meth) (k : Nat) : (mt.r0 k).sum = if mt.one then (k : Int) else 0 := by
  unfold Meth.r0
  rw [sum_rep]
  cases mt.one <;> simp
set_option maxRecDepth 100000 in
set_option maxHeartbeats 40000000 in
theorem div_ok (w : World) (mean : ExcName → Option Value) (mg mb : Str → Option Value) (l : Addr) (vs : List Value) (ns : List Int) (n : Int) (tkn tkm : Tok) (h0 : 0 ≤ n) (h4 : n ≤ 9)
    (hi : IntsAre vs ns) (hl1 : 1 ≤ ns.length) (hl4 : ns.length ≤ 4) (hp : ∀ x ∈ ns, 1 ≤ x ∧ x ≤ 3 * 10 ^ 12) (mt : Meth) (mth : Str) (hmth : mth = mt.name) (hok : mt.one = true → (ns.length : Int) ≤ n) :
    Contract w mean mg mb 33 1 [.ref l, .int n tkn, .str mth tkm] (fun h => h.IsList l vs.toArray)
      (fun h h' v => ∃ (D : Addr) (ys : List Value) (R : List Int), v = .ref D ∧ h.get? D = none ∧ (∃ nn, h'.get? D = some (listOf ys.toArray nn)) ∧ IntsAre ys R ∧ DivRel mt ns n R) := by
  intro dp un gd cn cs a ccd cl outer A₀ base h₀ L m s Q E B F X T hk hdp hu hl hret
  have hX : PySem.Challenge.rw_ab5005_01 = PySem.Challenge.rw_ab5005_01 ∧ hd.heap_39 w.params = hd.heap_39 w.params := by
    k_fill
    exact ⟨rfl, rfl⟩
  walk_at "enterC"
  all_goals k_steps
  all_goals (clear F X T B hX)
  unfold Held
  rename_i L9 hh9 tk9 B9 X9 T9 o1 o2 o3 o4 o5 c1 c2 c3 c4 c5 l9 hb9 l1a D9 hc9 i1 n1 s1 e1 e2 e3 l1 hd9 o9 F9 N9 d9
  refine wpAny_mono (Q := DSeam s.heap L9 l n tkn mth tkm (mt.r0 ns.length) ((List.range (mt.cnt n)).map mt.pr) s) (E := fun _ _ => False) ?_ ?_ (fun _ _ f => f)
  rotate_left
  · intro fl s' hS
    obtain ⟨rfl, hh1, tkk1, m1, D1, D2, ys1, ys2, nn1, nn2, dl, oR, oD, oC, oW, oM, u3, u4, u5, rfl, F1, hmv, hms, hmm, hmt, N1, q1, q2, q3, q4, q5, hI1, hP2, hoff, hoD1, hoD2⟩ := hS
    have F2 := fr_four F1 hmv hms hmm hmt
    clear F9 N9 F1 hmv hms hmm hmt d9 c1 c2 c3 c4 c5 i1 n1 s1 e1 e2 e3 l1 l1a
    have hd := meth_d mt h0 h4
    have hpl : ((List.range (mt.cnt n)).map mt.pr).length ≤ 9 := by rw [List.length_map, List.length_range]; exact (meth_cnt mt h0 h4).1
    have hpn : n ≤ (((List.range (mt.cnt n)).map mt.pr).length : Int) := by rw [List.length_map, List.length_range]; exact (meth_cnt mt h0 h4).2
    have hcb := meth_com mt (mt.cnt n) (by have := (meth_cnt mt h0 h4).1; omega)
    have hs0 : 0 ≤ (mt.r0 ns.length).sum := by rw [r0_sum]; split <;> omega
    have hr0l : (mt.r0 ns.length).length = ns.length := List.length_replicate ..
    generalize hr0 : mt.r0 ns.length = r0 at hI1 hs0 hr0l
    generalize hps : (List.range (mt.cnt n)).map mt.pr = ps at hP2 hd hpl hpn hcb
    dsimp only
    all_goals k_steps
    unfold Held
    refine wpAny_If ?_
    by_cases hlt : r0.sum < n
    · all_goals k_steps
      unfold Held
      (rename Fr _ _ _ _ => F3)
      (rename News _ _ _ _ => N3)
      (rename Obj.data _ = Data.cell (some (Value.int 1 _)) => d3)
      refine forAt_list (its := ys2) rfl (by rfl) (by rfl) F3 N3 ⟨_, (N3 _ (.tail _ (.head _))).1, rfl, _, rfl⟩ (by rw [hP2.1, PySem.sizeLine_eq]; omega) (PJd L9 l D1 D2 nn1 nn2 n tkn mth tkm ps ys1 ys2 dl oR oD oW oM) ⟨⟨rfl, rfl, rfl, rfl⟩, _, _, d3, rfl⟩ (.inr ⟨_, .tail _ (.head _), ?_⟩) ?_ ?_ ?_
      · rintro i' m' news' ⟨_, oC', tc', _, rfl⟩
        exact .tail _ (.head _)
      · rintro i' m' news' ⟨_, oC', tc', _, rfl⟩ p hp'
        simp only [List.mem_cons] at hp'
        rcases hp' with rfl | rfl | rfl | rfl | rfl | rfl | rfl | hp'
        · exact ⟨_, .head _, rfl⟩
        · exact ⟨_, .tail _ (.head _), rfl⟩
        · exact ⟨_, .tail _ (.tail _ (.head _)), rfl⟩
        · exact ⟨_, .tail _ (.tail _ (.tail _ (.head _))), rfl⟩
        · exact ⟨_, .tail _ (.tail _ (.tail _ (.tail _ (.head _)))), rfl⟩
        · exact ⟨_, .tail _ (.tail _ (.tail _ (.tail _ (.tail _ (.head _))))), rfl⟩
        · exact ⟨_, .tail _ (.tail _ (.tail _ (.tail _ (.tail _ (.tail _ (.head _)))))), rfl⟩
        · exact ⟨_, .tail _ (.tail _ (.tail _ (.tail _ (.tail _ (.tail _ (.tail _ hp')))))), rfl⟩
      · rintro I i v m' news' hh tkk oI s₂ hv ⟨⟨hmv, hms, hmm, hmt⟩, oC', tc', hdC, rfl⟩ F4 N4 hltI ⟨h₂, rfl⟩
        k_lt hltI
        obtain ⟨p, aa, tt, uu, nn, hpi, rfl, hpm⟩ := hP2.at hv
        have hpb := hd p (List.mem_of_getElem? hpi)
        obtain ⟨px, py⟩ := p
        have hoa := hoff _ hpm
        simp only [List.mem_cons, List.not_mem_nil, or_false, not_or] at hoa
        have hoa3 : @Ne Nat (L9 + 1 + 1 + 1) aa := fun q => hoa.2.2.1 q.symm
        have N5 := news_front N4 (.tail _ (.tail _ (.tail _ (.tail _ (.tail _ (.tail _ (.tail _ (.tail _ hpm))))))))
        dsimp only at hpm hpb N5
        clear F3 N3 d3 N4
        all_goals k_steps
        rename_i F6 N6 d6
        have e : comOf (ps.take (i + 1)) = comOf (ps.take i) * px := by rw [take_snoc' hpi, comOf_snoc]
        rw [← e] at d6
        exact ⟨rfl, _, _, _, _, rfl, F6, fun p hp => N6 p (.tail _ hp), ⟨hmv, hms, hmm, hmt⟩, _, _, d6, rfl⟩
      · rintro m' news' hh tkk ⟨⟨hmv, hms, hmm, hmt⟩, oC', tc', hdC, rfl⟩ F4 N4
        have F5 := fr_four F4 hmv hms hmm hmt
        rw [hP2.1, List.take_length] at hdC
        clear F3 N3 d3 F4 hmv hms hmm hmt
        all_goals k_steps
        unfold Held
        refine wpAny_mono (Q := WSeam s.heap L9 l D1 nn1 n tkn mth tkm ys1 (rowsOf mt.sq ps ns) oR oD oC' oM s) ?_ ?_ (fun _ _ f => f)
        · refine wpAny_If ?_
          refine wpAny_mono (Q := TSeam s.heap L9 l n tkn mth tkm ((D1, listOf ys1.toArray nn1) :: (D2, listOf ys2.toArray nn2) :: (L9 + 1 + 1 + 1 + 1 + 1, oM) :: (L9 + 1 + 1 + 1 + 1, oW) :: (L9 + 1 + 1 + 1, oC') :: (L9 + 1 + 1, oD) :: (L9 + 1, oR) :: dl) mt.sq s) ?_ ?_ (fun _ _ f => f)
          · clear hret
            cases mt <;> (simp only [Meth.name] at hmth; subst hmth; simp only [Meth.sq])
            all_goals
              all_goals k_steps
              (rename Fr _ _ _ _ => F6)
              (rename News _ _ _ _ => N6)
              exact ⟨rfl, _, _, _, rfl, F6, ⟨rfl, rfl, rfl, rfl⟩, fun p hp => N6 p (.tail _ hp)⟩
          · intro b s₂ hT
            obtain ⟨rfl, h2, tk2, m2, rfl, F6, ⟨hmv, hms, hmm, hmt⟩, N6⟩ := hT
            have F7 := fr_four F6 hmv hms hmm hmt
            clear hret F5 F6 N4 hmv hms hmm hmt
            cases hsq : mt.sq
            all_goals
              all_goals k_steps
              unfold Held
              refine compAtC_list (its := vs) rfl F7 N6 (base_list F7 hl) (by rw [IntsAre.length hi, PySem.sizeLine_eq]; omega) (fun i dlw yw => RowsIn dlw yw (rowsOf mt.sq ps (ns.take i))) RowsIn.nil ?_ ?_
              · intro C i v oC9 ys dlw s₃ E' hv hR hoC F8 N8 hne1 hne2 hk9
                obtain ⟨p, tp, rfl, hpi⟩ := IntsAre.at hi i v hv
                have hpb := hp p (List.mem_of_getElem? hpi)
                have N9 := news_swap N8
                simp only [List.cons_append, List.nil_append] at N9
                clear N8 F7 N6
                all_goals k_steps
                unfold Held
                refine compAt_listK (its := ys2) rfl F8 N9 ⟨_, (N9 _ (.tail _ (.tail _ (.head _)))).1, rfl, _, rfl⟩ (by rw [hP2.1, PySem.sizeLine_eq]; omega) (fun j dl' zs => dl' = [] ∧ IntsAre zs ((ps.take j).map fun d => wgt mt.sq (comOf ps) p d)) ⟨rfl, .nil⟩ ?_ ?_
                · rintro C2 j v2 oC2 m₂ zs dl2 s₄ E'' hv2 ⟨rfl, hz⟩ hns hm2 F10 N10 hne3 hne4
                  obtain ⟨d, aa, tt, uu, nn, hdi, rfl, hpm⟩ := hP2.at hv2
                  have hdb := hd d (List.mem_of_getElem? hdi)
                  obtain ⟨px, py⟩ := d
                  have N11 := news_front N10 (.tail _ (.tail _ (.tail _ (.tail _ (.tail _ (.tail _ (.tail _ (.tail _ (.tail _ (List.mem_append_left _ hpm))))))))))
                  simp only [List.cons_append, List.nil_append] at N11
                  dsimp only at hpm hdb N11
                  clear N10 F8 N9
                  all_goals k_steps
                  dsimp only
                  refine eltEnd_int ⟨rfl, row_snoc hz hdi ?_⟩
                  simp only [wgt, hsq, if_true, if_false, Bool.false_eq_true]
                · rintro D3 dl3 h3 tk3 zs F12 N12 hz1 hz2 hz3 ⟨rfl, hz⟩ hkk h₂
                  rw [hP2.1, List.take_length] at hz
                  refine eltEnd_row N12 hz2 hkk ?_
                  show RowsIn _ _ _
                  rw [rows_snoc hpi]
                  exact hR.snoc hz
              · intro DW dlw h5 tk5 yw F8 N8 hz1 hz2 hz3 hR h₂
                rw [IntsAre.length hi, List.take_length] at hR
                have hoff : OffAll [L9 + 1, L9 + 1 + 1, L9 + 1 + 1 + 1, L9 + 1 + 1 + 1 + 1, L9 + 1 + 1 + 1 + 1 + 1] dlw := off_fresh N6 hz1 (by
                  intro c hc
                  simp only [List.mem_cons, List.not_mem_nil, or_false] at hc
                  rcases hc with rfl | rfl | rfl | rfl | rfl <;> exact ⟨_, by k_mem⟩)
                have hne := off1_fresh (news_sub N6 (l' := (D1, listOf ys1.toArray nn1) :: (D2, listOf ys2.toArray nn2) :: (L9 + 1 + 1 + 1 + 1 + 1, oM) :: (L9 + 1 + 1 + 1 + 1, oW) :: (L9 + 1 + 1 + 1, oC') :: (L9 + 1 + 1, oD) :: (L9 + 1, oR) :: []) (fun p hp => by
                  simp only [List.mem_cons, List.not_mem_nil, or_false] at hp ⊢
                  rcases hp with h | h | h | h | h | h | h <;> simp only [h, true_or, or_true])) hz2
                simp only [LCg.Off1, and_true] at hne
                have N9 := seam_w N8
                clear N8 N6 F7
                all_goals k_steps
                (rename Fr _ _ _ _ => F9)
                (rename News _ _ _ _ => N10)
                (rename Obj.data _ = Data.cell (some (Value.ref DW)) => d9)
                rw [hsq] at hR
                exact ⟨rfl, _, _, _, DW, _, yw, _, dlw, rfl, F9, ⟨rfl, rfl, rfl, rfl⟩, N10, d9, hR, hoff, by omega⟩
        · clear N4 F5
          intro fl s₂ hW
          obtain ⟨rfl, h2, tk2, m2, DW, nnw, yw, oW', dlw, rfl, F6, ⟨hmv, hms, hmm, hmt⟩, N6, hdW, hR, hoffw, hoW⟩ := hW
          have F7 := fr_four F6 hmv hms hmm hmt
          clear F6 hmv hms hmm hmt hP2
          dsimp only
          obtain ⟨vss, hv1, hv2, hv3⟩ := hR.vals
          have hylen : yw.length = ns.length := by rw [hR.1, rows_len]
          have hflen := rows_flat_len mt.sq ps ns
          have hm1 : ns.length * ps.length ≤ 4 * 9 := Nat.mul_le_mul hl4 hpl
          have hm2 : 1 * ps.length ≤ ns.length * ps.length := Nat.mul_le_mul hl1 (Nat.le_refl _)
          all_goals k_steps
          refine ⟨DW, yw, vss, rfl, ⟨_, (N6 _ (.tail _ (.head _))).1, rfl, _, rfl⟩, hv1, by rw [hylen, PySem.sizeLine_eq]; omega, by rw [IntsAre.length hv2, hflen, PySem.sizeLine_eq]; omega, ?_, ?_⟩
          · intro i v hv
            obtain ⟨a', its, nn', rfl, e, hm⟩ := hv3 i v hv
            exact ⟨a', its, rfl, e, ⟨_, (N6 _ (.tail _ (.tail _ (.tail _ (.tail _ (.tail _ (.tail _ (.tail _ hm)))))))).1, rfl, _, rfl⟩⟩
          intro DF h6 tk6 hDF hDF' hk6
          obtain ⟨F8, N8, hneF⟩ := fresh_news F7 N6 hk6 hDF hDF'
          have hneF' := off1_fresh (news_sub N6 (l' := (D1, listOf ys1.toArray nn1) :: (DW, listOf yw.toArray nnw) :: (L9 + 1 + 1 + 1 + 1 + 1, oM) :: (L9 + 1 + 1 + 1 + 1, oW') :: (L9 + 1 + 1 + 1, oC') :: (L9 + 1 + 1, oD) :: (L9 + 1, oR) :: []) (fun p hp => by
                  simp only [List.mem_cons, List.not_mem_nil, or_false] at hp ⊢
                  rcases hp with h | h | h | h | h | h | h <;> simp only [h, true_or, or_true])) hDF
          simp only [LCg.Off1, and_true] at hneF'
          clear F7 N6 hneF hk6 hDF hDF'
          generalize hfl : (rowsOf mt.sq ps ns).flatten = fl at hv2 hflen
          have hfl64 : fl.length < 64 := by rw [hflen]; omega
          all_goals k_steps
          unfold Held
          (rename Obj.data _ = Data.cell (some (Value.int (List.getD _ _ _) _)) => dM)
          (rename IsRange _ _ _ _ _ _ _ _ => R9)
          (rename (DF < _ ∧ _) => l1x)
          (rename List.Perm _ _ => p9)
          (rename List.Pairwise _ _ => o9)
          (rename List.length _ = List.length fl => e9)
          (rename Fr _ _ _ _ => F9)
          (rename News _ _ _ _ => N9)
          have hkth := kth_neg p9 o9 hlt (by omega)
          generalize List.getD _ _ _ = M at dM hkth
          refine compAt_range rfl F9 N9 R9 (small_one (by omega) (by omega) (by omega) (by omega)) (rangeSize_nat _ _) (by rw [PySem.sizeLine_eq]; omega) (fun i dl' zs => dl' = [] ∧ IntsAre zs (reps1 r0 (rowsOf mt.sq ps ns) M i)) ⟨rfl, .nil⟩ ?_ ?_
          · rintro C i tv oC m₂ zs dl2 s₃ E' hi9 ⟨rfl, hz⟩ hoC hv F10 N10 hx1 hx2
            have hi10 : i < ns.length := by omega
            have hi11 : i < r0.length := by omega
            obtain ⟨r, hr1, hr2⟩ := rows_at (sq := mt.sq) (ps := ps) hi10
            obtain ⟨aw, vsr, nnr, hw1, hw2, hw3⟩ := hR.2 i r hr1
            have N11 := news_front N10 (.tail _ (.tail _ (.tail _ (.tail _ (.tail _ (.tail _ (.tail _ (.tail _ (.tail _ (.tail _ hw2))))))))))
            simp only [List.cons_append, List.nil_append] at N11
            clear N10 N9 F9
            have hrl := rows_row_len hr1
            all_goals k_steps
            unfold Held
            refine compAtT_list (xs := r) (fun v => decide (M < v)) rfl (by rfl) (by rfl) (by rfl) F10 N11 ⟨_, (N11 _ (.head _)).1, rfl, _, rfl⟩ hw3 (by rw [IntsAre.length hw3, hrl, PySem.sizeLine_eq]; omega) ?_ ?_
            · intro C2 v2 tv2 oC2 m3 s₄ E2 hv2 hns2 hm2 F12 N12 hne2
              clear N11 F10
              all_goals k_steps
              exact ⟨rfl, _, rfl⟩
            · intro D3 h3 tk3 zs3 F12 N12 hD3 hz3 hk3 h₂
              clear N11 F10
              all_goals k_steps
              have hfle : (r.filter (fun v => decide (M < v))).length ≤ r.length := List.length_filter_le ..
              refine KM.len_K (n := (r.filter (fun v => decide (M < v))).length) N12 (.head _) (by rw [List.size_toArray, IntsAre.length hz3]) (by omega) ?_
              all_goals k_steps
              dsimp only
              refine eltEnd_keep hk3 ⟨rfl, reps1_snoc hz ?_⟩
              unfold upOf
              rw [hr2]
          · rintro D3 dl3 h3 tk3 zs F10 N10 hz1 hz2 hz3 ⟨rfl, hz⟩ h₂
            have hne := off1_fresh (news_sub N9 (l' := (D1, listOf ys1.toArray nn1) :: (DW, listOf yw.toArray nnw) :: (L9 + 1 + 1 + 1 + 1 + 1, _) :: (L9 + 1 + 1 + 1 + 1, oW') :: (L9 + 1 + 1 + 1, oC') :: (L9 + 1 + 1, oD) :: (L9 + 1, oR) :: []) (fun p hp => by
                  simp only [List.mem_cons, List.not_mem_nil, or_false] at hp
                  rcases hp with h | h | h | h | h | h | h
                  · exact h ▸ .tail _ (.tail _ (.head _))
                  · exact h ▸ .tail _ (.tail _ (.tail _ (.head _)))
                  · exact h ▸ .tail _ (.tail _ (.tail _ (.tail _ (.head _))))
                  · exact h ▸ .tail _ (.tail _ (.tail _ (.tail _ (.tail _ (.head _)))))
                  · exact h ▸ .tail _ (.tail _ (.tail _ (.tail _ (.tail _ (.tail _ (.head _))))))
                  · exact h ▸ .tail _ (.tail _ (.tail _ (.tail _ (.tail _ (.tail _ (.tail _ (.head _)))))))
                  · exact h ▸ .tail _ (.tail _ (.tail _ (.tail _ (.tail _ (.tail _ (.tail _ (.tail _ (.head _))))))))) ) hz2
            simp only [LCg.Off1, and_true] at hne
            have hoff3 : OffAll [D3, L9 + 1, L9 + 1 + 1, L9 + 1 + 1 + 1, L9 + 1 + 1 + 1 + 1, L9 + 1 + 1 + 1 + 1 + 1] dlw := fun p hp' hm => by
              rcases List.mem_cons.mp hm with hm | hm
              · have e1 := (N9 p (.tail _ (.tail _ (.tail _ (.tail _ (.tail _ (.tail _ (.tail _ (.tail _ (.tail _ hp')))))))))).1
                rw [hm, show _ = none from hz2] at e1
                cases e1
              · exact hoffw p hp' hm
            clear hoffw
            have eN : ((ns.length : Int) - 0).toNat = ns.length := by omega
            rw [eN] at hz
            have hRl : (reps1 r0 (rowsOf mt.sq ps ns) M ns.length).length = ns.length := reps1_len
            generalize hR1 : reps1 r0 (rowsOf mt.sq ps ns) M ns.length = R1 at hz hRl
            have N11 := news_sub N10 (l' := (D3, LCg.lst zs) :: (DW, listOf yw.toArray nnw) :: (L9 + 1 + 1 + 1 + 1 + 1, _) :: (L9 + 1 + 1 + 1 + 1, oW') :: (L9 + 1 + 1 + 1, oC') :: (L9 + 1 + 1, oD) :: (L9 + 1, oR) :: dlw) (fun p hp => by
                  simp only [List.mem_cons] at hp
                  rcases hp with h | h | h | h | h | h | h | h
                  · exact h ▸ .head _
                  · exact h ▸ .tail _ (.tail _ (.tail _ (.tail _ (.head _))))
                  · exact h ▸ .tail _ (.tail _ (.tail _ (.tail _ (.tail _ (.head _)))))
                  · exact h ▸ .tail _ (.tail _ (.tail _ (.tail _ (.tail _ (.tail _ (.head _))))))
                  · exact h ▸ .tail _ (.tail _ (.tail _ (.tail _ (.tail _ (.tail _ (.tail _ (.head _)))))))
                  · exact h ▸ .tail _ (.tail _ (.tail _ (.tail _ (.tail _ (.tail _ (.tail _ (.tail _ (.head _))))))))
                  · exact h ▸ .tail _ (.tail _ (.tail _ (.tail _ (.tail _ (.tail _ (.tail _ (.tail _ (.tail _ (.head _)))))))))
                  · exact .tail _ (.tail _ (.tail _ (.tail _ (.tail _ (.tail _ (.tail _ (.tail _ (.tail _ (.tail _ h))))))))))
            clear N10 N9 F9 hz1 hz2 hz3 l1x p9 o9 e9
            all_goals k_steps
            unfold Held
            refine wpAny_If ?_
            by_cases hlt2 : R1.sum < n
            · all_goals k_steps
              unfold Held
              (rename Fr _ _ _ _ => F12)
              (rename News _ _ _ _ => N12)
              (rename IsRange _ _ _ _ _ _ _ _ => R12)
              (rename Obj.data _ = Data.cell (some (Value.ref D3)) => d12)
              refine forAt_range rfl (by rfl) (by rfl) F12 N12 R12 (small_one (by omega) (by omega) (by omega) (by omega)) (rangeSize_nat _ _) (by rw [PySem.sizeLine_eq]; omega) (PT L9 l DW D3 nnw zs.length n tkn mth tkm yw (rowsOf mt.sq ps ns) M R1 dlw _ oD oC' oW' _) ⟨⟨rfl, rfl, rfl, rfl⟩, ⟨_, rfl⟩, zs, hz, rfl⟩ ?_ ?_ ?_
              · rintro i' m' news' ⟨_, _, ysR, _, rfl⟩ p hp'
                simp only [List.mem_cons] at hp'
                rcases hp' with rfl | rfl | rfl | rfl | rfl | rfl | rfl | hp'
                · exact ⟨_, .head _, rfl⟩
                · exact ⟨_, .tail _ (.head _), rfl⟩
                · exact ⟨_, .tail _ (.tail _ (.head _)), rfl⟩
                · exact ⟨_, .tail _ (.tail _ (.tail _ (.head _))), rfl⟩
                · exact ⟨_, .tail _ (.tail _ (.tail _ (.tail _ (.head _)))), rfl⟩
                · exact ⟨_, .tail _ (.tail _ (.tail _ (.tail _ (.tail _ (.head _))))), rfl⟩
                · exact ⟨_, .tail _ (.tail _ (.tail _ (.tail _ (.tail _ (.tail _ (.head _)))))), rfl⟩
                · exact ⟨_, .tail _ (.tail _ (.tail _ (.tail _ (.tail _ (.tail _ (.tail _ hp')))))), rfl⟩
              · rintro I i tv m' news' hh9 tkk9 oI s₂ hi9 ⟨⟨hmv, hms, hmm, hmt⟩, ⟨b, hb⟩, ysR, hzR, rfl⟩ F13 N13 hltI ⟨h₂, rfl⟩
                k_lt hltI
                have hi10 : i < ns.length := by omega
                obtain ⟨r, hr1, hr2⟩ := rows_at (sq := mt.sq) (ps := ps) hi10
                obtain ⟨aw, vsr, nnr, hw1, hw2, hw3⟩ := hR.2 i r hr1
                have hoa := hoff3 _ hw2
                simp only [List.mem_cons, List.not_mem_nil, or_false, not_or] at hoa
                have hoa3 : @Ne Nat D3 aw := fun q => hoff3 _ hw2 (by simp [q])
                have N14 := news_front N13 (.tail _ (.tail _ (.tail _ (.tail _ (.tail _ (.tail _ (.tail _ (.tail _ hw2))))))))
                have F14 := fr_four (x1 := Str.ofString "votes") (x2 := Str.ofString "seats") (x3 := Str.ofString "method") (x4 := Str.ofString "tiesallowed") (v1 := .ref l) (v2 := .int n tkn) (v3 := .str mth tkm) (v4 := .bool true) F13 hmv hms hmm hmt
                have F15 := fr_name (x := Str.ofString "ties") (v := .bool b) F14 hb
                have F16 := fr_name (x := Str.ofString "i") (v := .int (0 + (i : Int)) tv) F15 rfl
                have hRl' : (fillTo n (rowsOf mt.sq ps ns) M R1 i).length = ns.length := by rw [fillTo_len, hRl]
                have hfs : fillTo n (rowsOf mt.sq ps ns) M R1 (i + 1) = if (fillTo n (rowsOf mt.sq ps ns) M R1 i).sum < n ∧ M ∈ r then (fillTo n (rowsOf mt.sq ps ns) M R1 i).set i ((fillTo n (rowsOf mt.sq ps ns) M R1 i).getD i 0 + 1) else fillTo n (rowsOf mt.sq ps ns) M R1 i := by rw [← hr2]; rfl
                generalize fillTo n (rowsOf mt.sq ps ns) M R1 i = R at hzR hRl' hfs
                clear F13 F14 F15 N13 N12 F12
                have hiR : i < R.length := by omega
                all_goals k_steps
                unfold Held
                refine wpAny_If ?_
                all_goals k_steps
                all_goals (try (unfold Held; refine wpAny_If ?_))
                all_goals k_steps
                all_goals (try (unfold Held; refine wpAny_If ?_))
                all_goals k_steps
                all_goals (try (unfold Held; refine wpAny_If ?_))
                all_goals k_steps
                all_goals ((rename Fr _ _ _ _ => F17); (rename News _ _ _ _ => N17))
                all_goals
                  refine ⟨rfl, _, _, _, _, rfl, F17, fun p hp => N17 p (.tail _ hp), ⟨rfl, rfl, rfl, rfl⟩, ⟨_, rfl⟩, _, ?_, rfl⟩
                  rw [hfs]
                  first
                    | (rw [if_neg (fun hc => by have := hc.1; omega)]; exact hzR)
                    | (rw [if_neg (fun hc => any_false (by assumption) hc.2)]; exact hzR)
                    | (rw [if_pos ⟨by assumption, any_true (by assumption)⟩]
                       have e0 : (0 + (i : Int)).toNat = i := by omega
                       (rename IntsAre (List.set _ _ _) _ => h18)
                       rw [e0] at h18 ⊢
                       exact h18)
              · rintro m' news' hh9 tkk9 ⟨⟨hmv, hms, hmm, hmt⟩, ⟨b, hb⟩, ysR, hzR, rfl⟩ F13 N13
                rw [eN] at hzR
                have F14 := fr_four F13 hmv hms hmm hmt
                have F15 := fr_name (x := Str.ofString "ties") (v := .bool b) F14 hb
                clear F13 F14 N12 F12
                all_goals k_steps
                unfold Held
                refine wpAny_If ?_
                all_goals k_steps
                all_goals ((rename Fr _ _ _ _ => F17); (rename News _ _ _ _ => N17))
                all_goals
                  dsimp only
                  refine hret _ _ _ (Fr.keep F17) ⟨D3, ysR, _, rfl, (N17 _ (.head _)).2.2, ⟨_, (N17 _ (.head _)).1⟩, hzR, ?_⟩
                  subst hr0 hps hR1 hfl
                  exact .inr ⟨hlt, M, hkth, .inr ⟨hlt2, rfl⟩⟩
            · all_goals k_steps
              unfold Held
              refine wpAny_If ?_
              all_goals k_steps
              all_goals ((rename Fr _ _ _ _ => F17); (rename News _ _ _ _ => N17))
              dsimp only
              refine hret _ _ _ (Fr.keep F17) ⟨D3, zs, _, rfl, (N17 _ (.head _)).2.2, ⟨_, (N17 _ (.head _)).1⟩, hz, ?_⟩
              subst hr0 hps hR1 hfl
              exact .inr ⟨hlt, M, hkth, .inl ⟨hlt2, rfl⟩⟩
    · all_goals k_steps
      unfold Held
      refine wpAny_If ?_
      all_goals k_steps
      unfold Held
      refine wpAny_If ?_
      all_goals k_steps
      all_goals ((rename Fr _ _ _ _ => F17); (rename News _ _ _ _ => N17))
      dsimp only
      refine hret _ _ _ (Fr.keep F17) ⟨D1, ys1, _, rfl, (N17 _ (.head _)).2.2, ⟨_, (N17 _ (.head _)).1⟩, hI1, ?_⟩
      subst hr0
      exact .inl ⟨hlt, rfl⟩
  cases mt <;> (simp only [Meth.name] at hmth; subst hmth; simp only [Meth.one, Meth.r0, Meth.pr, Meth.cnt, if_true, if_false, Bool.false_eq_true, true_implies] at hok ⊢)
  · all_goals k_steps
    unfold Held
    refine wpAny_If ?_
    all_goals k_steps
    unfold Held
    (rename Fr _ _ _ _ => F1)
    (rename News _ _ _ _ => N1)
    (rename IsRange _ _ _ _ _ _ _ _ => R1)
    refine compAt_range rfl F1 N1 R1 (small_k h0 h4) (rangeSize_nat _ _) (line_k h4) (fun i dl ys => PairsIn dl ys ((List.range i).map prDh)) PairsIn.nil ?_ ?_
    · intro C i tv oC m₂ ys dl s₃ E' hi' hR hoC hv F2 N2 h1 h2
      have N3 := news_sub N2 (l' := [(C, oC)]) (fun p hp' => by rw [List.mem_singleton.mp hp']; exact .head _)
      clear N2 N1 F1 R1
      all_goals k_steps
      (rename Fr _ _ _ _ => F3)
      (rename News _ _ _ _ => N4)
      rename_i K4 e4
      exact eltEnd_pair N4 K4 e4 hR (by unfold prDh; simp)
    · intro D dl h tk ys F2 N2 h1 h2 h3 hR h₂
      have hoff : OffAll [L9 + 1, L9 + 1 + 1, L9 + 1 + 1 + 1, L9 + 1 + 1 + 1 + 1, L9 + 1 + 1 + 1 + 1 + 1] dl := off_fresh N1 h1 (by
        intro c hc
        simp only [List.mem_cons, List.not_mem_nil, or_false] at hc
        rcases hc with rfl | rfl | rfl | rfl | rfl <;> exact ⟨_, by k_mem⟩)
      have hne := off1_fresh N1 h2
      simp only [LCg.Off1, and_true] at hne
      have N3 := news_swap N2
      simp only [List.cons_append, List.nil_append] at N3
      clear N2 N1 R1 F1
      all_goals k_steps
      (rename Fr _ _ _ _ => F4)
      (rename News _ _ _ _ => N4)
      (rename IntsAre (List.flatten _) _ => i1)
      have N5 := seam_news N4
      have hR' : PairsIn dl ys ((List.range n.toNat).map prDh) := by simpa using hR
      exact ⟨rfl, _, _, _, D9, D, _, ys, _, _, dl, _, _, _, _, _, _, _, _, rfl, F4, rfl, rfl, rfl, rfl, N5, d9, by assumption, c3, c2, c1, i1z' i1, hR', hoff, by omega, by omega⟩
  · all_goals k_steps
    unfold Held
    refine wpAny_If ?_
    all_goals k_steps
    unfold Held
    refine wpAny_If ?_
    all_goals k_steps
    unfold Held
    (rename Fr _ _ _ _ => F1)
    (rename News _ _ _ _ => N1)
    (rename IsRange _ _ _ _ _ _ _ _ => R1)
    refine compAt_range rfl F1 N1 R1 (small_k h0 h4) (rangeSize_nat _ _) (line_k h4) (fun i dl ys => PairsIn dl ys ((List.range i).map prSl)) PairsIn.nil ?_ ?_
    · intro C i tv oC m₂ ys dl s₃ E' hi' hR hoC hv F2 N2 h1 h2
      have N3 := news_sub N2 (l' := [(C, oC)]) (fun p hp' => by rw [List.mem_singleton.mp hp']; exact .head _)
      clear N2 N1 F1 R1
      all_goals k_steps
      (rename Fr _ _ _ _ => F3)
      (rename News _ _ _ _ => N4)
      rename_i K4 e4
      exact eltEnd_pair N4 K4 e4 hR (by unfold prSl; simp)
    · intro D dl h tk ys F2 N2 h1 h2 h3 hR h₂
      have hoff : OffAll [L9 + 1, L9 + 1 + 1, L9 + 1 + 1 + 1, L9 + 1 + 1 + 1 + 1, L9 + 1 + 1 + 1 + 1 + 1] dl := off_fresh N1 h1 (by
        intro c hc
        simp only [List.mem_cons, List.not_mem_nil, or_false] at hc
        rcases hc with rfl | rfl | rfl | rfl | rfl <;> exact ⟨_, by k_mem⟩)
      have hne := off1_fresh N1 h2
      simp only [LCg.Off1, and_true] at hne
      have N3 := news_swap N2
      simp only [List.cons_append, List.nil_append] at N3
      clear N2 N1 R1 F1
      all_goals k_steps
      (rename Fr _ _ _ _ => F4)
      (rename News _ _ _ _ => N4)
      (rename IntsAre (List.flatten _) _ => i1)
      have N5 := seam_news (seam_drop N4)
      have hR' : PairsIn dl ys ((List.range n.toNat).map prSl) := by simpa using hR
      exact ⟨rfl, _, _, _, D9, D, _, ys, _, _, dl, _, _, _, _, _, _, _, _, rfl, F4, rfl, rfl, rfl, rfl, N5, d9, by assumption, c3, c2, c1, i1z' i1, hR', hoff, by omega, by omega⟩
  · all_goals k_steps
    unfold Held
    refine wpAny_If ?_
    all_goals k_steps
    unfold Held
    refine wpAny_If ?_
    all_goals k_steps
    unfold Held
    refine wpAny_If ?_
    all_goals k_steps
    unfold Held
    (rename Fr _ _ _ _ => F1)
    (rename News _ _ _ _ => N1)
    (rename IsRange _ _ _ _ _ _ _ _ => R1)
    have p1 := tup_ne (c := L9 + 1) N1 (by k_mem) (by simp [d9])
    have p2 := tup_ne (c := L9 + 1 + 1) N1 (by k_mem) (by simp [c4])
    have p3 := tup_ne (c := L9 + 1 + 1 + 1) N1 (by k_mem) (by simp [c3])
    have p4 := tup_ne (c := L9 + 1 + 1 + 1 + 1) N1 (by k_mem) (by simp [c2])
    have p5 := tup_ne (c := L9 + 1 + 1 + 1 + 1 + 1) N1 (by k_mem) (by simp [c1])
    refine compAt_range rfl F1 N1 R1 (small_one (by omega) (by omega) (by omega) (by omega)) (rangeSize_nat _ _) (by rw [PySem.sizeLine_eq]; omega) (fun i dl ys => PairsIn dl ys ((List.range i).map fun j => prMs (j + 1))) PairsIn.nil ?_ ?_
    · intro C i tv oC m₂ ys dl s₃ E' hi' hR hoC hv F2 N2 h1 h2
      have N3 := news_sub N2 (l' := [(C, oC)]) (fun p hp' => by rw [List.mem_singleton.mp hp']; exact .head _)
      clear N2 N1 F1 R1
      all_goals k_steps
      (rename Fr _ _ _ _ => F3)
      (rename News _ _ _ _ => N4)
      rename_i K4 e4
      exact eltEnd_pair N4 K4 e4 hR (by unfold prMs; simp; omega)
    · intro D dl h tk ys F2 N2 h1 h2 h3 hR h₂
      have hoff : OffAll [L9 + 1, L9 + 1 + 1, L9 + 1 + 1 + 1, L9 + 1 + 1 + 1 + 1, L9 + 1 + 1 + 1 + 1 + 1] dl := off_fresh N1 h1 (by
        intro c hc
        simp only [List.mem_cons, List.not_mem_nil, or_false] at hc
        rcases hc with rfl | rfl | rfl | rfl | rfl <;> exact ⟨_, by k_mem⟩)
      have hne := off1_fresh N1 h2
      simp only [LCg.Off1, and_true] at hne
      have N3 := news_swap N2
      simp only [List.cons_append, List.nil_append] at N3
      clear N2 N1 R1 F1
      have hyl : ys.length ≤ 9 := by rw [hR.1]; simp; omega
      refine add_named (ws := ys) (by assumption) (by assumption) (by is_list) (by is_list) (by rw [PySem.sizeLine_eq]; simp only [List.length_cons, List.length_nil]; omega) ?_
      intro D2 h9 hD2 hne2 F9x N9x
      simp only [LCg.Off1, and_true] at hne2
      clear F2 N3
      dsimp only at hD2 ⊢
      all_goals k_steps
      (rename Fr _ _ _ _ => F4)
      (rename News _ _ _ _ => N4)
      (rename IntsAre (List.flatten _) _ => i1)
      have hz := ms_fin N4 hR hoff (by
        simp only [List.mem_cons, List.not_mem_nil, or_false, not_or]
        exact ⟨p1.symm, p2.symm, p3.symm, p4.symm, p5.symm⟩)
      obtain ⟨N5, hR', hoff'⟩ := hz
      exact ⟨rfl, _, _, _, D9, D2, _, _, _, _, _, _, _, _, _, _, _, _, _, rfl, F4, rfl, rfl, rfl, rfl, N5, d9, by assumption, c3, c2, c1, i1z' i1, hR', hoff', by omega, by omega⟩
  · all_goals k_steps
    unfold Held
    refine wpAny_If ?_
    all_goals k_steps
    unfold Held
    refine wpAny_If ?_
    all_goals k_steps
    unfold Held
    refine wpAny_If ?_
    all_goals k_steps
    unfold Held
    refine wpAny_If ?_
    all_goals k_steps
    unfold Held
    refine wpAny_If ?_
    all_goals k_steps
    unfold Held
    refine wpAny_If ?_
    all_goals k_steps
    unfold Held
    (rename Fr _ _ _ _ => F1)
    (rename News _ _ _ _ => N1)
    (rename IsRange _ _ _ _ _ _ _ _ => R1)
    (rename IntsAre _ (List.map _ _) => hI8)
    (rename Obj.data _ = Data.cell (some (Value.ref _)) => dR)
    have hI9 := hI8
    rw [ones_of hp] at hI9
    refine compAt_range rfl F1 N1 R1 (small_k h0 h4) (rangeSize_nat _ _) (line_k h4) (fun i dl ys => PairsIn dl ys ((List.range i).map prDh)) PairsIn.nil ?_ ?_
    · intro C i tv oC m₂ ys dl s₃ E' hi' hR hoC hv F2 N2 h1 h2
      have N3 := news_sub N2 (l' := [(C, oC)]) (fun p hp' => by rw [List.mem_singleton.mp hp']; exact .head _)
      clear N2 N1 F1 R1
      all_goals k_steps
      (rename Fr _ _ _ _ => F3)
      (rename News _ _ _ _ => N4)
      rename_i K4 e4
      exact eltEnd_pair N4 K4 e4 hR (by unfold prDh; simp)
    · intro D dl h tk ys F2 N2 h1 h2 h3 hR h₂
      have hoff : OffAll [L9 + 1, L9 + 1 + 1, L9 + 1 + 1 + 1, L9 + 1 + 1 + 1 + 1, L9 + 1 + 1 + 1 + 1 + 1] dl := off_fresh N1 h1 (by
        intro c hc
        simp only [List.mem_cons, List.not_mem_nil, or_false] at hc
        rcases hc with rfl | rfl | rfl | rfl | rfl <;> exact ⟨_, by k_mem⟩)
      have hne := off1_fresh N1 h2
      simp only [LCg.Off1, and_true] at hne
      have N3 := news_swap N2
      simp only [List.cons_append, List.nil_append] at N3
      clear N2 N1 R1 F1
      all_goals k_steps
      (rename Fr _ _ _ _ => F4)
      (rename News _ _ _ _ => N4)
      have N5 := seam_swap (seam_drop3 (seam_drop3 (seam_drop3 (seam_drop3 (seam_drop3 (seam_drop3 (seam_drop3 N4)))))))
      have hR' : PairsIn dl ys ((List.range n.toNat).map prDh) := by simpa using hR
      exact ⟨rfl, _, _, _, _, D, _, ys, _, _, dl, _, _, _, _, _, _, _, _, rfl, F4, rfl, rfl, rfl, rfl, N5, dR, by assumption, c3, c2, c1, hI9, hR', hoff, seam_off N5 dR (by assumption) c3 c2 c1, ⟨(by simp only [hne, ne_eq, not_false_eq_true]), (by simp only [hne, ne_eq, not_false_eq_true]), (by simp only [hne, ne_eq, not_false_eq_true]), (by simp only [hne, ne_eq, not_false_eq_true]), (by simp only [hne, ne_eq, not_false_eq_true])⟩⟩
  · all_goals k_steps
    unfold Held
    refine wpAny_If ?_
    all_goals k_steps
    unfold Held
    refine wpAny_If ?_
    all_goals k_steps
    unfold Held
    refine wpAny_If ?_
    all_goals k_steps
    unfold Held
    refine wpAny_If ?_
    all_goals k_steps
    unfold Held
    refine wpAny_If ?_
    all_goals k_steps
    unfold Held
    refine wpAny_If ?_
    all_goals k_steps
    unfold Held
    refine wpAny_If ?_
    all_goals k_steps
    unfold Held
    (rename Fr _ _ _ _ => F1)
    (rename News _ _ _ _ => N1)
    (rename IsRange _ _ _ _ _ _ _ _ => R1)
    (rename IntsAre _ (List.map _ _) => hI8)
    (rename Obj.data _ = Data.cell (some (Value.ref _)) => dR)
    have hI9 := hI8
    rw [ones_of hp] at hI9
    refine compAt_range rfl F1 N1 R1 (small_k h0 h4) (rangeSize_nat _ _) (line_k h4) (fun i dl ys => PairsIn dl ys ((List.range i).map prDe)) PairsIn.nil ?_ ?_
    · intro C i tv oC m₂ ys dl s₃ E' hi' hR hoC hv F2 N2 h1 h2
      have N3 := news_sub N2 (l' := [(C, oC)]) (fun p hp' => by rw [List.mem_singleton.mp hp']; exact .head _)
      clear N2 N1 F1 R1
      all_goals k_steps
      (rename Fr _ _ _ _ => F3)
      (rename News _ _ _ _ => N4)
      rename_i K4 e4
      exact eltEnd_pair N4 K4 e4 hR (by unfold prDe; simp)
    · intro D dl h tk ys F2 N2 h1 h2 h3 hR h₂
      have hoff : OffAll [L9 + 1, L9 + 1 + 1, L9 + 1 + 1 + 1, L9 + 1 + 1 + 1 + 1, L9 + 1 + 1 + 1 + 1 + 1] dl := off_fresh N1 h1 (by
        intro c hc
        simp only [List.mem_cons, List.not_mem_nil, or_false] at hc
        rcases hc with rfl | rfl | rfl | rfl | rfl <;> exact ⟨_, by k_mem⟩)
      have hne := off1_fresh N1 h2
      simp only [LCg.Off1, and_true] at hne
      have N3 := news_swap N2
      simp only [List.cons_append, List.nil_append] at N3
      clear N2 N1 R1 F1
      all_goals k_steps
      (rename Fr _ _ _ _ => F4)
      (rename News _ _ _ _ => N4)
      have N5 := seam_swap (seam_drop3 (seam_drop3 (seam_drop3 (seam_drop3 (seam_drop3 (seam_drop3 (seam_drop3 (seam_drop3 N4))))))))
      have hR' : PairsIn dl ys ((List.range n.toNat).map prDe) := by simpa using hR
      exact ⟨rfl, _, _, _, _, D, _, ys, _, _, dl, _, _, _, _, _, _, _, _, rfl, F4, rfl, rfl, rfl, rfl, N5, dR, by assumption, c3, c2, c1, hI9, hR', hoff, seam_off N5 dR (by assumption) c3 c2 c1, ⟨(by simp only [hne, ne_eq, not_false_eq_true]), (by simp only [hne, ne_eq, not_false_eq_true]), (by simp only [hne, ne_eq, not_false_eq_true]), (by simp only [hne, ne_eq, not_false_eq_true]), (by simp only [hne, ne_eq, not_false_eq_true])⟩⟩
  · all_goals k_steps
    unfold Held
    refine wpAny_If ?_
    all_goals k_steps
    unfold Held
    refine wpAny_If ?_
    all_goals k_steps
    unfold Held
    refine wpAny_If ?_
    all_goals k_steps
    unfold Held
    refine wpAny_If ?_
    all_goals k_steps
    unfold Held
    refine wpAny_If ?_
    all_goals k_steps
    unfold Held
    (rename Fr _ _ _ _ => F1)
    (rename News _ _ _ _ => N1)
    (rename IsRange _ _ _ _ _ _ _ _ => R1)
    (rename IntsAre _ (List.map _ _) => hI8)
    (rename Obj.data _ = Data.cell (some (Value.ref _)) => dR)
    have hI9 := hI8
    rw [ones_of hp] at hI9
    refine compAt_range rfl F1 N1 R1 (small_k h0 h4) (rangeSize_nat _ _) (line_k h4) (fun i dl ys => PairsIn dl ys ((List.range i).map prHu)) PairsIn.nil ?_ ?_
    · intro C i tv oC m₂ ys dl s₃ E' hi' hR hoC hv F2 N2 h1 h2
      have N3 := news_sub N2 (l' := [(C, oC)]) (fun p hp' => by rw [List.mem_singleton.mp hp']; exact .head _)
      clear N2 N1 F1 R1
      all_goals k_steps
      (rename Fr _ _ _ _ => F3)
      (rename News _ _ _ _ => N4)
      rename_i K4 e4
      exact eltEnd_pair N4 K4 e4 hR (by unfold prHu; simp)
    · intro D dl h tk ys F2 N2 h1 h2 h3 hR h₂
      have hoff : OffAll [L9 + 1, L9 + 1 + 1, L9 + 1 + 1 + 1, L9 + 1 + 1 + 1 + 1, L9 + 1 + 1 + 1 + 1 + 1] dl := off_fresh N1 h1 (by
        intro c hc
        simp only [List.mem_cons, List.not_mem_nil, or_false] at hc
        rcases hc with rfl | rfl | rfl | rfl | rfl <;> exact ⟨_, by k_mem⟩)
      have hne := off1_fresh N1 h2
      simp only [LCg.Off1, and_true] at hne
      have N3 := news_swap N2
      simp only [List.cons_append, List.nil_append] at N3
      clear N2 N1 R1 F1
      all_goals k_steps
      (rename Fr _ _ _ _ => F4)
      (rename News _ _ _ _ => N4)
      have N5 := seam_swap (seam_drop3 (seam_drop3 (seam_drop3 (seam_drop3 (seam_drop3 (seam_drop3 N4))))))
      have hR' : PairsIn dl ys ((List.range n.toNat).map prHu) := by simpa using hR
      exact ⟨rfl, _, _, _, _, D, _, ys, _, _, dl, _, _, _, _, _, _, _, _, rfl, F4, rfl, rfl, rfl, rfl, N5, dR, by assumption, c3, c2, c1, hI9, hR', hoff, seam_off N5 dR (by assumption) c3 c2 c1, ⟨(by simp only [hne, ne_eq, not_false_eq_true]), (by simp only [hne, ne_eq, not_false_eq_true]), (by simp only [hne, ne_eq, not_false_eq_true]), (by simp only [hne, ne_eq, not_false_eq_true]), (by simp only [hne, ne_eq, not_false_eq_true])⟩⟩
end Mine
end

section
namespace Mine
/-- a row that strictly falls, cut at M -/
theorem row_cut {l : List Int} (h : l.Pairwise (fun x y => y < x)) (M : Int) :
    (∀ i, i < (l.filter (fun x => decide (M < x))).length → M < l.getD i 0) ∧ (∀ i, (l.filter (fun x => decide (M < x))).length ≤ i → i < l.length → l.getD i 0 ≤ M) ∧
    (M ∈ l → (l.filter (fun x => decide (M < x))).length < l.length ∧ l.getD (l.filter (fun x => decide (M < x))).length 0 = M) ∧
    l.countP (fun x => decide (M ≤ x)) = (l.filter (fun x => decide (M < x))).length + (if M ∈ l then 1 else 0) := by
  induction l with
  | nil => simp
  | cons x t ih =>
    obtain ⟨h1, h2⟩ := List.pairwise_cons.mp h
    obtain ⟨i1, i2, i3, i4⟩ := ih h2
    by_cases c : M < x
    · rw [List.filter_cons_of_pos (by simpa using c), List.length_cons, List.countP_cons_of_pos (by simp; omega), i4]
      have hne : M ≠ x := by omega
      refine ⟨fun i hi => ?_, fun i hi hl => ?_, fun hm => ?_, ?_⟩
      · cases i with
        | zero => simpa using c
        | succ i => simpa using i1 i (by omega)
      · cases i with
        | zero => omega
        | succ i => simpa using i2 i (by omega) (by simpa using hl)
      · rcases List.mem_cons.mp hm with e | hm
        · exact absurd e hne
        · obtain ⟨a, b⟩ := i3 hm
          exact ⟨by simp only [List.length_cons]; omega, by simpa using b⟩
      · simp only [List.mem_cons, hne, false_or]; omega
    · have hall : ∀ y ∈ t, ¬ M < y := fun y hy => by have := h1 y hy; omega
      have hf : t.filter (fun x => decide (M < x)) = [] := List.filter_eq_nil_iff.mpr fun y hy => by simpa using hall y hy
      rw [List.filter_cons_of_neg (by simpa using c), hf]
      rw [hf] at i4
      refine ⟨fun i hi => absurd hi (by simp), fun i _ hl => ?_, fun hm => ?_, ?_⟩
      · cases i with
        | zero => simp; omega
        | succ i =>
          have hl' : i < t.length := by simpa using hl
          have hm : t.getD i 0 ∈ t := by rw [List.getD_eq_getElem?_getD, List.getElem?_eq_getElem hl']; exact List.getElem_mem hl'
          have := hall _ hm
          simp only [List.getD_cons_succ]; omega
      · rcases List.mem_cons.mp hm with e | hm
        · exact ⟨by simp, by simp [e]⟩
        · have := h1 _ hm; omega
      · by_cases e : M = x
        · rw [List.countP_cons_of_pos (by simp [e]), if_pos (by simp [e])]
          have : t.countP (fun x => decide (M ≤ x)) = 0 := List.countP_eq_zero.mpr fun y hy => by have := h1 y hy; simp; omega
          rw [this]; rfl
        · have hnt : M ∉ t := fun hm => by have := h1 _ hm; omega
          rw [List.countP_cons_of_neg (by simp; omega), i4, if_neg hnt, if_neg (by simp [e, hnt])]
theorem sumTo_congr {f g : Nat → Int} : ∀ {k : Nat}, (∀ i, i < k → f i = g i) → sumTo f k = sumTo g k
  | 0, _ => rfl
  | k + 1, h => by simp only [sumTo]; rw [sumTo_congr fun i hi => h i (by omega), h k (by omega)]
theorem sumTo_add {f g : Nat → Int} : ∀ {k : Nat}, sumTo (fun i => f i + g i) k = sumTo f k + sumTo g k
  | 0 => rfl
  | k + 1 => by simp only [sumTo]; rw [sumTo_add]; omega
theorem sumTo_const (x : Int) : ∀ (k : Nat), sumTo (fun _ => x) k = k * x
  | 0 => by simp [sumTo]
  | k + 1 => by simp only [sumTo]; rw [sumTo_const, Int.natCast_succ, Int.add_mul]; omega
theorem sumTo_shift {f : Nat → Int} : ∀ {k : Nat}, sumTo f (k + 1) = f 0 + sumTo (fun i => f (i + 1)) k
  | 0 => by simp [sumTo]
  | k + 1 => by rw [sumTo, sumTo_shift, sumTo]; omega
theorem sumTo_list : ∀ (R : List Int), sumTo (fun i => R.getD i 0) R.length = R.sum
  | [] => rfl
  | a :: R => by
    rw [List.length_cons, sumTo_shift, List.sum_cons, ← sumTo_list R]
    rfl
theorem sum_list_of {R : List Int} {k : Nat} (h : R.length = k) : R.sum = sumTo (fun i => R.getD i 0) k := by rw [← h, sumTo_list]
theorem count_flat {rows : List (List Int)} {p : Int → Bool} : ∀ {k : Nat}, rows.length = k → ((rows.flatten.countP p : Nat) : Int) = sumTo (fun a => (((rows.getD a []).countP p : Nat) : Int)) k := by
  induction rows with
  | nil => intro k h; subst h; rfl
  | cons r rows ih =>
    intro k h
    subst h
    rw [List.flatten_cons, List.countP_append, List.length_cons, sumTo_shift, Int.natCast_add, ih rfl]
    rfl
/-- what holds between the steps of the fill -/
def FillInv (n : Int) (rows : List (List Int)) (M : Int) (R1 : List Int) (i : Nat) (R : List Int) : Prop :=
  R.length = R1.length ∧ R.sum ≤ n ∧
  (∀ a, a < i → (R.getD a 0 = R1.getD a 0 ∧ (M ∈ rows.getD a [] → R.sum = n)) ∨ (R.getD a 0 = R1.getD a 0 + 1 ∧ M ∈ rows.getD a [])) ∧
  (∀ a b, a ≤ b → b < i → M ∈ rows.getD a [] → R.getD a 0 = R1.getD a 0 → R.getD b 0 = R1.getD b 0) ∧
  (∀ a, i ≤ a → R.getD a 0 = R1.getD a 0) ∧
  (R.sum < n → R.sum = R1.sum + sumTo (fun a => if M ∈ rows.getD a [] then 1 else 0) i)
theorem getD_set_self {R : List Int} {i : Nat} {x : Int} (h : i < R.length) : (R.set i x).getD i 0 = x := by
  rw [List.getD_eq_getElem?_getD, List.getElem?_set_self h]; rfl
theorem getD_set_ne {R : List Int} {i j : Nat} {x : Int} (h : i ≠ j) : (R.set i x).getD j 0 = R.getD j 0 := by
  rw [List.getD_eq_getElem?_getD, List.getD_eq_getElem?_getD, List.getElem?_set_ne h]
theorem sum_set' : ∀ {R : List Int} {i : Nat} {x : Int}, i < R.length → (R.set i x).sum = R.sum - R.getD i 0 + x
  | [], _, _, h => absurd h (by simp)
  | a :: R, 0, x, _ => by simp [List.sum_cons]; omega
  | a :: R, i + 1, x, h => by
    have := sum_set' (R := R) (i := i) (x := x) (by simpa using h)
    simp only [List.set_cons_succ, List.sum_cons, List.getD_cons_succ]; omega
theorem fill_inv {n : Int} {rows : List (List Int)} {M : Int} {R1 : List Int} (h : R1.sum < n) : ∀ i, i ≤ R1.length → FillInv n rows M R1 i (fillTo n rows M R1 i) := fun i => by
  induction i with
  | zero => intro _; exact ⟨rfl, by show R1.sum ≤ n; omega, fun a ha => absurd ha (by omega), fun a b _ hb => absurd hb (by omega), fun a _ => rfl, fun _ => by show R1.sum = R1.sum + 0; omega⟩
  | succ i ih =>
    intro hi
    obtain ⟨a1, a2, a3, a4, a5, a6⟩ := ih (by omega)
    show FillInv n rows M R1 (i + 1) (fillStep n rows M (fillTo n rows M R1 i) i)
    generalize fillTo n rows M R1 i = R at a1 a2 a3 a4 a5 a6
    unfold fillStep
    by_cases c : R.sum < n ∧ M ∈ rows.getD i []
    · rw [if_pos c]
      obtain ⟨c1, c2⟩ := c
      have hiR : i < R.length := by omega
      have hs : (R.set i (R.getD i 0 + 1)).sum = R.sum + 1 := by rw [sum_set' hiR]; omega
      have hself : (R.set i (R.getD i 0 + 1)).getD i 0 = R1.getD i 0 + 1 := by rw [getD_set_self hiR, a5 i (Nat.le_refl _)]
      refine ⟨by rw [List.length_set, a1], by omega, fun a ha => ?_, fun a b hab hb he hR => ?_, fun a ha => ?_, fun hlt => ?_⟩
      · by_cases e : a = i
        · subst e; exact .inr ⟨hself, c2⟩
        · rw [getD_set_ne (Ne.symm e)]
          rcases a3 a (by omega) with ⟨b1, b2⟩ | b
          · exact .inl ⟨b1, fun hm => by have := b2 hm; omega⟩
          · exact .inr b
      · by_cases e : a = i
        · subst e; rw [hself] at hR; omega
        · rw [getD_set_ne (Ne.symm e)] at hR
          rcases a3 a (by omega) with ⟨b1, b2⟩ | ⟨b1, b2⟩
          · have := b2 he; omega
          · omega
      · rw [getD_set_ne (by omega)]; exact a5 a (by omega)
      · rw [hs]
        have := a6 c1
        simp only [sumTo, if_pos c2]; omega
    · rw [if_neg c]
      have hi5 := a5 i (Nat.le_refl _)
      refine ⟨a1, a2, fun a ha => ?_, fun a b hab hb he hR => ?_, fun a ha => a5 a (by omega), fun hlt => ?_⟩
      · by_cases e : a = i
        · subst e; exact .inl ⟨hi5, fun hm => by have : ¬ R.sum < n := fun h => c ⟨h, hm⟩; omega⟩
        · exact a3 a (by omega)
      · by_cases e : b = i
        · subst e; exact hi5
        · exact a4 a b hab (by omega) he hR
      · have : ¬ M ∈ rows.getD i [] := fun hm => c ⟨hlt, hm⟩
        have := a6 hlt
        simp only [sumTo, if_neg ‹¬ M ∈ rows.getD i []›]; omega
theorem sumTo_nonneg {f : Nat → Int} : ∀ {k : Nat}, (∀ i, i < k → 0 ≤ f i) → 0 ≤ sumTo f k
  | 0, _ => Int.le_refl _
  | k + 1, h => by
    have := sumTo_nonneg (k := k) fun i hi => h i (by omega)
    have := h k (by omega)
    simp only [sumTo]; omega
theorem one_le {f : Nat → Int} {a : Nat} : ∀ {k : Nat}, (∀ i, i < k → 0 ≤ f i) → a < k → f a ≤ sumTo f k
  | 0, _, h => absurd h (by omega)
  | k + 1, h, ha => by
    have h0 := h k (by omega)
    simp only [sumTo]
    by_cases e : a = k
    · subst e
      have := sumTo_nonneg (k := a) fun i hi => h i (by omega)
      omega
    · have := one_le (k := k) (fun i hi => h i (by omega)) (show a < k by omega)
      omega
theorem two_le {f : Nat → Int} {a b : Nat} : ∀ {k : Nat}, (∀ i, i < k → 0 ≤ f i) → a < k → b < k → a ≠ b → f a + f b ≤ sumTo f k
  | 0, _, h, _, _ => absurd h (by omega)
  | k + 1, h, ha, hb, hab => by
    have h0 := h k (by omega)
    simp only [sumTo]
    by_cases e : a = k
    · subst e
      have := one_le (a := b) (k := a) (fun i hi => h i (by omega)) (by omega)
      omega
    · by_cases e' : b = k
      · subst e'
        have := one_le (a := a) (k := b) (fun i hi => h i (by omega)) (by omega)
        omega
      · have := two_le (k := k) (fun i hi => h i (by omega)) (show a < k by omega) (show b < k by omega) hab
        omega
/-- how many of the place's weights stand above M -/
def cut (rows : List (List Int)) (M : Int) (a : Nat) : Nat := ((rows.getD a []).filter (fun x => decide (M < x))).length
theorem reps1_at {r : Int} {rows : List (List Int)} {M : Int} {k a : Nat} (h : a < k) : (reps1 (List.replicate k r) rows M k).getD a 0 = r + cut rows M a := by
  unfold reps1
  rw [List.getD_eq_getElem?_getD, List.getElem?_map, List.getElem?_range h]
  show (List.replicate k r).getD a 0 + upOf rows M a = _
  rw [List.getD_eq_getElem?_getD, List.getElem?_replicate_of_lt h]
  rfl
theorem mem_getD' {l : List Int} {i : Nat} (h : i < l.length) : l.getD i 0 ∈ l := by
  rw [List.getD_eq_getElem?_getD, List.getElem?_eq_getElem h]; exact List.getElem_mem h
theorem falls_at {l : List Int} (hp : l.Pairwise (fun x y => y < x)) {i j : Nat} (hij : i < j) (hj : j < l.length) : l.getD j 0 < l.getD i 0 := by
  have hi : i < l.length := by omega
  rw [List.getD_eq_getElem?_getD, List.getD_eq_getElem?_getD, List.getElem?_eq_getElem hj, List.getElem?_eq_getElem hi]
  exact List.pairwise_iff_getElem.mp hp i j hi hj hij
theorem rel_stable {rows : List (List Int)} {k K kk : Nat} {n M r : Int} (hk : rows.length = k) (hrow : ∀ a, a < k → (rows.getD a []).length = K ∧ (rows.getD a []).Pairwise (fun x y => y < x))
    (hkth : KthOK rows.flatten kk M) (hn : n = k * r + kk) (hkk : kk ≤ K) :
    (reps1 (List.replicate k r) rows M k).sum < n ∧ (fillTo n rows M (reps1 (List.replicate k r) rows M k) k).length = k ∧ (fillTo n rows M (reps1 (List.replicate k r) rows M k) k).sum = n ∧
    ∃ x : Nat → Nat, (∀ a, a < k → (fillTo n rows M (reps1 (List.replicate k r) rows M k) k).getD a 0 = r + x a) ∧ (∀ a, a < k → x a ≤ K) ∧
      ∀ a b, a < k → b < k → a ≠ b → 0 < x a → x b < K ∧ ((rows.getD b []).getD (x b) 0 < (rows.getD a []).getD (x a - 1) 0 ∨ ((rows.getD b []).getD (x b) 0 = (rows.getD a []).getD (x a - 1) 0 ∧ a < b)) := by
  have hlen : (reps1 (List.replicate k r) rows M k).length = k := reps1_len
  have hat : ∀ a, a < k → (reps1 (List.replicate k r) rows M k).getD a 0 = r + cut rows M a := fun a ha => reps1_at ha
  have hs1 : (reps1 (List.replicate k r) rows M k).sum = k * r + sumTo (fun a => (cut rows M a : Int)) k := by
    rw [sum_list_of hlen, sumTo_congr hat, sumTo_add, sumTo_const]
  have hc1 : ((rows.flatten.countP (fun x => decide (M < x)) : Nat) : Int) = sumTo (fun a => (cut rows M a : Int)) k := by
    rw [count_flat hk]
    exact sumTo_congr fun a ha => by rw [List.countP_eq_length_filter]; rfl
  have hc2 : ((rows.flatten.countP (fun x => decide (M ≤ x)) : Nat) : Int) = sumTo (fun a => (cut rows M a : Int)) k + sumTo (fun a => if M ∈ rows.getD a [] then 1 else 0) k := by
    rw [count_flat hk, ← sumTo_add]
    refine sumTo_congr fun a ha => ?_
    rw [(row_cut (hrow a ha).2 M).2.2.2, Int.natCast_add]
    show (cut rows M a : Int) + _ = _
    split <;> rfl
  obtain ⟨k1, k2⟩ := hkth
  have hlt : (reps1 (List.replicate k r) rows M k).sum < n := by rw [hs1]; omega
  refine ⟨hlt, ?_⟩
  obtain ⟨a1, a2, a3, a4, a5, a6⟩ := fill_inv hlt k (by rw [hlen]; exact Nat.le_refl _)
  generalize fillTo n rows M (reps1 (List.replicate k r) rows M k) k = R at a1 a2 a3 a4 a5 a6 ⊢
  generalize reps1 (List.replicate k r) rows M k = R1 at hlen hat hs1 hlt a1 a3 a4 a5 a6
  have hRl : R.length = k := by omega
  have hRs : R.sum = n := by
    refine Int.le_antisymm a2 (Int.not_lt.mp fun h => ?_)
    have := a6 h
    omega
  have hx : ∀ a, a < k → R.getD a 0 = r + ((cut rows M a + (if R.getD a 0 = R1.getD a 0 then 0 else 1) : Nat) : Int) := fun a ha => by
    have e := hat a ha
    rcases a3 a ha with ⟨b1, _⟩ | ⟨b1, _⟩
    · rw [if_pos b1]; omega
    · rw [if_neg (by omega)]; omega
  have hcut := fun a ha => row_cut (hrow a ha).2 M
  have hxK : ∀ a, a < k → cut rows M a + (if R.getD a 0 = R1.getD a 0 then 0 else 1) ≤ K := fun a ha => by
    have h1 := (hrow a ha).1
    have h2 : cut rows M a ≤ (rows.getD a []).length := List.length_filter_le ..
    rcases a3 a ha with ⟨b1, _⟩ | ⟨b1, b2⟩
    · rw [if_pos b1]; omega
    · have := ((hcut a ha).2.2.1 b2).1
      rw [if_neg (by omega)]
      show cut rows M a + 1 ≤ K
      have : cut rows M a < (rows.getD a []).length := this
      omega
  have hsum : sumTo (fun a => ((cut rows M a + (if R.getD a 0 = R1.getD a 0 then 0 else 1) : Nat) : Int)) k = kk := by
    have e := sum_list_of hRl
    rw [sumTo_congr hx, sumTo_add, sumTo_const, hRs] at e
    omega
  refine ⟨hRl, hRs, fun a => cut rows M a + (if R.getD a 0 = R1.getD a 0 then 0 else 1), hx, hxK, fun a b ha hb hab hpos => ?_⟩
  have hbK : cut rows M b + (if R.getD b 0 = R1.getD b 0 then 0 else 1) < K := by
    have := two_le (k := k) (f := fun a => ((cut rows M a + (if R.getD a 0 = R1.getD a 0 then 0 else 1) : Nat) : Int)) (a := a) (b := b) (fun i _ => by omega) ha hb hab
    rw [hsum] at this
    dsimp only at this hpos
    omega
  refine ⟨hbK, ?_⟩
  obtain ⟨p1, p2, p3, _⟩ := hcut a ha
  obtain ⟨q1, q2, q3, _⟩ := hcut b hb
  have hla := (hrow a ha).1
  have hlb := (hrow b hb).1
  dsimp only at hpos ⊢
  rcases a3 a ha with ⟨fa, fa'⟩ | ⟨fa, ea⟩
  · -- a's last seat stands above M
    have ea' : (if R.getD a 0 = R1.getD a 0 then 0 else 1 : Nat) = 0 := if_pos fa
    rw [ea'] at hpos ⊢
    have hgt : M < (rows.getD a []).getD (cut rows M a + 0 - 1) 0 := p1 _ (by show cut rows M a + 0 - 1 < cut rows M a; omega)
    have hle : (rows.getD b []).getD (cut rows M b + (if R.getD b 0 = R1.getD b 0 then 0 else 1)) 0 ≤ M := q2 _ (by show cut rows M b ≤ _; omega) (by omega)
    exact .inl (by omega)
  · -- a was filled
    have ea' : (if R.getD a 0 = R1.getD a 0 then 0 else 1 : Nat) = 1 := if_neg (by omega)
    rw [ea'] at hpos ⊢
    have hM : (rows.getD a []).getD (cut rows M a + 1 - 1) 0 = M := (p3 ea).2
    rw [hM]
    rcases a3 b hb with ⟨fb, fb'⟩ | ⟨fb, eb⟩
    · have eb' : (if R.getD b 0 = R1.getD b 0 then 0 else 1 : Nat) = 0 := if_pos fb
      rw [eb'] at hbK ⊢
      have hle : (rows.getD b []).getD (cut rows M b + 0) 0 ≤ M := q2 _ (by show cut rows M b ≤ _; omega) (by omega)
      rcases Int.lt_or_eq_of_le hle with h | h
      · exact .inl h
      · refine .inr ⟨h, ?_⟩
        have eb : M ∈ rows.getD b [] := by
          rw [← h]
          exact mem_getD' (by omega)
        refine Nat.lt_of_not_le fun hba => ?_
        have := a4 b a hba ha eb fb
        omega
    · have eb' : (if R.getD b 0 = R1.getD b 0 then 0 else 1 : Nat) = 1 := if_neg (by omega)
      rw [eb'] at hbK ⊢
      have hMb := (q3 eb).2
      refine .inl ?_
      have hlt' : (rows.getD b []).getD (cut rows M b + 1) 0 < (rows.getD b []).getD (cut rows M b) 0 := by
        exact falls_at (hrow b hb).2 (by omega) (by omega)
      have hMb' : (rows.getD b []).getD (cut rows M b) 0 = M := hMb
      omega
/-- a fixed common multiple, and the weights' factors by it -/
def gBase (mt : Meth) : Int := comOf ((List.range 9).map mt.pr)
def gOf (mt : Meth) (i : Nat) : Int := if i < 9 then (mt.pr i).2 * gBase mt / (mt.pr i).1 else 0
def gq (mt : Meth) (c i : Nat) : Int := (mt.pr i).2 * comOf ((List.range c).map mt.pr) / (mt.pr i).1
theorem gOf_pos (mt : Meth) : ∀ i, i < 9 → 0 < gOf mt i := by cases mt <;> decide +kernel
theorem gOf_step (mt : Meth) : ∀ i, i < 9 → gOf mt (i + 1) ≤ gOf mt i := by cases mt <;> decide +kernel
theorem gq_ok (mt : Meth) : ∀ c, c < 10 → ∀ i, i < c → (mt.pr i).2 * comOf ((List.range c).map mt.pr) = gq mt c i * (mt.pr i).1 ∧ gq mt c i * gBase mt = gOf mt i * comOf ((List.range c).map mt.pr) := by cases mt <;> decide +kernel
theorem gq_falls (mt : Meth) : ∀ c, c < 10 → ∀ i, i < c → ∀ j, j < c → i < j → gq mt c j < gq mt c i := by cases mt <;> decide +kernel
theorem gBase_pos (mt : Meth) : 0 < gBase mt := by cases mt <;> decide +kernel
theorem gOf_zero (mt : Meth) {i : Nat} (h : 9 ≤ i) : gOf mt i = 0 := if_neg (by omega)
theorem gOf_nonneg (mt : Meth) (i : Nat) : 0 ≤ gOf mt i := by
  by_cases h : i < 9
  · exact Int.le_of_lt (gOf_pos mt i h)
  · rw [gOf_zero mt (by omega)]; exact Int.le_refl _
theorem gOf_anti (mt : Meth) (i : Nat) : ∀ d, gOf mt (i + d) ≤ gOf mt i := fun d => by
  induction d with
  | zero => exact Int.le_refl _
  | succ d ih =>
    refine Int.le_trans ?_ ih
    by_cases h : i + d < 9
    · exact gOf_step mt (i + d) h
    · rw [gOf_zero mt (by omega : 9 ≤ i + (d + 1))]; exact gOf_nonneg mt _
def qOf (sq : Bool) (ns : List Int) (a : Nat) : Int := if sq then ns.getD a 0 * ns.getD a 0 else ns.getD a 0
theorem qOf_pos {sq : Bool} {ns : List Int} {a : Nat} (h : 1 ≤ ns.getD a 0) : 1 ≤ qOf sq ns a := by
  unfold qOf
  split
  · have := Int.mul_le_mul h h (by omega) (by omega); omega
  · exact h
theorem wgt_eq (mt : Meth) {ns : List Int} {a c i : Nat} (hc : c < 10) (hi : i < c) : wgt mt.sq (comOf ((List.range c).map mt.pr)) (ns.getD a 0) (mt.pr i) = qOf mt.sq ns a * gq mt c i := by
  have h := (gq_ok mt c hc i hi).1
  have hp := (meth_pr mt i (by omega)).1
  unfold wgt
  show (qOf mt.sq ns a * (mt.pr i).2 * comOf ((List.range c).map mt.pr)).fdiv (mt.pr i).1 = _
  rw [Int.mul_assoc, h, ← Int.mul_assoc, Int.mul_fdiv_cancel _ (by omega)]
theorem rows_getD {sq : Bool} {ps : List (Int × Int)} {ns : List Int} {a : Nat} (h : a < ns.length) : (rowsOf sq ps ns).getD a [] = ps.map fun d => wgt sq (comOf ps) (ns.getD a 0) d := by
  unfold rowsOf
  rw [List.getD_eq_getElem?_getD, List.getElem?_map, List.getElem?_eq_getElem h, List.getD_eq_getElem?_getD, List.getElem?_eq_getElem h]
  rfl
theorem row_getD (mt : Meth) {ns : List Int} {a c i : Nat} (hc : c < 10) (hi : i < c) : (((List.range c).map mt.pr).map fun d => wgt mt.sq (comOf ((List.range c).map mt.pr)) (ns.getD a 0) d).getD i 0 = qOf mt.sq ns a * gq mt c i := by
  rw [List.getD_eq_getElem?_getD, List.getElem?_map, List.getElem?_map, List.getElem?_range hi]
  exact wgt_eq mt hc hi
theorem cmp_lt {X Y X' Y' C CC : Int} (h1 : 0 < C) (h2 : 0 < CC) (hx : X * CC = X' * C) (hy : Y * CC = Y' * C) (h : X < Y) : X' < Y' := by
  have := Int.mul_lt_mul_of_pos_right h h2
  rw [hx, hy] at this
  exact Int.lt_of_mul_lt_mul_right this (Int.le_of_lt h1)
theorem cmp_eq {X Y X' Y' C CC : Int} (h1 : 0 < C) (hx : X * CC = X' * C) (hy : Y * CC = Y' * C) (h : X = Y) : X' = Y' := by
  rw [h, hy] at hx
  exact (Int.eq_of_mul_eq_mul_right (by omega) hx).symm
/-- what divisor answers is a stable share -/
theorem rel_law {mt : Meth} {ns : List Int} {n : Int} {R : List Int} (h0 : 0 ≤ n) (h9 : n ≤ 9) (hp : ∀ x ∈ ns, 1 ≤ x) (hok : mt.one = true → (ns.length : Int) ≤ n) (h : DivRel mt ns n R) :
    R.length = ns.length ∧ R.sum = n ∧ ∃ x : Nat → Nat, (∀ a, a < ns.length → R.getD a 0 = (if mt.one then 1 else 0) + (x a : Int)) ∧ (∀ a, a < ns.length → x a ≤ 9) ∧ Stable (qOf mt.sq ns) (gOf mt) ns.length x := by
  have hs := r0_sum mt ns.length
  rcases h with ⟨h, rfl⟩ | ⟨hlt, M, hk, h⟩
  · refine ⟨List.length_replicate .., ?_, fun _ => 0, fun a ha => ?_, fun a _ => Nat.zero_le _, fun a b _ _ _ h => absurd h (Nat.lt_irrefl 0)⟩
    · cases ho : mt.one <;> rw [ho] at hs <;> simp only [if_true, if_false, Bool.false_eq_true] at hs
      · omega
      · have := hok ho; omega
    · unfold Meth.r0
      rw [List.getD_eq_getElem?_getD, List.getElem?_replicate_of_lt ha]
      simp
  · obtain ⟨hc9, hcn⟩ := meth_cnt mt h0 h9
    have hcl : ((List.range (mt.cnt n)).map mt.pr).length = mt.cnt n := by rw [List.length_map, List.length_range]
    have hnk : n = (ns.length : Int) * (if mt.one then 1 else 0) + ((n - (mt.r0 ns.length).sum).toNat : Nat) := by
      rw [hs] at hlt ⊢
      cases ho : mt.one <;> simp only [ho, if_true, if_false, Bool.false_eq_true, Int.mul_one, Int.mul_zero] at hlt ⊢ <;> omega
    have hS0 : 0 ≤ (mt.r0 ns.length).sum := by rw [hs]; split <;> omega
    obtain ⟨z1, z2, z3, x, z4, z5, z6⟩ := rel_stable (rows := rowsOf mt.sq ((List.range (mt.cnt n)).map mt.pr) ns) (k := ns.length) (K := mt.cnt n) (kk := (n - (mt.r0 ns.length).sum).toNat) (n := n) (M := M) (r := if mt.one then 1 else 0) (rows_len ..) (fun a ha => by
      rw [rows_getD ha]
      refine ⟨by rw [List.length_map, hcl], List.pairwise_iff_getElem.mpr fun i j hi hj hij => ?_⟩
      rw [List.length_map, hcl] at hi hj
      have hq : 1 ≤ qOf mt.sq ns a := qOf_pos (hp _ (mem_getD' ha))
      have e1 := row_getD mt (ns := ns) (a := a) (by omega : mt.cnt n < 10) hi
      have e2 := row_getD mt (ns := ns) (a := a) (by omega : mt.cnt n < 10) hj
      rw [List.getD_eq_getElem?_getD, List.getElem?_eq_getElem (by rw [List.length_map, hcl]; exact hi)] at e1
      rw [List.getD_eq_getElem?_getD, List.getElem?_eq_getElem (by rw [List.length_map, hcl]; exact hj)] at e2
      have e3 := Int.mul_lt_mul_of_pos_left (gq_falls mt (mt.cnt n) (by omega) i hi j hj hij) (by omega : 0 < qOf mt.sq ns a)
      rw [← e1, ← e2] at e3
      exact e3) hk hnk (by omega)
    have hR : R = fillTo n (rowsOf mt.sq ((List.range (mt.cnt n)).map mt.pr) ns) M (reps1 (mt.r0 ns.length) (rowsOf mt.sq ((List.range (mt.cnt n)).map mt.pr) ns) M ns.length) ns.length := by
      rcases h with ⟨h, _⟩ | ⟨_, h⟩
      · exact absurd z1 h
      · exact h
    rw [hR]
    refine ⟨z2, z3, x, z4, fun a ha => by have := z5 a ha; omega, fun a b ha hb hab hpos => ?_⟩
    obtain ⟨y1, y2⟩ := z6 a b ha hb hab hpos
    have hxa := z5 a ha
    rw [rows_getD ha, rows_getD hb, row_getD mt (by omega) y1, row_getD mt (by omega) (by omega : x a - 1 < mt.cnt n)] at y2
    have hC : 0 < comOf ((List.range (mt.cnt n)).map mt.pr) := by have := (meth_com mt (mt.cnt n) (by omega)).1; omega
    have ex : ∀ (c i : Nat), i < mt.cnt n → qOf mt.sq ns c * gq mt (mt.cnt n) i * gBase mt = qOf mt.sq ns c * gOf mt i * comOf ((List.range (mt.cnt n)).map mt.pr) := fun c i hi => by
      rw [Int.mul_assoc, (gq_ok mt (mt.cnt n) (by omega) i hi).2, ← Int.mul_assoc]
    rcases y2 with y | ⟨y, y'⟩
    · exact .inl (cmp_lt hC (gBase_pos mt) (ex b _ y1) (ex a _ (by omega)) y)
    · exact .inr ⟨cmp_eq hC (ex b _ y1) (ex a _ (by omega)) y, y'⟩
/-- one seat more, nowhere one less -/
def Step (R R' : List Int) : Prop := R'.length = R.length ∧ ∃ a, a < R.length ∧ R'.getD a 0 = R.getD a 0 + 1 ∧ ∀ i, i < R.length → i ≠ a → R'.getD i 0 = R.getD i 0
theorem sum_x {R : List Int} {k : Nat} {r : Int} {x : Nat → Nat} (hl : R.length = k) (hx : ∀ a, a < k → R.getD a 0 = r + (x a : Int)) : R.sum = k * r + sumTo (fun a => (x a : Int)) k := by
  rw [sum_list_of hl, sumTo_congr hx, sumTo_add, sumTo_const]
theorem step_div {mt : Meth} {ns : List Int} {n : Int} {R R' : List Int} (h0 : 0 ≤ n) (h9 : n + 1 ≤ 9) (hp : ∀ x ∈ ns, 1 ≤ x) (hok : mt.one = true → (ns.length : Int) ≤ n) (h : DivRel mt ns n R) (h' : DivRel mt ns (n + 1) R') : Step R R' := by
  obtain ⟨a1, a2, x, a3, a4, a5⟩ := rel_law h0 (by omega) hp hok h
  obtain ⟨b1, b2, x', b3, b4, b5⟩ := rel_law (by omega) h9 hp (fun ho => by have := hok ho; omega) h'
  have ha := sum_x a1 a3
  have hb := sum_x b1 b3
  have hq : ∀ i, i < ns.length → 0 ≤ qOf mt.sq ns i := fun i hi => by have := qOf_pos (sq := mt.sq) (hp _ (mem_getD' hi)); omega
  have hle : ∀ i, i < ns.length → (x i : Int) ≤ x' i := fun i hi => by
    have := exch (K := 9) hi a4 b4 (fun i j hij _ => by have := gOf_anti mt i (j - i); rw [show i + (j - i) = j by omega] at this; exact this) (fun i _ => gOf_nonneg mt i) hq (Int.le_refl _) (fun _ _ _ => rfl) a5 b5 (by omega)
    omega
  obtain ⟨a, c1, c2, c3⟩ := unit_step hle (by omega)
  refine ⟨by omega, a, by omega, by rw [b3 a c1, a3 a c1, c2]; omega, fun i hi hia => ?_⟩
  rw [b3 i (by omega), a3 i (by omega), c3 i (by omega) hia]
theorem vote_div {mt : Meth} {ns ns' : List Int} {n : Int} {p : Nat} {R R' : List Int} (h0 : 0 ≤ n) (h9 : n ≤ 9) (hp : ∀ x ∈ ns, 1 ≤ x) (hp' : ∀ x ∈ ns', 1 ≤ x) (hok : mt.one = true → (ns.length : Int) ≤ n) (hl : ns'.length = ns.length) (hpl : p < ns.length) (hm : ns.getD p 0 ≤ ns'.getD p 0) (hs : ∀ i, i < ns.length → i ≠ p → ns'.getD i 0 = ns.getD i 0)
    (h : DivRel mt ns n R) (h' : DivRel mt ns' n R') : R.getD p 0 ≤ R'.getD p 0 := by
  obtain ⟨a1, a2, x, a3, a4, a5⟩ := rel_law h0 h9 hp hok h
  obtain ⟨b1, b2, x', b3, b4, b5⟩ := rel_law h0 h9 hp' (fun ho => by have := hok ho; omega) h'
  rw [hl] at b1 b3 b4 b5
  have ha := sum_x a1 a3
  have hb := sum_x b1 b3
  have hq : ∀ i, i < ns.length → 0 ≤ qOf mt.sq ns i := fun i hi => by have := qOf_pos (sq := mt.sq) (hp _ (mem_getD' hi)); omega
  have hpp : 1 ≤ ns.getD p 0 := hp _ (mem_getD' hpl)
  have := exch (K := 9) (q' := qOf mt.sq ns') hpl a4 b4 (fun i j hij _ => by have := gOf_anti mt i (j - i); rw [show i + (j - i) = j by omega] at this; exact this) (fun i _ => gOf_nonneg mt i) hq (by
    unfold qOf
    split
    · exact Int.mul_le_mul hm hm (by omega) (by omega)
    · exact hm) (fun i hi hip => by unfold qOf; rw [hs i hi hip]) a5 b5 (by omega)
  rw [a3 p hpl, b3 p hpl]
  omega
theorem unit_sorted {n' D : List Int} {a : Nat} (p : n'.Perm D) (o : n'.Pairwise (· ≤ ·)) (ha : a < D.length) (h1 : D.getD a 0 = 1) (h0 : ∀ i, i < D.length → i ≠ a → D.getD i 0 = 0) : n' = List.replicate (D.length - 1) 0 ++ [1] := by
  have e1 : D.take a = List.replicate a 0 := List.eq_replicate_iff.mpr ⟨by rw [List.length_take]; omega, fun b hb => by
    obtain ⟨i, hi, rfl⟩ := List.mem_iff_getElem.mp hb
    rw [List.length_take] at hi
    have := h0 i (by omega) (by omega)
    rw [List.getD_eq_getElem?_getD, List.getElem?_eq_getElem (by omega)] at this
    rw [List.getElem_take]; exact this⟩
  have e2 : D.drop (a + 1) = List.replicate (D.length - 1 - a) 0 := List.eq_replicate_iff.mpr ⟨by rw [List.length_drop]; omega, fun b hb => by
    obtain ⟨i, hi, rfl⟩ := List.mem_iff_getElem.mp hb
    rw [List.length_drop] at hi
    have := h0 (a + 1 + i) (by omega) (by omega)
    rw [List.getD_eq_getElem?_getD, List.getElem?_eq_getElem (by omega)] at this
    rw [List.getElem_drop]; exact this⟩
  have e3 : D = List.replicate a 0 ++ 1 :: List.replicate (D.length - 1 - a) 0 := by
    have e4 : D[a] = 1 := by
      rw [List.getD_eq_getElem?_getD, List.getElem?_eq_getElem ha] at h1; exact h1
    rw [← e1, ← e2, ← e4, List.getElem_cons_drop, List.take_append_drop]
  have e5 : D.Perm (List.replicate (D.length - 1) 0 ++ [1]) := by
    have q : List.replicate a (0 : Int) ++ List.replicate (D.length - 1 - a) 0 = List.replicate (D.length - 1) 0 := by
      rw [List.replicate_append_replicate, show a + (D.length - 1 - a) = D.length - 1 by omega]
    have q2 := List.perm_middle (a := (1 : Int)) (l₁ := List.replicate a 0) (l₂ := List.replicate (D.length - 1 - a) 0)
    rw [q, ← e3] at q2
    exact q2.trans (List.perm_append_singleton 1 _).symm
  refine List.Perm.eq_of_pairwise (fun _ _ _ _ a b => Int.le_antisymm a b) o ?_ (p.trans e5)
  refine List.pairwise_append.mpr ⟨List.pairwise_replicate.mpr (.inr (Int.le_refl _)), List.pairwise_singleton .., fun x hx y hy => ?_⟩
  rw [(List.mem_replicate.mp hx).2, List.mem_singleton.mp hy]; decide
end Mine
end

section
open PySem PySem.W PyProof.Rows
namespace Mine
local macro_rules | `(tactic| walk_at "enterN") => `(tactic| k_dflt (refine' enterN ?k1 ?k2 ?k3 ?k5 ?kA ?kF ?kK ?k6 ?k7 ?k8 ?k9 ?kB ?_ ?c2 ?c3 ?c4 ?c5; (case kA => exact rfl); (case kF => exact rfl); (case kK => first | exact rfl | assumption); (case k1 => k_asm); (case k2 => k_asm); (case k3 => k_asm); (case k5 => k_asm); (case k6 => k_is); (case k7 => k_is); (case k8 => ktr_room); (case k9 => first | exact BindsTo.of_eq rfl | exact binds_K (by k_in) rfl (by k_is) rfl rfl rfl); (case c5 => decide); (case kB => exact locs rfl); (case c2 => exact rfl); (case c3 => exact rfl); (case c4 => exact rfl); k_whole; intro L' h' F' N' B' X' T'; (try dsimp only); (try k_fold)))
local macro_rules | `(tactic| walk_at "call ref") => `(tactic| (k_here; k_dflt (
  refine' quota_ok _ _ _ _ _ _ _ _ _ 0 ?h0 ?h4 ?hi ?hl1 ?hl4 ?hp _ _ _ _ _ _ _ _ _ _ _ _ _ _ _ _ _ ?k1 ?k2 ?k3 ?k5 ?k6 ?kd ?ku ?kp ?_;
  (case k1 => k_asm); (case k2 => k_asm); (case k3 => k_asm); (case k5 => k_asm); (case k6 => first | exact rfl | assumption);
  (case kd => ktr_room); (case ku => ktr_units); (case kp => is_list);
  (case hi => assumption); (case h0 => assumption); (case h4 => assumption); (case hl1 => assumption); (case hl4 => assumption); (case hp => assumption);
  k_whole; intro v9 h9 tk9 K9 P9; obtain ⟨D9, ys9, hv9, hD9, ⟨nn9, hE9⟩, hI9⟩ := P9; subst hv9; (have FN9 := fresh_news (by k_asm) (by k_asm) K9 hD9 hE9); obtain ⟨F9, N9, ne9⟩ := FN9; clear ne9 K9 hD9 hE9; (try dsimp only); (try k_fold))))
local macro_rules | `(tactic| walk_at "call ref") => `(tactic| (k_here; k_dflt (
  refine' div_ok _ _ _ _ _ _ _ _ _ _ ?h0 ?h4 ?hi ?hl1 ?hl4 ?hp _ _ ?hm ?ho _ _ _ _ _ _ _ _ _ _ _ _ _ _ _ _ _ ?k1 ?k2 ?k3 ?k5 ?k6 ?kd ?ku ?kp ?_;
  (case k1 => k_asm); (case k2 => k_asm); (case k3 => k_asm); (case k5 => k_asm); (case k6 => first | exact rfl | assumption);
  (case kd => ktr_room); (case ku => ktr_units); (case kp => is_list);
  (case hi => assumption); (case h0 => assumption); (case h4 => assumption); (case hl1 => assumption); (case hl4 => assumption); (case hp => assumption); (case hm => assumption); (case ho => assumption);
  k_whole; intro v9 h9 tk9 K9 P9; obtain ⟨D9, ys9, R9, hv9, hD9, ⟨nn9, hE9⟩, hI9, hR9⟩ := P9; subst hv9; (have FN9 := fresh_news (by k_asm) (by k_asm) K9 hD9 hE9); obtain ⟨F9, N9, ne9⟩ := FN9; clear ne9 K9 hD9 hE9; (try dsimp only); (try k_fold))))

set_option maxRecDepth 100000 in
set_option maxHeartbeats 40000000 in
theorem toldq_ok (w : World) (mean : ExcName → Option Value) (mg mb : Str → Option Value) (l : Addr) (vs : List Value) (ns : List Int) (n : Int) (tkn tkm : Tok) (h0 : 0 ≤ n) (h4 : n ≤ 9)
    (hi : IntsAre vs ns) (hl1 : 1 ≤ ns.length) (hl4 : ns.length ≤ 4) (hp : ∀ x ∈ ns, 1 ≤ x ∧ x ≤ 3 * 10 ^ 12) :
    Contract w mean mg mb 65 2 [.str (Str.ofString "quota") tkm, .ref l, .int n tkn] (fun h => h.IsList l vs.toArray)
      (fun h h' v => ∃ (D : Addr) (ys : List Value), v = .ref D ∧ h.get? D = none ∧ (∃ nn, h'.get? D = some (listOf ys.toArray nn)) ∧ IntsAre ys (qIter ns n.toNat)) := by
  intro dp un gd cn cs a ccd cl outer A₀ base h₀ L m s Q E B F X T hk hdp hu hl hret
  have hX : PySem.Challenge.rw_ab5005_01 = PySem.Challenge.rw_ab5005_01 ∧ hd.heap_39 w.params = hd.heap_39 w.params := by
    k_fill
    exact ⟨rfl, rfl⟩
  walk_at "enterN"
  clear F X T B hX
  all_goals k_steps
  (rename Fr _ _ _ _ => F17)
  (rename News _ _ _ _ => N17)
  (rename IntsAre _ (qIter _ _) => I17)
  exact hret _ _ _ (Fr.keep F17) ⟨_, _, rfl, (N17 _ (.head _)).2.2, ⟨_, (N17 _ (.head _)).1⟩, I17⟩

set_option maxRecDepth 100000 in
set_option maxHeartbeats 40000000 in
theorem toldd_ok (w : World) (mean : ExcName → Option Value) (mg mb : Str → Option Value) (l : Addr) (vs : List Value) (ns : List Int) (n : Int) (tkn tkm : Tok) (h0 : 0 ≤ n) (h4 : n ≤ 9)
    (hi : IntsAre vs ns) (hl1 : 1 ≤ ns.length) (hl4 : ns.length ≤ 4) (hp : ∀ x ∈ ns, 1 ≤ x ∧ x ≤ 3 * 10 ^ 12) (mt : Meth) (mth : Str) (hmth : mth = mt.name) (hok : mt.one = true → (ns.length : Int) ≤ n) :
    Contract w mean mg mb 65 2 [.str mth tkm, .ref l, .int n tkn] (fun h => h.IsList l vs.toArray)
      (fun h h' v => ∃ (D : Addr) (ys : List Value) (R : List Int), v = .ref D ∧ h.get? D = none ∧ (∃ nn, h'.get? D = some (listOf ys.toArray nn)) ∧ IntsAre ys R ∧ DivRel mt ns n R) := by
  intro dp un gd cn cs a ccd cl outer A₀ base h₀ L m s Q E B F X T hk hdp hu hl hret
  have hX : PySem.Challenge.rw_ab5005_01 = PySem.Challenge.rw_ab5005_01 ∧ hd.heap_39 w.params = hd.heap_39 w.params := by
    k_fill
    exact ⟨rfl, rfl⟩
  have hne : mth ≠ Str.ofString "quota" := by rw [hmth]; cases mt <;> decide
  walk_at "enterN"
  clear F X T B hX
  all_goals k_steps
  · (rename (_ == _) = true => hq)
    exact absurd (eq_of_beq hq) hne
  (rename Fr _ _ _ _ => F17)
  (rename News _ _ _ _ => N17)
  (rename IntsAre _ _ => I17)
  (rename DivRel _ _ _ _ => R17)
  exact hret _ _ _ (Fr.keep F17) ⟨_, _, _, rfl, (N17 _ (.head _)).2.2, ⟨_, (N17 _ (.head _)).1⟩, I17, R17⟩
end Mine
end

section
open PySem PySem.W PyProof.Rows
namespace Mine
/-- the law's three methods: a divisor method, or the quota method -/
def nmName : Option Meth → Str
  | none => Str.ofString "quota"
  | some mt => mt.name
def nmOne : Option Meth → Bool
  | none => false
  | some mt => mt.one
def nmRel : Option Meth → List Int → Int → List Int → Prop
  | none => fun ns n R => R = qIter ns n.toNat
  | some mt => fun ns n R => DivRel mt ns n R
theorem told_ok (w : World) (mean : ExcName → Option Value) (mg mb : Str → Option Value) (l : Addr) (vs : List Value) (ns : List Int) (n : Int) (tkn tkm : Tok) (h0 : 0 ≤ n) (h4 : n ≤ 9)
    (hi : IntsAre vs ns) (hl1 : 1 ≤ ns.length) (hl4 : ns.length ≤ 4) (hp : ∀ x ∈ ns, 1 ≤ x ∧ x ≤ 3 * 10 ^ 12) (nm : Option Meth) (hok : nmOne nm = true → (ns.length : Int) ≤ n) :
    Contract w mean mg mb 65 2 [.str (nmName nm) tkm, .ref l, .int n tkn] (fun h => h.IsList l vs.toArray)
      (fun h h' v => ∃ (D : Addr) (ys : List Value) (R : List Int), v = .ref D ∧ h.get? D = none ∧ (∃ nn, h'.get? D = some (listOf ys.toArray nn)) ∧ IntsAre ys R ∧ nmRel nm ns n R) := by
  cases nm with
  | none =>
    intro dp un gd cn cs a ccd cl outer A₀ base h₀ L m s Q E B F X T hk hdp hu hl hret
    refine toldq_ok w mean mg mb l vs ns n tkn tkm h0 h4 hi hl1 hl4 hp dp un gd cn cs a ccd cl outer A₀ base h₀ L m s Q E B F X T hk hdp hu hl fun v h' tk' K P => hret v h' tk' K ?_
    obtain ⟨D, ys, e1, e2, e3, e4⟩ := P
    exact ⟨D, ys, _, e1, e2, e3, e4, rfl⟩
  | some mt => exact toldd_ok w mean mg mb l vs ns n tkn tkm h0 h4 hi hl1 hl4 hp mt _ rfl hok
theorem step_quota {ns : List Int} (h1 : 1 ≤ ns.length) (j : Nat) : Step (qIter ns j) (qIter ns (j + 1)) := by
  have hl := (qIter_ok h1 j).1
  have hb := qidx_bnd (R := qIter ns j) h1
  show Step (qIter ns j) (qstep ns (qIter ns j))
  unfold qstep
  refine ⟨List.length_set .., (qidx ns (qIter ns j)).toNat, by omega, getD_set_self (by omega), fun i _ hi => getD_set_ne (Ne.symm hi)⟩
theorem nm_facts {nm : Option Meth} {ns : List Int} {n : Int} {R : List Int} (h0 : 0 ≤ n) (h9 : n ≤ 9) (h1 : 1 ≤ ns.length) (hp : ∀ x ∈ ns, 1 ≤ x) (hok : nmOne nm = true → (ns.length : Int) ≤ n) (h : nmRel nm ns n R) : R.length = ns.length ∧ R.sum = n := by
  cases nm with
  | none =>
    have e : R = qIter ns n.toNat := h
    obtain ⟨a, _, c⟩ := qIter_ok h1 n.toNat
    rw [e]; exact ⟨a, by omega⟩
  | some mt =>
    obtain ⟨a, b, _⟩ := rel_law h0 h9 hp hok h
    exact ⟨a, b⟩
theorem nm_step {nm : Option Meth} {ns : List Int} {n : Int} {R R' : List Int} (h0 : 0 ≤ n) (h9 : n + 1 ≤ 9) (h1 : 1 ≤ ns.length) (hp : ∀ x ∈ ns, 1 ≤ x) (hok : nmOne nm = true → (ns.length : Int) ≤ n) (h : nmRel nm ns n R) (h' : nmRel nm ns (n + 1) R') : Step R R' := by
  cases nm with
  | none =>
    have e : R = qIter ns n.toNat := h
    have e' : R' = qIter ns (n + 1).toNat := h'
    rw [e, e', show (n + 1).toNat = n.toNat + 1 by omega]
    exact step_quota h1 _
  | some mt => exact step_div h0 h9 hp hok h h'
/-- the differences, sorted -/
theorem step_sorted {R R' D n' : List Int} {k : Nat} (hl : R.length = k) (s : Step R R') (hD : D = (List.range k).map fun i => R'.getD i 0 - R.getD i 0) (p : n'.Perm D) (o : n'.Pairwise (· ≤ ·)) : n' = List.replicate (k - 1) 0 ++ [1] := by
  obtain ⟨e, a, ha, h1, h2⟩ := s
  have hDl : D.length = k := by rw [hD, List.length_map, List.length_range]
  have hat : ∀ i, i < k → D.getD i 0 = R'.getD i 0 - R.getD i 0 := fun i hi => by
    rw [hD, List.getD_eq_getElem?_getD, List.getElem?_map, List.getElem?_range hi]; rfl
  have := unit_sorted (a := a) p o (by omega) (by rw [hat a (by omega), h1]; omega) (fun i hi hia => by rw [hat i (by omega), h2 i (by omega) hia]; omega)
  rw [this, hDl]
end Mine
end

section
open PySem PySem.W PyProof.Rows
namespace Mine
theorem par_ge {x : Int} : 1 ≤ 1 + x.fmod 4 := by have := Int.fmod_nonneg_of_pos x (b := 4) (by decide); omega
theorem par_le {x : Int} : 1 + x.fmod 4 ≤ 4 := by have := Int.fmod_lt_of_pos x (b := 4) (by decide); omega
local macro_rules | `(tactic| walk_at "exec If") => `(tactic| refine hold ?_)
local macro_rules | `(tactic| walk_at "exec For Name List cons nil") => `(tactic| refine for_at ?_ (by intro _; with_unfolding_all rfl))
local macro_rules | `(tactic| walk_at "exec For Name Call cons nil") => `(tactic| refine for_at ?_ (by intro _; with_unfolding_all rfl))
local macro_rules | `(tactic| walk_at "pyIter ref") => `(tactic| refine hold ?_)
local macro_rules | `(tactic| walk_at "eval ListComp BinOp") => `(tactic| (k_dflt (refine comp_at (by with_unfolding_all rfl) (by rfl) (by decide) (by rfl) (fun _ => rfl) (fun _ => rfl) ?_)))
local macro_rules | `(tactic| walk_at "call ref") => `(tactic| (k_here; k_dflt (
  refine' cell_ok _ _ _ _ _ _ _ _ _ ?h0 ?hi ?hf _ _ _ _ _ _ _ _ _ _ _ _ _ _ _ _ _ ?k1 ?k2 ?k3 ?k5 ?k6 ?kd ?ku ?kp ?_;
  (case k1 => k_asm); (case k2 => k_asm); (case k3 => k_asm); (case k5 => k_asm); (case k6 => first | exact rfl | assumption);
  (case kd => ktr_room); (case ku => ktr_units); (case kp => is_list); (case hi => assumption);
  (case h0 => first | decide | omega | l_idx);  (case hf => l_fit);
  k_whole; intro v9 h9 tk9 K9 P9; obtain ⟨t9, hv9⟩ := P9; subst hv9; (have F9 := Fr.keeps (by k_asm) K9); (have N9 := News.grown (by k_asm) K9); clear K9; (try dsimp only); (try k_fold))))
local macro_rules | `(tactic| walk_at "call ref") => `(tactic| ((with_reducible show wpAny _ _ (call _ [Value.ref _, Value.int _ _, Value.int _ _]) _ _ _); refine hold ?_))
theorem item_ways {prog : Program} {w : World} {A : Around} {E : Value → Shared → Prop} {s : Shared} {g : Heap} {L l : Addr} {news : List (Addr × Obj)} {t0 t1 t2 t3 t4 t5 : Tok} {x : Int} {u : Tok} {value slice : PySem.Expr} {Q : Value → Shared → Prop} {nn : Nat}
    (N : News g L s.heap news) (hm : (l, listOf [Value.str (Str.ofString "dhondt") t0, Value.str (Str.ofString "saintelague") t1, Value.str (Str.ofString "modified_saintelague") t2, Value.str (Str.ofString "adams") t3, Value.str (Str.ofString "dean") t4, Value.str (Str.ofString "huntington") t5].toArray nn) ∈ news)
    (h : ∀ (mt : Meth) (t : Tok), Q (.str (nmName (some mt)) t) s)
    (hs : subscripted slice false (.ref l) (.int (x.fmod 6) u) = operate [.ref l, .int (x.fmod 6) u] (getItem (.ref l) (.int (x.fmod 6) u)) := by with_unfolding_all rfl) :
    wpAny (model prog w) A (subscriptTail value slice (.ref l) (.int (x.fmod 6) u)) Q E s := by
  have a := Int.fmod_nonneg_of_pos x (b := 6) (by decide)
  have b := Int.fmod_lt_of_pos x (b := 6) (by decide)
  generalize x.fmod 6 = k at a b hs ⊢
  have c : k = 0 ∨ k = 1 ∨ k = 2 ∨ k = 3 ∨ k = 4 ∨ k = 5 := by omega
  rcases c with rfl | rfl | rfl | rfl | rfl | rfl
  · exact item_any (j := 0) N hm rfl rfl (by decide) (h .dh t0) hs
  · exact item_any (j := 1) N hm rfl rfl (by decide) (h .sl t1) hs
  · exact item_any (j := 2) N hm rfl rfl (by decide) (h .ms t2) hs
  · exact item_any (j := 3) N hm rfl rfl (by decide) (h .ad t3) hs
  · exact item_any (j := 4) N hm rfl rfl (by decide) (h .de t4) hs
  · exact item_any (j := 5) N hm rfl rfl (by decide) (h .hu t5) hs
local macro_rules | `(tactic| walk_at "subscriptTail Name BinOp ref int") => `(tactic| (k_here; k_dflt (refine' item_ways ?N ?m ?_; (case N => k_asm); (case m => k_mem); k_whole); intro mtI tI))
/-- the law's frame -/
def LN (l0 DV : Nat) (P PL FI : Int) (tp tq tf : Tok) (m : Str → Option Value) : Prop :=
  m (Str.ofString "script") = some (.ref l0) ∧ m (Str.ofString "parties") = some (.int P tp) ∧ m (Str.ofString "votes") = some (.ref DV) ∧ m (Str.ofString "place") = some (.int PL tq) ∧ m (Str.ofString "first") = some (.int FI tf)
/-- between two names -/
def PN (l0 DV DL : Nat) (L : Nat) (P PL FI : Int) (tp tq tf : Tok) (oDV oDL : Obj) (i : Nat) (m : Str → Option Value) (news : List (Addr × Obj)) : Prop :=
  LN l0 DV P PL FI tp tq tf m ∧ ∃ (oB oT : Obj) (u v : Option Value), oB.data = .cell u ∧ oT.data = .cell v ∧ news = [(DL, oDL), (DV, oDV), (L + 1 + 1, oT), (L + 1, oB)]
/-- behind the choice of the start -/
def StSeam (g : Heap) (L l0 DV : Nat) (P PL FI : Int) (tp tq tf : Tok) (nm : Option Meth) (tn : Tok) (k : Nat) (news : List (Addr × Obj)) (s₀ : Shared) (fl : Flow) (s' : Shared) : Prop :=
  fl = .next ∧ ∃ (h' : Heap) (tk' : Nat) (m : Str → Option Value) (st : Int) (ts : Tok), s' = { s₀ with heap := h', toks := tk' } ∧ Fr g L h' m ∧ LN l0 DV P PL FI tp tq tf m ∧ m (Str.ofString "name") = some (.str (nmName nm) tn) ∧ m (Str.ofString "start") = some (.int st ts) ∧
    0 ≤ st ∧ st ≤ 4 ∧ (nmOne nm = true → (k : Int) ≤ st) ∧ News g L h' news
theorem fr_seven {g h : Heap} {L : Addr} {m : Str → Option Value} {x1 x2 x3 x4 x5 x6 x7 : Str} {v1 v2 v3 v4 v5 v6 v7 : Value} (F : Fr g L h m) (e1 : m x1 = some v1) (e2 : m x2 = some v2) (e3 : m x3 = some v3) (e4 : m x4 = some v4) (e5 : m x5 = some v5) (e6 : m x6 = some v6) (e7 : m x7 = some v7) :
    Fr g L h (fun y => if y = x1 then some v1 else if y = x2 then some v2 else if y = x3 then some v3 else if y = x4 then some v4 else if y = x5 then some v5 else if y = x6 then some v6 else if y = x7 then some v7 else m y) := by
  have q : (fun y => if y = x1 then some v1 else if y = x2 then some v2 else if y = x3 then some v3 else if y = x4 then some v4 else if y = x5 then some v5 else if y = x6 then some v6 else if y = x7 then some v7 else m y) = m := by
    funext y
    by_cases c1 : y = x1
    · rw [if_pos c1, c1, e1]
    rw [if_neg c1]
    by_cases c2 : y = x2
    · rw [if_pos c2, c2, e2]
    rw [if_neg c2]
    by_cases c3 : y = x3
    · rw [if_pos c3, c3, e3]
    rw [if_neg c3]
    by_cases c4 : y = x4
    · rw [if_pos c4, c4, e4]
    rw [if_neg c4]
    by_cases c5 : y = x5
    · rw [if_pos c5, c5, e5]
    rw [if_neg c5]
    by_cases c6 : y = x6
    · rw [if_pos c6, c6, e6]
    rw [if_neg c6]
    by_cases c7 : y = x7
    · rw [if_pos c7, c7, e7]
    rw [if_neg c7]
  rw [q]; exact F
theorem off1_of {D : Addr} {news : List (Addr × Obj)} (h : ∀ p ∈ news, p.1 ≠ D) : LCg.Off1 D news := by
  induction news with
  | nil => trivial
  | cons p r ih => exact ⟨h p (.head _), ih fun x hx => h x (.tail _ hx)⟩
theorem led_list {g h : Heap} {L l : Addr} {news : List (Addr × Obj)} {vs : List Value} {nn : Nat} (N : News g L h news) (hm : (l, listOf vs.toArray nn) ∈ news) : h.IsList l vs.toArray := ⟨_, (N _ hm).1, rfl, _, rfl⟩
local macro_rules | `(tactic| walk_at "call ref") => `(tactic| (k_here; (with_reducible show wpAny _ _ (call _ [Value.str _ _, Value.ref _, Value.int _ _]) _ _ _); k_dflt (
  refine' told_ok _ _ _ _ _ _ _ _ _ _ ?h0 ?h4 ?hi ?hl1 ?hl4 ?hp _ ?ho _ _ _ _ _ _ _ _ _ _ _ _ _ _ _ _ _ ?k1 ?k2 ?k3 ?k5 ?k6 ?kd ?ku ?kp ?_;
  (case k1 => k_asm); (case k2 => k_asm); (case k3 => k_asm); (case k5 => k_asm); (case k6 => first | exact rfl | assumption);
  (case kd => ktr_room); (case ku => ktr_units); (case kp => exact led_list (by k_asm) (by k_mem));
  (case hi => assumption); (case h0 => omega); (case h4 => omega); (case hl1 => assumption); (case hl4 => assumption); (case hp => assumption); (case ho => first | assumption | (intro ho9; (rename (nmOne _ = true → _) => hoK); have := hoK ho9; omega));
  k_whole; intro v9 h9 tk9 K9 P9; obtain ⟨D9, ys9, R9, hv9, hD9, ⟨nn9, hE9⟩, hI9, hR9⟩ := P9; subst hv9; (have FN9 := fresh_news (by k_asm) (by k_asm) K9 hD9 hE9); obtain ⟨F9, N9, ne9⟩ := FN9; clear K9 hD9 hE9; (have ne8 := off1_of ne9); (simp only [LCg.Off1, and_true] at ne8); clear ne9; (try dsimp only); (try k_fold))))
theorem drop2 {g h : Heap} {L : Addr} {x y z t b : Addr × Obj} (N : News g L h [x, y, z, t, b]) : News g L h [x, z, t, b] := fun p hp => N p (by
  simp only [List.mem_cons, List.not_mem_nil, or_false] at hp ⊢
  rcases hp with h | h | h | h <;> simp only [h, true_or, or_true])
theorem item_nm {a b : Meth} {ta tb tc : Tok} {i : Nat} {v : Value} (h : [Value.str (nmName (some a)) ta, Value.str (nmName (some b)) tb, Value.str (Str.ofString "quota") tc][i]? = some v) : ∃ nm t, v = .str (nmName nm) t := by
  match i, h with
  | 0, h => exact ⟨some a, ta, (Option.some.inj h).symm⟩
  | 1, h => exact ⟨some b, tb, (Option.some.inj h).symm⟩
  | 2, h => exact ⟨none, tc, (Option.some.inj h).symm⟩
  | i + 3, h => simp at h
/-- between two houses -/
def PI (l0 DV DL I L : Nat) (P PL FI st : Int) (tp tq tf tn ts : Tok) (nm : Option Meth) (ns : List Int) (oDV oDL oI : Obj) (i : Nat) (m : Str → Option Value) (news : List (Addr × Obj)) : Prop :=
  LN l0 DV P PL FI tp tq tf m ∧ m (Str.ofString "name") = some (.str (nmName nm) tn) ∧ m (Str.ofString "start") = some (.int st ts) ∧
  ∃ (DB : Nat) (ysB : List Value) (nnB : Nat) (R : List Int) (oB oT : Obj) (v : Option Value), oB.data = .cell (some (.ref DB)) ∧ oT.data = .cell v ∧ IntsAre ysB R ∧ nmRel nm ns (st + (i : Int)) R ∧ (L + 1 ≠ DB ∧ L + 1 + 1 ≠ DB) ∧
    news = [(DB, listOf ysB.toArray nnB), (I, oI), (DL, oDL), (DV, oDV), (L + 1 + 1, oT), (L + 1, oB)]
local macro_rules | `(tactic| walk_at "subscriptTail Name Name ref int") => `(tactic| (k_here; k_dflt (first
  | (refine' item_int ?N ?m ?i ?j ?k ?c ?_; (case N => k_asm); (case m => k_mem); (case i => assumption); (case j => assumption); (case k => omega); (case c => omega); k_whole; intro tI)
  | (refine' item_any ?N ?m ?e ?k ?c ?_; (case N => k_asm); (case m => k_mem); (case e => assumption); (case k => omega); (case c => omega); k_whole))))
theorem range_snoc {f : Nat → Int} {i : Nat} {zs : List Value} {x : Int} {t : Tok} (h : IntsAre zs ((List.range i).map f)) (q : x = f i) : IntsAre (zs ++ [.int x t]) ((List.range (i + 1)).map f) := by
  rw [List.range_succ, List.map_append, List.map_singleton, ← q]
  exact IntsAre.append h (.cons _ _ .nil)
theorem pick14 {g h : Heap} {L : Addr} {x1 x2 x3 x4 x5 x6 t i b o l v c2 c1 : Addr × Obj} (N : News g L h [x1, x2, x3, x4, x5, x6, t, i, b, o, l, v, c2, c1]) : News g L h [i, t, o, l, v, c2, c1] := fun p hp => N p (by
  simp only [List.mem_cons, List.not_mem_nil, or_false] at hp ⊢
  rcases hp with h | h | h | h | h | h | h <;> simp only [h, true_or, or_true])
local macro_rules | `(tactic| mul_fits) => `(tactic| exact IntMulOk.of_right (intBits_le_64 (by omega) (by omega)))
local macro_rules | `(tactic| mul_fits) => `(tactic| exact IntMulOk.of_left (intBits_le_64 (by omega) (by omega)))
local macro_rules | `(tactic| walk_at "getItem ref int") => `(tactic| (k_here; k_dflt (refine' get_J ?N ?m ?i ?j ?k ?c ?_; (case N => k_asm); (case m => k_mem); (case i => assumption); (case j => assumption); (case k => omega); (case c => omega); k_whole); intro tI))
local macro_rules | `(tactic| walk_at "setItem ref int int") => `(tactic| (k_here; k_dflt (refine' set_J ?F ?N ?U ?i ?j ?k ?c ?_; (case F => k_asm); (case N => k_asm); (case i => assumption); (case j => assumption); (case U => k_upd); (case k => omega); (case c => omega); k_whole); intro h' F' N' hi'))
local macro_rules | `(tactic| walk_at "call ref") => `(tactic| ((with_reducible show wpAny _ _ (call _ [Value.ref _, Value.int _ _, Value.str _ _]) _ _ _); refine hold ?_))
local macro_rules | `(tactic| walk_at "subscriptTail Call Name ref int") => `(tactic| (k_here; k_dflt (refine' item_int ?N ?m ?i ?j ?k ?c ?_; (case N => k_asm); (case m => k_mem); (case i => assumption); (case j => assumption); (case k => omega); (case c => omega); k_whole; intro tI)))
set_option maxRecDepth 100000 in
set_option maxHeartbeats 40000000 in
theorem law_ok : PySem.Challenge.rw_ab5005_01.Holds := hd (by
  k_go0
  all_goals (try k_fold)
  all_goals k_steps
  unfold Held
  (rename IntsAre _ _ => hI0)
  (rename Fr _ _ _ _ => F1)
  (rename News _ _ _ _ => N1)
  generalize hP : 1 + (cellV _ 0).fmod 4 = P at F1 ⊢
  have hP1 : 1 ≤ P := hP ▸ par_ge
  have hP4 : P ≤ 4 := hP ▸ par_le
  rename_i W s0 s1 mg mb G Y fa oF pmF docF ho hg KX Xm V GL T Bt TE TW wa wo M wcd w8 hcd ns0 hs hlay hLy hr1 hl2 w6 w5 l0 vs0 w2 hL0 ra w1 r0 hr hc1 hc2 K0 hD h1 tk1 oT oB hcB hcT X0 hH
  k_dflt (refine' votes_ok _ _ _ _ _ _ _ _ _ _ ?h0 ?h4 ?hi ?hf _ _ _ _ _ _ _ _ _ _ _ _ _ _ _ _ _ ?k1 ?k2 ?k3 ?k5 ?k6 ?kd ?ku ?kp ?_; (case k1 => k_asm); (case k2 => k_asm); (case k3 => k_asm); (case k5 => k_asm); (case k6 => first | exact rfl | assumption); (case kd => ktr_room); (case ku => ktr_units); (case kp => is_list); (case h0 => exact hP1); (case h4 => exact hP4); (case hi => exact hI0); (case hf => omega))
  intro v9 h9 tk9 K9 P9
  obtain ⟨DV, ysV, ns, rfl, hDV, hEV, hIV, hlV, hbV⟩ := P9
  obtain ⟨F2, N2, neV⟩ := fresh_news (o := listOf ysV.toArray ysV.length) F1 N1 K9 hDV hEV
  have hDc : @Ne Nat (s1.heap.objs.size + 1) DV ∧ @Ne Nat (s1.heap.objs.size + 1 + 1) DV := ⟨neV _ (.tail _ (.head _)), neV _ (.head _)⟩
  clear F1 N1 neV K9 hDV hEV
  dsimp only
  all_goals k_steps
  unfold Held
  (rename Fr _ _ _ _ => F3)
  (rename News _ _ _ _ => N3)
  rename_i mtA tA mtB tB DL hh3 l1L
  have hc1' := Int.fmod_nonneg_of_pos ((cellV ns0 1).fdiv 4) (b := P) (by omega)
  have hc2' := Int.fmod_lt_of_pos ((cellV ns0 1).fdiv 4) (b := P) (by omega)
  generalize ((cellV ns0 1).fdiv 4).fmod P = PL at F3 hc1' hc2'
  generalize cellV ns0 2 = FI at F3
  obtain ⟨tp, tq, tf, m3, F4, hLN⟩ : ∃ tp tq tf m, Fr s1.heap s1.heap.objs.size hh3 m ∧ LN l0 DV P PL FI tp tq tf m := ⟨_, _, _, _, F3, rfl, rfl, rfl, rfl, rfl⟩
  have N4 := drop2 N3
  clear F3 N3
  have hl1 : 1 ≤ ns.length := by omega
  have hl4 : ns.length ≤ 4 := by omega
  have hp : ∀ x ∈ ns, 1 ≤ x ∧ x ≤ 3 * 10 ^ 12 := fun x hx => by have := hbV x hx; omega
  have hcB' : oT.data = .cell none := hcB
  have hcT' : oB.data = .cell none := hcT
  clear hcB hcT X0 hD
  obtain ⟨oDL, vs3, N4', hD1, hD2, hD3⟩ : ∃ oDL vs3, News s1.heap s1.heap.objs.size hh3 [(DL, oDL), (DV, listOf ysV.toArray ysV.length), (s1.heap.objs.size + 1 + 1, oT), (s1.heap.objs.size + 1, oB)] ∧ hh3.IsList DL vs3.toArray ∧ (∀ (i : Nat) v, vs3[i]? = some v → ∃ nm t, v = .str (nmName nm) t) ∧ vs3.length ≤ 3 :=
    ⟨_, _, N4, ⟨_, (N4 _ (.head _)).1, rfl, _, rfl⟩, fun i v h => item_nm h, Nat.le_refl 3⟩
  clear N4
  refine forAt_list (its := vs3) rfl (by rfl) (by rfl) F4 N4' hD1 (by rw [PySem.sizeLine_eq]; omega) (PN l0 DV DL s1.heap.objs.size P PL FI tp tq tf (listOf ysV.toArray ysV.length) oDL) ⟨hLN, _, _, _, _, hcT', hcB', rfl⟩ (.inr ⟨_, .head _, ?_⟩) ?_ ?_ ?_
  · rintro i' m' news' ⟨_, oB', oT', u', v', _, _, rfl⟩
    exact .head _
  · rintro i' m' news' ⟨_, oB', oT', u', v', _, _, rfl⟩ p hp'
    simp only [List.mem_cons, List.not_mem_nil, or_false] at hp' ⊢
    rcases hp' with rfl | rfl | rfl | rfl <;> simp
  · rintro I i v m' news' hh tkk oI s₂ hv ⟨⟨hn1, hn2, hn3, hn4, hn5⟩, oB', oT', u', v', hB', hT', rfl⟩ F5 N5 hltI ⟨h₂, rfl⟩
    k_lt hltI
    obtain ⟨nm, tn, rfl⟩ := hD2 i v hv
    clear F4 N4' hLN hcB' hcT' hD1 hD2 hv
    have F6 := fr_seven (x1 := Str.ofString "script") (x2 := Str.ofString "parties") (x3 := Str.ofString "votes") (x4 := Str.ofString "place") (x5 := Str.ofString "first") (x6 := Str.ofString "name") (x7 := Str.ofString "name") F5 hn1 hn2 hn3 hn4 hn5 rfl rfl
    clear F5 hn1 hn2 hn3 hn4 hn5
    all_goals k_steps
    unfold Held
    (rename Fr _ _ _ _ => F7)
    (rename News _ _ _ _ => N7)
    have hs1 := Int.fmod_nonneg_of_pos (FI.fdiv 6) (b := 4) (by omega)
    have hs2 := Int.fmod_lt_of_pos (FI.fdiv 6) (b := 4) (by omega)
    generalize (FI.fdiv 6).fmod 4 = sv at F7 hs1 hs2
    clear F6 N5
    refine wpAny_mono (Q := StSeam s1.heap s1.heap.objs.size l0 DV P PL FI tp tq tf nm tn ns.length [(I, oI), (DL, oDL), (DV, listOf ysV.toArray ysV.length), (s1.heap.objs.size + 1 + 1, oT'), (s1.heap.objs.size + 1, oB')] s1) (E := fun _ _ => False) ?_ ?_ (fun _ _ f => f)
    · refine wpAny_If ?_
      cases nm with
      | none =>
        simp only [nmName, nmOne] at F7 ⊢
        all_goals k_steps
        (rename Fr _ _ _ _ => F8)
        (rename News _ _ _ _ => N8)
        exact ⟨rfl, _, _, _, sv, _, rfl, F8, ⟨rfl, rfl, rfl, rfl, rfl⟩, rfl, rfl, hs1, by omega, fun h => absurd h (by decide), fun p hp => N8 p (.tail _ hp)⟩
      | some mt =>
        cases mt
        all_goals
          simp only [nmName, Meth.name, nmOne] at F7 ⊢
          all_goals k_steps
          (rename Fr _ _ _ _ => F8)
          (rename News _ _ _ _ => N8)
          first
            | exact ⟨rfl, _, _, _, sv, _, rfl, F8, ⟨rfl, rfl, rfl, rfl, rfl⟩, rfl, rfl, hs1, by omega, fun h => absurd h (by decide), fun p hp => N8 p (.tail _ hp)⟩
            | exact ⟨rfl, _, _, _, P, _, rfl, F8, ⟨rfl, rfl, rfl, rfl, rfl⟩, rfl, rfl, by omega, by omega, fun _ => by omega, fun p hp => N8 p (.tail _ hp)⟩
    · intro fl s₂' hS
      obtain ⟨rfl, h5, tk5, m5, st, ts, rfl, F8, ⟨hn1, hn2, hn3, hn4, hn5⟩, hn6, hn7, hst0, hst4, hsto, N8⟩ := hS
      have F9 := fr_seven F8 hn1 hn2 hn3 hn4 hn5 hn6 hn7
      clear F7 N7 F8 hn1 hn2 hn3 hn4 hn5 hn6 hn7 hs1 hs2
      dsimp only
      all_goals k_steps
      unfold Held
      rename_i h8 tk8 DB ysB R nnB hIB hRel neB h9 oB2 F10 N10 d10
      obtain ⟨hRl, hRs⟩ := nm_facts hst0 (by omega) hl1 (fun x hx => (hp x hx).1) hsto hRel
      have hyB := IntsAre.length hIB
      try clear N8
      refine wpAny_If ?_
      all_goals k_steps
      all_goals (try (exfalso; omega))
      unfold Held
      (rename Fr _ _ _ _ => F11)
      (rename News _ _ _ _ => N11)
      (rename IsRange _ _ _ _ _ _ _ _ => R11)
      refine forAt_range2 rfl (by rfl) (by rfl) F11 N11 R11 (small_one (by omega) (by omega) (by omega) (by omega)) (rangeSize_nat _ _) (by rw [PySem.sizeLine_eq]; omega) (PI l0 DV DL I s1.heap.objs.size P PL FI st tp tq tf tn ts nm ns (listOf ysV.toArray ysV.length) oDL oI) ⟨⟨rfl, rfl, rfl, rfl, rfl⟩, rfl, rfl, DB, ysB, nnB, R, _, _, _, d10, hT', hIB, by simpa using hRel, ?_, rfl⟩ ?_ ?_
      · exact ⟨neB.2.2.2.2, neB.2.2.2.1⟩
      · rintro I2 i2 tv2 m6 news6 h6 tk6 oI2 s6 hi2 ⟨⟨hn1, hn2, hn3, hn4, hn5⟩, hn6, hn7, DB2, ysB2, nnB2, R2, oB3, oT3, v3, d3B, d3T, hIB2, hRel2, hneB, rfl⟩ F12 N12 hne2 ⟨h₂, rfl⟩
        have hne3 := off1_of hne2
        simp only [LCg.Off1, and_true] at hne3
        have hne4 := hne3.2.2.2.2
        clear hne3 neB
        have F13 := fr_seven (x1 := Str.ofString "script") (x2 := Str.ofString "parties") (x3 := Str.ofString "votes") (x4 := Str.ofString "place") (x5 := Str.ofString "name") (x6 := Str.ofString "start") (x7 := Str.ofString "seats") F12 hn1 hn2 hn3 hn4 hn6 hn7 rfl
        clear F10 N10 d10 F11 N11 R11 F12 hIB hyB hRel hRl hRs
        all_goals k_steps
        unfold Held
        rename_i h8 tk8 DT ysT RT nnT hIT hRelT F14 N14 neT h9 oT4 F15 N15 d15
        clear F14 N14 F13 N12
        have neT2 : @Ne Nat I2 DT := neT.1
        have neT3 := neT.2.2.2.2.2
        clear neT
        have eT : st + 1 + (i2 : Int) = st + (i2 : Int) + 1 := by omega
        rw [eT] at hRelT
        have hp1 : ∀ x ∈ ns, 1 ≤ x := fun x hx => (hp x hx).1
        have hok2 : nmOne nm = true → (ns.length : Int) ≤ st + (i2 : Int) := fun h => by have := hsto h; omega
        obtain ⟨hl2, hs2⟩ := nm_facts (by omega) (by omega) hl1 hp1 hok2 hRel2
        obtain ⟨hlT, hsT⟩ := nm_facts (by omega) (by omega) hl1 hp1 (fun h => by have := hok2 h; omega) hRelT
        have hstep := nm_step (by omega) (by omega) hl1 hp1 hok2 hRel2 hRelT
        have hyT := IntsAre.length hIT
        refine wpAny_If ?_
        all_goals k_steps
        all_goals (try (exfalso; omega))
        unfold Held
        (rename Fr _ _ _ _ => F16)
        (rename News _ _ _ _ => N16)
        (rename IsRange _ _ _ _ _ _ _ _ => R16)
        refine compAt_range rfl F16 N16 R16 (small_one (by omega) (by omega) (by omega) (by omega)) (rangeSize_nat _ _) (by rw [PySem.sizeLine_eq]; omega) (fun i dl zs => dl = [] ∧ IntsAre zs ((List.range i).map fun j => RT.getD j 0 - R2.getD j 0)) ⟨rfl, .nil⟩ ?_ ?_
        · rintro C i9 tv9 oC m9 zs dl9 s₃ E' hi9 ⟨rfl, hz⟩ hoC hv9 F17 N17 hx1 hx2
          have hiT : i9 < RT.length := by omega
          have hiB : i9 < R2.length := by omega
          simp only [List.nil_append] at N17
          clear F16 N16 R16
          all_goals k_steps
          try dsimp only
          exact eltEnd_int ⟨rfl, range_snoc hz rfl⟩
        · rintro D3 dl9 h3 tk3 zs F17 N17 hz1 hz2 hz3 ⟨rfl, hz⟩ h₃
          simp only [List.nil_append] at N17
          have hz4 := off1_fresh N16 hz2
          simp only [LCg.Off1, and_true] at hz4
          have hz5 := hz4.2.2.2.2.2.2
          clear hz4 hz1 hz2 hz3 F16 N16 R16
          have eP : (P - 0).toNat = ns.length := by omega
          rw [eP] at hz
          generalize hDD : (List.range _).map _ = DD at hz
          have hDl : DD.length < 64 := by rw [← hDD, List.length_map, List.length_range]; omega
          all_goals k_steps
          · (rename Fr _ _ _ _ => F18)
            (rename News _ _ _ _ => N18)
            (rename Obj.data _ = Data.cell (some (Value.ref DT)) => d18)
            refine ⟨rfl, _, _, _, _, rfl, F18, pick14 N18, ?_, ⟨rfl, rfl, rfl, rfl, hn5⟩, rfl, rfl, DT, ysT, nnT, RT, _, _, _, d18, d15, hIT, ?_, ⟨neT3.2, neT3.1⟩, rfl⟩
            · intro p hp'
              simp only [List.mem_cons, List.not_mem_nil, or_false] at hp'
              rcases hp' with rfl | rfl | rfl | rfl | rfl | rfl
              · exact fun q => neT2 q.symm
              · exact hne2 _ (.tail _ (.head _))
              · exact hne2 _ (.tail _ (.tail _ (.head _)))
              · exact hne2 _ (.tail _ (.tail _ (.tail _ (.head _))))
              · exact hne2 (s1.heap.objs.size + 1 + 1, oT3) (.tail _ (.tail _ (.tail _ (.tail _ (.head _)))))
              · exact hne2 (s1.heap.objs.size + 1, oB3) (.tail _ (.tail _ (.tail _ (.tail _ (.tail _ (.head _))))))
            · rw [show st + ((i2 + 1 : Nat) : Int) = st + (i2 : Int) + 1 by omega]
              exact hRelT
          · exfalso
            (rename List.Perm _ DD => p9)
            (rename List.Pairwise _ _ => o9)
            (rename ¬ _ = _ => hne9)
            refine hne9 ?_
            rw [zeros_flat', show (P - 1).toNat = ns.length - 1 by omega]
            exact step_sorted hl2 hstep hDD.symm p9 o9
      · rintro m7 news7 h7 tk7 ⟨⟨hn1, hn2, hn3, hn4, hn5⟩, hn6, hn7, DB3, ysB3, nnB3, R3, oB4, oT4, v4, d4B, d4T, hIB3, hRel3, hneB3, rfl⟩ F12 N12
        have F13 := fr_seven F12 hn1 hn2 hn3 hn4 hn5 hn6 hn7
        rw [show st + (((st + 6 - (st + 1)).toNat : Nat) : Int) = st + 5 by omega] at hRel3
        clear F10 N10 d10 F11 N11 R11 F12 hIB hyB hRel hRl hRs neB
        all_goals k_steps
        unfold Held
        refine wpAny_If ?_
        cases nm with
        | none =>
          simp only [nmName] at F13 ⊢
          all_goals k_steps
          exact ⟨rfl, _, _, _, _, rfl, F13, fun p hp => N12 p (.tail _ hp), ⟨rfl, rfl, rfl, rfl, rfl⟩, oB4, oT4, _, _, d4B, d4T, rfl⟩
        | some mt =>
          simp only [nmName] at F13 ⊢
          have hnm : mt.name ≠ Str.ofString "quota" := by cases mt <;> decide
          obtain ⟨pl, rfl⟩ := Int.eq_ofNat_of_zero_le hc1'
          have hplk : pl < ns.length := by omega
          have hvp := hp _ (mem_getD' hplk)
          have hvq := (hbV _ (mem_getD' hplk)).2
          have hp1 : ∀ x ∈ ns, 1 ≤ x := fun x hx => (hp x hx).1
          obtain ⟨hlB, hsB⟩ := nm_facts (by omega) (by omega) hl1 hp1 (fun h => by have := hsto h; omega) hRel3
          all_goals k_steps
          rotate_left
          · exfalso
            (rename (_ != _) = false => hq)
            exact hnm (by simpa using hq)
          unfold Held
          (rename IntsAre (List.set _ _ _) _ => hIm)
          refine wpAny_If ?_
          all_goals k_steps
          unfold Held
          (rename Fr _ _ _ _ => F14)
          (rename News _ _ _ _ => N14)
          have hx1 := Int.fmod_nonneg_of_pos (cellV ns0 9) (b := 2 * ns.getD pl 0) (by omega)
          have hx2 := Int.fmod_lt_of_pos (cellV ns0 9) (b := 2 * ns.getD pl 0) (by omega)
          have hpt : ((pl : Int)).toNat = pl := by omega
          generalize hns : List.set ns _ _ = ns' at hIm
          rw [hpt] at hns
          have hl' : ns'.length = ns.length := by rw [← hns, List.length_set]
          have hgp : ns.getD pl 0 ≤ ns'.getD pl 0 := by rw [← hns, getD_set_self hplk]; omega
          have hgo : ∀ i, i < ns.length → i ≠ pl → ns'.getD i 0 = ns.getD i 0 := fun i _ hi => by rw [← hns, getD_set_ne (Ne.symm hi)]
          have hp' : ∀ x ∈ ns', 1 ≤ x ∧ x ≤ 3 * 10 ^ 12 := fun x hx => by
            rw [← hns] at hx
            rcases List.mem_or_eq_of_mem_set hx with h | h
            · exact hp x h
            · rw [h]; omega
          k_dflt (refine' div_ok _ _ _ _ _ _ _ _ _ _ ?h0 ?h4 ?hi ?hl1 ?hl4 ?hp mt _ ?hm ?ho _ _ _ _ _ _ _ _ _ _ _ _ _ _ _ _ _ ?k1 ?k2 ?k3 ?k5 ?k6 ?kd ?ku ?kp ?_; (case k1 => k_asm); (case k2 => k_asm); (case k3 => k_asm); (case k5 => k_asm); (case k6 => first | exact rfl | assumption); (case kd => ktr_room); (case ku => ktr_units); (case kp => exact led_list (by k_asm) (by k_mem)); (case hi => exact hIm); (case h0 => omega); (case h4 => omega); (case hl1 => omega); (case hl4 => omega); (case hp => exact hp'); (case hm => exact rfl); (case ho => (intro ho9; have := hsto ho9; omega)))
          intro v9 h9 tk9 K9 P9
          obtain ⟨DR, ysR, RR, rfl, hDR, ⟨nnR, hER⟩, hIR, hRR⟩ := P9
          obtain ⟨F15, N15, _⟩ := fresh_news F14 N14 K9 hDR hER
          clear K9 hDR hER F14 N14
          obtain ⟨hlR, hsR⟩ := nm_facts (nm := some mt) (ns := ns') (by omega) (by omega) (by omega) (fun x hx => (hp' x hx).1) (fun h => by have := hsto h; omega) hRR
          have hv := vote_div (p := pl) (n := st + 5) (by omega) (by omega) hp1 (fun x hx => (hp' x hx).1) (fun h => by have := hsto h; omega) hl' hplk hgp hgo hRel3 hRR
          have hiR : pl < RR.length := by omega
          have hiB : pl < R3.length := by omega
          have hv2 : R3.getD pl 0 ≤ RR.getD ((pl : Int)).toNat 0 := by rw [hpt]; exact hv
          dsimp only
          all_goals k_steps
          all_goals (try (exfalso; omega))
          exact ⟨rfl, _, _, _, _, rfl, F15, fun p hp => N15 p (.tail _ (.tail _ (.tail _ hp))), ⟨rfl, rfl, rfl, rfl, rfl⟩, oB4, oT4, _, _, d4B, d4T, rfl⟩
  · rintro m' news' hh tkk ⟨hLN', oB', oT', u', v', _, _, rfl⟩ F5 N5
    all_goals k_steps)
end Mine
end

theorem PySem.Challenge.cw_ab5005_01_holds : PySem.Challenge.rw_ab5005_01.Holds :=
  Mine.law_ok
