import PyProof.Rows.All
import Wide.All
import OpenK.AllK
import Wide.FinOn
import PySem.Challenge.RW_pe0098_01
set_option Elab.async false
set_option maxRecDepth 100000

namespace Mine
open PySem PySem.W PyProof.Rows
set_option maxHeartbeats 8000000 in
open_top hd for PySem.Challenge.rw_pe0098_01
end Mine

section
namespace Mine
open PySem PySem.W PyProof.Rows PySem.Calls

noncomputable abbrev KK (w : World) : Frag := hd.heap_39 w.params

/-- the table of _platform's code: empty, or with the one generator expression's code -/
def Tab (h : Heap) : Prop := ∃ ps, h.IsCode 50 46 ps ∧ h.TableAt 50 46 ps ∧ (ps = #[] ∨ ∃ c, ps = #[rawInt 18, rawInt 24, .ref c])

structure Gr (w : World) (h : Heap) : Prop where
  k : (KK w).In h
  gl : ∃ mg, h.Ns mainGlobals mg
  b : ∃ mb, h.Ns builtinsNs mb ∧ ∀ x : Str, x ≠ "__name__" → mb x = bootBuiltins x
  lim : h.NoLimit
  dig : ∃ mc, h.Ns cStatics mc ∧ mc "sys.int_max_str_digits" = none
  tab : Tab h
  bm : ∃ ob, h.get? 4 = some ob ∧ ob.cls = .type "module" ∧ ob.dict = some builtinsNs ∧ ob.data = .plain

theorem Gr.keeps {w : World} {h h' : Heap} (g : Gr w h) (hk : ∀ b o, h.get? b = some o → h'.get? b = some o) : Gr w h' where
  k := g.k.keeps hk
  gl := let ⟨mg, x⟩ := g.gl; ⟨mg, x.keeps hk⟩
  b := let ⟨mb, x, y⟩ := g.b; ⟨mb, x.keeps hk, y⟩
  lim := g.lim.keeps hk
  dig := let ⟨mc, x, y⟩ := g.dig; ⟨mc, x.keeps hk, y⟩
  tab := let ⟨ps, x, y, z⟩ := g.tab; ⟨ps, x.keeps hk, y.keeps hk, z⟩
  bm := let ⟨ob, x, y⟩ := g.bm; ⟨ob, hk _ _ x, y⟩

theorem ns_at {h h' : Heap} {a : Addr} {m : Str → Option Value} (x : h.Ns a m) (hk : ∀ o, h.get? a = some o → h'.get? a = some o) : h'.Ns a m :=
  let ⟨o, es, ep, e, r⟩ := x; ⟨o, es, ep, hk o e, r⟩
theorem ns_in {h : Heap} {a : Addr} {m : Str → Option Value} (x : h.Ns a m) : h.get? a ≠ none := let ⟨_, _, _, e, _⟩ := x; fun z => by rw [e] at z; cases z

/-- the ground stays where all that stood at h₀ stays -/
theorem Gr.on {w : World} {h₀ h h' : Heap} (g₀ : Gr w h₀) (g : Gr w h) (hk : ∀ b o, h₀.get? b ≠ none → h.get? b = some o → h'.get? b = some o) : Gr w h' where
  k := fun b o e => hk b o (fun z => by rw [g₀.k b o e] at z; cases z) (g.k b o e)
  gl := let ⟨mg, x⟩ := g.gl; ⟨mg, ns_at x fun o e => hk _ o (let ⟨_, y⟩ := g₀.gl; ns_in y) e⟩
  b := let ⟨mb, x, y⟩ := g.b; ⟨mb, ns_at x fun o e => hk _ o (let ⟨_, y, _⟩ := g₀.b; ns_in y) e, y⟩
  lim := let ⟨mb, x, y⟩ := g.lim; ⟨mb, ns_at x fun o e => hk _ o (let ⟨_, y, _⟩ := g₀.lim; ns_in y) e, y⟩
  dig := let ⟨mb, x, y⟩ := g.dig; ⟨mb, ns_at x fun o e => hk _ o (let ⟨_, y, _⟩ := g₀.dig; ns_in y) e, y⟩
  tab := by
    obtain ⟨ps, x, y, z⟩ := g.tab
    obtain ⟨ps₀, _, ⟨⟨o₀, vs₀, e₀, _⟩, t₀⟩, _⟩ := g₀.tab
    have n50 : h₀.get? 50 ≠ none := fun z => by rw [e₀] at z; cases z
    have n46 : h₀.get? 46 ≠ none := fun z => by rw [t₀] at z; cases z
    exact ⟨ps, (let ⟨o, vs, file, tf, flags, tg, inF, text, tt, op, a, r1, r2, r3, r4, r5, r6, b, r⟩ := x
          ⟨o, vs, file, tf, flags, tg, inF, text, tt, op, hk _ _ n50 a, r1, r2, r3, r4, r5, r6, hk _ _ n46 b, r⟩),
      (let ⟨⟨o, vs, a, r⟩, t⟩ := y; ⟨⟨o, vs, hk _ _ n50 a, r⟩, hk _ _ n46 t⟩), z⟩
  bm := let ⟨ob, x, y⟩ := g.bm; ⟨ob, hk _ _ (fun z => by obtain ⟨_, q, _⟩ := g₀.bm; rw [q] at z; cases z) x, y⟩

/-- what a call may leave: all objects but the one table stand, the ground holds -/
structure Ok (w : World) (s s' : Shared) : Prop where
  ext : Heap.ExtBut 46 s.heap s'.heap
  g₀ : Gr w s.heap
  gr : Gr w s'.heap
  os : s'.os = s.os
  bare : AllBare s.gens → AllBare s'.gens

section
variable {w : World} {s s' s'' : Shared} {h' : Heap} {t : Nat} {a : Addr}
theorem Ok.refl (g : Gr w s.heap) : Ok w s s := ⟨.refl _ _, g, g, rfl, id⟩
theorem Ok.trans (x : Ok w s s') (y : Ok w s' s'') : Ok w s s'' := ⟨x.ext.trans y.ext, x.g₀, y.gr, y.os.trans x.os, fun b => y.bare (x.bare b)⟩
/-- the heap goes on: what stood at the start stands -/
theorem Ok.heap (x : Ok w s s') (hk : ∀ b o, s.heap.get? b ≠ none → s'.heap.get? b = some o → h'.get? b = some o) : Ok w s { s' with heap := h', toks := t } :=
  ⟨fun b o hb e => hk b o (fun z => by rw [e] at z; cases z) (x.ext b o hb e), x.g₀, x.g₀.on x.gr hk, x.os, x.bare⟩
theorem Ok.upd (x : Ok w s s') (hs : Heap.ExtBut a s'.heap h') (ha : s.heap.get? a = none) : Ok w s { s' with heap := h', toks := t } :=
  x.heap (fun b _ hb e => hs b _ (fun z => hb (z ▸ ha)) e)
theorem Ok.keep (x : Ok w s s') (hk : ∀ b o, s'.heap.get? b = some o → h'.get? b = some o) : Ok w s { s' with heap := h', toks := t } := x.heap (fun b o _ e => hk b o e)
theorem Ok.push (x : Ok w s s') (o : Obj) : Ok w s { s' with heap := s'.heap.push o, toks := t } := x.keep fun _ _ e => Heap.get?_push_of_some _ e
theorem Ok.tok (x : Ok w s s') : Ok w s { s' with toks := t } := x.keep (fun _ _ e => e)
theorem get_size (h : Heap) : h.get? h.objs.size = none := by
  cases e : h.get? h.objs.size with
  | none => rfl
  | some o => exact absurd (Heap.lt_size e) (Nat.lt_irrefl _)
theorem Gr.tab46 {h : Heap} (g : Gr w h) : 46 < h.objs.size := let ⟨_, _, ⟨_, t⟩, _⟩ := g.tab; Heap.lt_size t
/-- what stands nowhere now stood nowhere then -/
theorem Ok.gone (x : Ok w s s') (h : s'.heap.get? a = none) : s.heap.get? a = none := by
  cases e : s.heap.get? a with
  | none => rfl
  | some o =>
    by_cases h46 : a = 46
    · subst h46
      obtain ⟨_, _, ⟨_, t⟩, _⟩ := x.gr.tab
      rw [h] at t; cases t
    · have := x.ext a o h46 e
      rw [h] at this; cases this
theorem Ok.fresh (x : Ok w s s') : s.heap.get? s'.heap.objs.size = none := x.gone (get_size _)
end

/-- where a callee's body is walked -/
structure In (A A' : Around) : Prop where
  handled : A'.handled = A.handled
  depth : A'.depth = A.depth + 1
  units : A'.units = A.units + 3

theorem call_fn {prog : Program} {w : World} {A : Around} {s : Shared} {E : Value → Shared → Prop} {Q : Value → Shared → Prop} {f : Addr} {args : List Value} {fd : FuncData} {body : List Stmt}
    {binds : List (Str × Value)} {oc : Value} {od : Option Addr} {osl : Array (Option Value)}
    (g : Gr w s.heap) (ho : (KK w).lookup f = some ⟨oc, od, .func fd, osl⟩) (hcd : codeIn (KK w) fd.code fd.qualname = true) (hroom : A.depth < recursionLimit)
    (hbody : fd.body = .stmts body) (hbind : BindsTo s fd ⟨args, []⟩ binds)
    (hcell : ∀ x ∈ fd.scope.names, x.2 ≠ .cell) (hloc : ∀ x ∈ binds, fd.scope.names.lookup x.1 = some .local)
    (h : ∀ h₀ L env A', env = callEnv fd L f → In A A' → L = s.heap.objs.size → h₀.Ns L (fun x => binds.reverse.lookup x) → (∀ b o, s.heap.get? b = some o → h₀.get? b = some o) → Gr w h₀ →
      wpAny (model prog w) A' (execs body env) (fun fl s' => Q (match fl with | .ret v => v | _ => .none) s')
        (fun _ _ => False) { s with heap := h₀, toks := s.toks + binds.length })
    (hco : fd.scope.isCoroutine = false := by rfl) (hgen : fd.scope.isGenerator = false := by rfl) (hk : fd.scope.kind = .function := by rfl) :
    wpAny (model prog w) A (call (.ref f) args) Q E s := by
  refine wpAny_call (codeAny_call_def (fd := fd) (body := body) (binds := binds) hroom (g.k _ _ ho) rfl g.lim (codeRec_of g.k hcd) hbody hbind hcell hloc (fun h₀ hn hk₀ => ?_) hco hgen hk)
  exact wpAny_mono (h h₀ _ _ _ rfl ⟨rfl, rfl, rfl⟩ rfl hn hk₀ (g.keeps hk₀)) (fun fl s' q => q) (fun _ _ x => x.elim)
end Mine
end

section
namespace Mine
open PySem PySem.W PyProof.Rows PySem.Calls

/-- a frame's names as a list, the newest first -/
def mp (l : List (Str × Value)) : Str → Option Value := fun x => l.lookup x

/-- an environment of a def of the text's -/
structure Ev (env : Env) (L : Addr) (names : List (Str × NameKind)) : Prop where
  locals : env.locals = L
  globals : env.globals = mainGlobals
  builtins : env.builtins = builtinsNs
  kind : env.scope.kind = .function
  names : ∀ x, env.kindOf x = names.lookup x

theorem Ev.inter {env : Env} {L : Addr} {ns : List (Str × NameKind)} (e : Ev env L ns) : interactive env = false := by
  unfold interactive
  simp [e.kind]

section
variable {M : Model} {A : Around} {E : Value → Shared → Prop} {s : Shared} {env : Env} {L : Addr} {ns : List (Str × NameKind)} {l : List (Str × Value)} {x : Str} {v : Value}

theorem mp_put (l : List (Str × Value)) (x : Str) (v : Value) : (fun y => if y = x then some v else mp l y) = mp ((x, v) :: l) := by
  funext y
  unfold mp
  rw [List.lookup_cons]
  by_cases h : y = x
  · subst h; simp
  · have : (y == x) = false := by simpa using h
    simp [h, this]

theorem ldn {Q : Value → Shared → Prop} (e : Ev env L ns) (hn : s.heap.Ns L (mp l)) (hv : l.lookup x = some v) (h : Q v s) (hl : ns.lookup x = some .local := by rfl) :
    wpAny M A (loadName env x) Q E s := wpAny_loadName_local e.kind ((e.names x).trans hl) (e.locals ▸ hn) hv h

theorem ld {pos : Pos} {Q : Value → Shared → Prop} (e : Ev env L ns) (hn : s.heap.Ns L (mp l)) (hv : l.lookup x = some v) (h : Q v s) (hl : ns.lookup x = some .local := by rfl)
    (hd : (x == ("__debug__" : Str)) = false := by decide) : wpAny M A (eval (.Name x pos) env) Q E s := wpAny_Name (ldn e hn hv h hl) hd

theorem st {Q : Unit → Shared → Prop} (e : Ev env L ns) (hn : s.heap.Ns L (mp l))
    (h : ∀ h', h'.Ns L (mp ((x, v) :: l)) → Heap.SameBut L s.heap h' → Q () { s with heap := h', toks := s.toks + 1 })
    (hl : ns.lookup x = some .local := by rfl) : wpAny M A (storeName env x v) Q E s := by
  have e1 := e.locals
  subst e1
  exact wpAny_storeName_local ((e.names x).trans hl) hn (fun h' hn' hs => h h' (by rw [mp_put] at hn'; exact hn') hs) (by rw [e.kind]; rfl)

/-- a builtin's name -/
theorem ldb {w : World} {pos : Pos} {Q : Value → Shared → Prop} (e : Ev env L ns) (g : Gr w s.heap) (hv : bootBuiltins x = some v) (h : Q v s) (hl : ns.lookup x = some .globalImplicit := by rfl)
    (hm : nsIn (KK w) mainGlobals x = some none := by rfl) (hx : x ≠ "__name__" := by decide) (hd : (x == ("__debug__" : Str)) = false := by decide) :
    wpAny M A (eval (.Name x pos) env) Q E s := by
  obtain ⟨mb, hnb, hbb⟩ := g.b
  obtain ⟨mg, hG⟩ := g.gl
  exact Name_function_global e.kind ((e.names x).trans hl) (loadGlobal_builtin (mg := mg) (mb := mb) (by rw [e.globals]; exact hG) (mg_none_of g.k hG hm) (by rw [e.builtins]; exact hnb) ((hbb x hx).trans hv) h) hd

/-- a global name of the text's -/
theorem ldg {w : World} {pos : Pos} {Q : Value → Shared → Prop} (e : Ev env L ns) (g : Gr w s.heap) (hm : nsIn (KK w) mainGlobals x = some (some v)) (h : Q v s)
    (hl : ns.lookup x = some .globalImplicit := by rfl) (hd : (x == ("__debug__" : Str)) = false := by decide) :
    wpAny M A (eval (.Name x pos) env) Q E s := by
  obtain ⟨mg, hG⟩ := g.gl
  exact Name_function_global e.kind ((e.names x).trans hl) (loadGlobal_global (mg := mg) (by rw [e.globals]; exact hG) (mg_of g.k hG hm) h) hd
end

/-- into a def's body -/
theorem call_in {prog : Program} {w : World} {A : Around} {s : Shared} {E : Value → Shared → Prop} {Q : Value → Shared → Prop} {f : Addr} {args : List Value} {fd : FuncData} {body : List Stmt}
    {binds : List (Str × Value)} {oc : Value} {od : Option Addr} {osl : Array (Option Value)}
    (g : Gr w s.heap) (ho : (KK w).lookup f = some ⟨oc, od, .func fd, osl⟩) (hcd : codeIn (KK w) fd.code fd.qualname = true) (hroom : A.depth < recursionLimit)
    (hbody : fd.body = .stmts body) (hbind : BindsTo s fd ⟨args, []⟩ binds)
    (hcell : ∀ x ∈ fd.scope.names, x.2 ≠ .cell) (hloc : ∀ x ∈ binds, fd.scope.names.lookup x.1 = some .local) (hg : fd.globals = mainGlobals) (hb : fd.builtins = builtinsNs)
    (hco : fd.scope.isCoroutine = false) (hgen : fd.scope.isGenerator = false) (hk : fd.scope.kind = .function)
    (h : ∀ h₀ L env A', Ev env L fd.scope.names → In A A' → L = s.heap.objs.size → h₀.Ns L (mp binds.reverse) → (∀ b o, s.heap.get? b = some o → h₀.get? b = some o) → Gr w h₀ →
      wpAny (model prog w) A' (execs body env) (fun fl s' => Q (match fl with | .ret v => v | _ => .none) s')
        (fun _ _ => False) { s with heap := h₀, toks := s.toks + binds.length }) :
    wpAny (model prog w) A (call (.ref f) args) Q E s :=
  call_fn g ho hcd hroom hbody hbind hcell hloc (fun h₀ L env A' henv hA hL hn hk₀ g₀ => h h₀ L env A' (by subst henv; exact ⟨rfl, hg, hb, hk, fun _ => rfl⟩) hA hL hn hk₀ g₀) hco hgen hk
end Mine
end

section
namespace Mine
open PySem PySem.W PyProof.Rows PySem.Calls

/-- all but L and W stands -/
def But (L : Addr) (W : List Addr) (h h' : Heap) : Prop := ∀ b o, b ≠ L → b ∉ W → h.get? b = some o → h'.get? b = some o
theorem But.refl {L : Addr} {W : List Addr} {h : Heap} : But L W h h := fun _ _ _ _ e => e
theorem But.trans {L : Addr} {W : List Addr} {h h' h'' : Heap} (x : But L W h h') (y : But L W h' h'') : But L W h h'' := fun b o hb hw e => y b o hb hw (x b o hb hw e)
theorem But.same {L : Addr} {W : List Addr} {h h' : Heap} (x : Heap.SameBut L h h') : But L W h h' := fun b _ hb _ e => x.extBut b _ hb e
theorem But.keep {L : Addr} {W : List Addr} {h h' : Heap} (x : ∀ b o, h.get? b = some o → h'.get? b = some o) : But L W h h' := fun b o _ _ e => x b o e

section
variable {prog : Program} {w : World} {A : Around} {E : Value → Shared → Prop} {s₀ s : Shared} {env : Env} {L ax : Addr} {ns : List (Str × NameKind)} {l : List (Str × Value)} {x : Str}

theorem for_list {R : Result → Shared → Prop} {px : Pos} {body : List Stmt} {items : List Value} (W : List Addr) (J : Nat → List (Str × Value) → Heap → Prop)
    (e : Ev env L ns) (hh : A.handled = none) (hx : ns.lookup x = some .local) (hl : s.heap.IsList ax items.toArray) (hax : ax ≠ L) (hW : ax ∉ W) (hWs : ∀ a ∈ W, a < s.heap.objs.size)
    (o : Ok w s₀ s) (hL : s₀.heap.get? L = none) (hn : s.heap.Ns L (mp l)) (h0 : J 0 l s.heap)
    (hJ : ∀ i l h h' It, s.heap.objs.size = It → J i l h → (∀ b o, b ≠ L → b ≠ It → h.get? b = some o → h'.get? b = some o) → J i l h')
    (turn : ∀ i l v s₁, items[i]? = some v → J i l s₁.heap → Ok w s₀ s₁ → s₁.heap.Ns L (mp ((x, v) :: l)) → s₁.gens = s.gens → But L W s.heap s₁.heap →
      wpAny (model prog w) A (execs body env) (fun f s₂ => match f with
        | .next | .cont => ∃ l', s₂.heap.Ns L (mp l') ∧ J (i + 1) l' s₂.heap ∧ Ok w s₀ s₂ ∧ s₂.gens = s.gens ∧ But L W s₁.heap s₂.heap
        | .brk => R (.ok .next) s₂
        | .ret v => R (.ok (.ret v)) s₂) (fun _ _ => False) s₁)
    (fin : ∀ l' s', J items.length l' s'.heap → Ok w s₀ s' → s'.heap.Ns L (mp l') → s'.gens = s.gens → But L W s.heap s'.heap → R (.ok .next) s') :
    wpAny (model prog w) A (pyIter (.ref ax)) (fun it s₂ => codeAny (model prog w) A (.forLoop (.Name x px) it body [] env) R s₂) E s := by
  refine wpAny_pyIter_list hl ?_
  have hLl : L < s.heap.objs.size := hn.lt
  generalize hI : s.heap.objs.size = I at *
  have hIL : I ≠ L := Nat.ne_of_gt hLl
  have hIW : I ∉ W := fun q => Nat.lt_irrefl _ (hWs I q)
  have haxl : ax < I := by obtain ⟨_, q, _⟩ := hl; rw [← hI]; exact Heap.lt_size q
  have hIax : ax ≠ I := Nat.ne_of_lt haxl
  have up : ∀ b o, s.heap.get? b = some o → (s.heap.push { cls := .type "list_iterator", data := .fields #[.ref ax, .int 0 0] }).get? b = some o := fun b o e => Heap.get?_push_of_some _ e
  have hI0 : s₀.heap.get? I = none := hI ▸ o.fresh
  refine codeAny_forLoop (fun k s' => ∃ i l', i ≤ items.length ∧ k = items.length + 1 - i ∧ J i l' s'.heap ∧ Ok w s₀ s' ∧ s'.heap.Ns L (mp l') ∧ s'.heap.IsListIter I ax i ∧ s'.gens = s.gens ∧ But L W s.heap s'.heap) ?_ (items.length + 1)
    ⟨0, l, Nat.zero_le _, rfl, hJ 0 l _ _ I rfl h0 (fun b o _ _ e => up b o e), o.push _, hn.keeps up, ⟨_, by rw [← hI]; exact Heap.get?_push_size _ rfl, rfl, rfl⟩, rfl, But.keep up⟩ (fun _ => rfl)
  rintro k s₁ ⟨i, l₁, hi, rfl, hj, o₁, hn₁, hit, hg, hb⟩
  have hl₁ : s₁.heap.IsList ax items.toArray := hl.at fun ob q => hb ax ob hax hW q
  by_cases hlt : i < items.length
  · obtain ⟨v, hv⟩ : ∃ v, items[i]? = some v := ⟨items[i], List.getElem?_eq_getElem hlt⟩
    refine wpAny_pyNext_list_item hit hl₁ (by simpa using hv) fun h₂ hit₂ hs₂ => ?_
    dsimp only
    have b₂ : ∀ b o, b ≠ I → s₁.heap.get? b = some o → h₂.get? b = some o := fun b o hb e => hs₂.extBut b o hb e
    refine wpAny_assign_Name (st (l := l₁) e (ns_at hn₁ fun o q => b₂ L o (Ne.symm hIL) q) (fun h₃ hn₃ hs₃ => ?_) hx)
    have b₃ : ∀ b o, b ≠ L → b ≠ I → s₁.heap.get? b = some o → h₃.get? b = some o := fun b o h1 h2 q => hs₃.extBut b o h1 (b₂ b o h2 q)
    have o₃ : Ok w s₀ { s₁ with heap := h₃, toks := s₁.toks + 1 } := (o₁.upd (t := s₁.toks) hs₂.extBut hI0).upd hs₃.extBut hL
    have bb : But L W s.heap h₃ := fun b ob h1 h2 q => b₃ b ob h1 (fun z => by have := Heap.lt_size q; rw [hI] at this; exact Nat.ne_of_lt this z) (hb b ob h1 h2 q)
    refine wpAny_mono (turn i l₁ v _ hv (hJ i l₁ _ _ I rfl hj b₃) o₃ hn₃ hg bb) (fun f s₄ q => ?_) (fun _ _ z => z.elim)
    have go : (∃ l', s₄.heap.Ns L (mp l') ∧ J (i + 1) l' s₄.heap ∧ Ok w s₀ s₄ ∧ s₄.gens = s.gens ∧ But L W h₃ s₄.heap) → ∃ m, m < items.length + 1 - i ∧ ∃ i l', i ≤ items.length ∧ m = items.length + 1 - i ∧ J i l' s₄.heap ∧ Ok w s₀ s₄ ∧ s₄.heap.Ns L (mp l') ∧ s₄.heap.IsListIter I ax i ∧ s₄.gens = s.gens ∧ But L W s.heap s₄.heap := by
      rintro ⟨l', hn₄, hj₄, o₄, hg₄, b₄⟩
      refine ⟨items.length + 1 - (i + 1), by omega, i + 1, l', hlt, rfl, hj₄, o₄, hn₄, (hit₂.at fun ob z => hs₃.extBut I ob hIL z).at (fun ob z => b₄ I ob hIL hIW z), hg₄, bb.trans b₄⟩
    cases f with
    | next => exact go q
    | cont => exact go q
    | brk => exact q
    | ret v => exact q
  · obtain rfl : i = items.length := Nat.le_antisymm hi (Nat.not_lt.mp hlt)
    refine wpAny_pyNext_list_end hh hit hl₁ (by simp) fun h₂ hs₂ => ?_
    dsimp only
    refine wpAny_execs_nil ?_
    exact fin l₁ _ (hJ _ _ _ _ I rfl hj fun b o _ hb q => hs₂ b o hb q) (o₁.upd hs₂ hI0) (ns_at hn₁ fun o q => hs₂ L o (Ne.symm hIL) q) hg
      (fun b ob h1 h2 q => hs₂ b ob (fun z => by have := Heap.lt_size q; rw [hI] at this; exact Nat.ne_of_lt this z) (hb b ob h1 h2 q))
end
end Mine
end

section
namespace Mine
open PySem PySem.W PyProof.Rows PySem.Calls

section
variable {prog : Program} {w : World} {A : Around} {E : Value → Shared → Prop} {s : Shared} {x y : Str} {t u : Tok} {env : Env}

theorem str_nil {x : Str} (h : (x.length == 0) = true) : x = ⟨#[]⟩ := by
  obtain ⟨⟨l⟩⟩ := x
  have : l.length = 0 := by simpa [Str.length] using h
  have : l = [] := List.length_eq_zero_iff.mp this
  subst this; rfl
theorem app_nil (x : Str) : x ++ (⟨#[]⟩ : Str) = x := by
  obtain ⟨c⟩ := x
  show Str.mk (c ++ #[]) = _
  rw [Array.append_empty]
theorem nil_app (x : Str) : (⟨#[]⟩ : Str) ++ x = x := by
  obtain ⟨c⟩ := x
  show Str.mk (#[] ++ c) = _
  rw [Array.empty_append]
theorem addS {Q : Value → Shared → Prop} (hz : x.length + y.length ≤ 1048576) (h : ∀ t tk, Q (.str (x ++ y) t) { s with toks := tk }) : wpAny (model prog w) A (binaryOp .Add (.str x t) (.str y u)) Q E s := by
  refine P.add_str ?_
  split
  · rename_i hx
    have e := str_nil hx
    have := h u s.toks
    rw [e, nil_app] at this
    exact this
  · split
    · rename_i hy
      have e := str_nil hy
      have := h t s.toks
      rw [e, app_nil] at this
      exact this
    · refine ⟨?_, h _ _⟩
      have e : (x ++ y).length = x.length + y.length := Array.size_append
      rw [e, sizeLine_eq]; omega

theorem sliceS {Q : Value → Shared → Prop} {l u : Option (Int × Tok)} (hz : x.length ≤ 1048576) (h : ∀ t tk, Q (.str (Txt.slice x (l.map (·.1)) (u.map (·.1))) t) { s with toks := tk }) : (sliceMade x t l u none).post Q s := by
  have hle := Txt.slice_le x (l.map (·.1)) (u.map (·.1))
  unfold Txt.slice at h hle
  unfold sliceMade slicePicked
  simp only [Option.map_none, Option.getD_none] at *
  split
  · rename_i hc
    rw [if_pos hc] at h
    exact h t s.toks
  · rename_i hc
    rw [if_neg hc] at h hle
    refine ⟨?_, h _ _⟩
    rw [sizeLine_eq]; omega

theorem meth1 {o e₁ : Expr} {name : Str} {id T : String} {apos pos : Pos} {Q : Value → Shared → Prop} (hbase : attributeBase o name env (eval o env) = eval o env) (hline : (apos.endLine == pos.line) = true)
    (he : starEach [e₁] env = [(false, eval e₁ env)]) (pa : PlainAttrs T) (slot : Slot T name id) (hty : typeOf (.builtin id) = pure (.type "method_descriptor"))
    (h : wpAny (model prog w) A (eval o env) (fun ov s₁ => s₁.TypeIs ov T ∧ (∀ a, ov = .ref a → ∃ ob, s₁.heap.get? a = some ob ∧ ob.dict = none) ∧
      wpAny (model prog w) A (eval e₁ env) (fun v s₂ => wpAny (model prog w) A (call (.builtin id) [ov, v]) Q E s₂) E s₁) E s) :
    wpAny (model prog w) A (eval (.Call (.Attribute o name apos) [e₁] [] pos) env) Q E s := by
  refine wpAny_Call_method hbase (by rw [he]; rfl) hline pa slot hty (wpAny_mono h (fun ov s₁ ⟨h1, h2, h3⟩ => ⟨h1, h2, ?_⟩) fun _ _ z => z)
  refine callWith_builtin (by rw [he]; rfl) ?_
  rw [he]
  exact evalArgs_plain (spliced_cons (wpAny_mono h3 (fun v s₂ h₂ => spliced_nil h₂) fun _ _ z => z))

theorem meth0 {o : Expr} {name : Str} {id T : String} {apos pos : Pos} {Q : Value → Shared → Prop} (hbase : attributeBase o name env (eval o env) = eval o env) (hline : (apos.endLine == pos.line) = true)
    (pa : PlainAttrs T) (slot : Slot T name id) (hty : typeOf (.builtin id) = pure (.type "method_descriptor"))
    (h : wpAny (model prog w) A (eval o env) (fun ov s₁ => s₁.TypeIs ov T ∧ (∀ a, ov = .ref a → ∃ ob, s₁.heap.get? a = some ob ∧ ob.dict = none) ∧
      wpAny (model prog w) A (call (.builtin id) [ov]) Q E s₁) E s) :
    wpAny (model prog w) A (eval (.Call (.Attribute o name apos) [] [] pos) env) Q E s := by
  refine wpAny_Call_method hbase rfl hline pa slot hty (wpAny_mono h (fun ov s₁ ⟨h1, h2, h3⟩ => ⟨h1, h2, ?_⟩) fun _ _ z => z)
  refine callWith_builtin rfl ?_
  exact evalArgs_kw_nil rfl (wpAny_evalAll_nil h3)

theorem meth2 {o e₁ e₂ : Expr} {name : Str} {id T : String} {apos pos : Pos} {Q : Value → Shared → Prop} (hbase : attributeBase o name env (eval o env) = eval o env) (hline : (apos.endLine == pos.line) = true)
    (he : starEach [e₁, e₂] env = [(false, eval e₁ env), (false, eval e₂ env)]) (pa : PlainAttrs T) (slot : Slot T name id) (hty : typeOf (.builtin id) = pure (.type "method_descriptor"))
    (h : wpAny (model prog w) A (eval o env) (fun ov s₁ => s₁.TypeIs ov T ∧ (∀ a, ov = .ref a → ∃ ob, s₁.heap.get? a = some ob ∧ ob.dict = none) ∧
      wpAny (model prog w) A (eval e₁ env) (fun v s₂ => wpAny (model prog w) A (eval e₂ env) (fun v₂ s₃ => wpAny (model prog w) A (call (.builtin id) [ov, v, v₂]) Q E s₃) E s₂) E s₁) E s) :
    wpAny (model prog w) A (eval (.Call (.Attribute o name apos) [e₁, e₂] [] pos) env) Q E s := by
  refine wpAny_Call_method hbase (by rw [he]; rfl) hline pa slot hty (wpAny_mono h (fun ov s₁ ⟨h1, h2, h3⟩ => ⟨h1, h2, ?_⟩) fun _ _ z => z)
  refine callWith_builtin (by rw [he]; rfl) ?_
  rw [he]
  exact evalArgs_plain (spliced_cons (wpAny_mono h3 (fun v s₂ h₂ => spliced_cons (wpAny_mono h₂ (fun v₂ s₃ h₃ => spliced_nil h₃) fun _ _ z => z)) fun _ _ z => z))
end

section
variable {prog : Program} {w : World} {A : Around} {E : Value → Shared → Prop} {s : Shared} {env : Env} {L : Addr} {ns : List (Str × NameKind)} {l : List (Str × Value)}
/-- f(e), f a builtin function -/
theorem callB1 {id : Str} {bid : String} {e₁ : Expr} {p pos : Pos} {Q : Value → Shared → Prop} (e : Ev env L ns) (g : Gr w s.heap) (hv : bootBuiltins id = some (.builtin bid))
    (he : starEach [e₁] env = [(false, eval e₁ env)]) (hl : ns.lookup id = some .globalImplicit) (hm : nsIn (KK w) mainGlobals id = some none) (hx : id ≠ "__name__") (hd : (id == ("__debug__" : Str)) = false)
    (h : wpAny (model prog w) A (eval e₁ env) (fun v s₁ => wpAny (model prog w) A (call (.builtin bid) [v]) Q E s₁) E s) :
    wpAny (model prog w) A (eval (.Call (.Name id p) [e₁] [] pos) env) Q E s := by
  refine wpAny_Call_NameR (ldb e g hv ?_ hl hm hx hd)
  refine callWith_builtin (by rw [he]; rfl) ?_
  rw [he]
  exact evalArgs_plain (spliced_cons (wpAny_mono h (fun v s₁ h₁ => spliced_nil h₁) fun _ _ z => z))
/-- f(e), f a def of the text's -/
theorem callF1 {id : Str} {f : Addr} {e₁ : Expr} {p pos : Pos} {fd : FuncData} {oc : Value} {od : Option Addr} {osl : Array (Option Value)} {Q : Value → Shared → Prop} (e : Ev env L ns) (g : Gr w s.heap) (hm : nsIn (KK w) mainGlobals id = some (some (.ref f)))
    (ho : (KK w).lookup f = some ⟨oc, od, .func fd, osl⟩) (he : starEach [e₁] env = [(false, eval e₁ env)]) (hl : ns.lookup id = some .globalImplicit) (hd : (id == ("__debug__" : Str)) = false)
    (h : wpAny (model prog w) A (eval e₁ env) (fun v s₁ => Gr w s₁.heap ∧ wpAny (model prog w) A (call (.ref f) [v]) Q E s₁) E s) :
    wpAny (model prog w) A (eval (.Call (.Name id p) [e₁] [] pos) env) Q E s := by
  refine wpAny_Call_NameR (ldg e g hm ?_ hl hd)
  refine callWith_function (o := ⟨oc, od, .func fd, osl⟩) (fd := fd) ?_
  rw [he]
  exact evalArgs_plain (spliced_cons (wpAny_mono h (fun v s₁ h₁ => spliced_nil ⟨⟨h₁.1.k _ _ ho, rfl⟩, h₁.2⟩) fun _ _ z => z))
end
end Mine
end

section
namespace Mine
open PySem PySem.W PyProof.Rows PySem.Calls
open Sem (wp)

/-- the claim's caller is among the codes -/
def cl (l : List (Code × Pos)) : Bool := l.any fun c => c.1.isCaller

/-- as wpAny, where the claim's caller is on the stack -/
def wpR {α : Type} (M : Model) (A : Around) (t : Sem α) (Q : α → Shared → Prop) (E : Value → Shared → Prop) (s : Shared) : Prop :=
  ∀ Γ p, Γ.In A → (Γ.code.isCaller || cl Γ.below) = true → wp M Γ t (fun a _ s' => Q a s') (fun e _ s' => E e s') p s
def codeR (M : Model) (A : Around) (c : Code) (R : Result → Shared → Prop) (s : Shared) : Prop :=
  ∀ Γ p, Γ.code = c → Γ.Below A → cl Γ.below = true → wpCode M Γ R p s

section
variable {α β : Type} {M : Model} {A : Around} {E : Value → Shared → Prop} {s : Shared}

theorem R.of {t : Sem α} {Q : α → Shared → Prop} (h : wpAny M A t Q E s) : wpR M A t Q E s := fun Γ p hΓ _ => h Γ p hΓ
theorem R.ofC {c : Code} {K : Result → Shared → Prop} (h : codeAny M A c K s) : codeR M A c K s := fun Γ p hc hΓ _ => h Γ p hc hΓ
theorem R.pure {a : α} {Q : α → Shared → Prop} (h : Q a s) : wpR M A (pure a) Q E s := fun _ _ _ _ => h
theorem R.mono {t : Sem α} {Q Q' : α → Shared → Prop} {E' : Value → Shared → Prop} (h : wpR M A t Q E s) (hQ : ∀ a s, Q a s → Q' a s) (hE : ∀ e s, E e s → E' e s) : wpR M A t Q' E' s :=
  fun Γ p hΓ hc => Sem.wp_mono M Γ t (fun a _ s => hQ a s) (fun e _ s => hE e s) p s (h Γ p hΓ hc)
theorem R.bind {m : Sem α} {f : α → Sem β} {Q : β → Shared → Prop} (h : wpR M A m (fun a s' => wpR M A (f a) Q E s') E s) : wpR M A (m >>= f) Q E s := fun Γ p hΓ hc => by
  rw [Sem.wp_bind']
  exact Sem.wp_mono M Γ m (fun a p' s' h' => h' Γ p' hΓ hc) (fun _ _ _ h' => h') p s (h Γ p hΓ hc)
/-- a step off the path, then on -/
theorem R.step {m : Sem α} {f : α → Sem β} {Q : β → Shared → Prop} (h : wpAny M A m (fun a s' => wpR M A (f a) Q E s') E s) : wpR M A (m >>= f) Q E s := R.bind (R.of h)
theorem R.holding {vs : List Value} {m : Sem α} {Q : α → Shared → Prop} (h : wpR M A m Q E s) : wpR M A (holding vs m) Q E s :=
  fun Γ p hΓ hc => by rw [Sem.wp_holding]; exact h Γ p hΓ hc
theorem R.attempt {m : Sem α} {Q : Except Value α → Shared → Prop} (h : wpR M A m (fun a => Q (.ok a)) (fun e => Q (.error e)) s) : wpR M A m.attempt Q E s :=
  fun Γ p hΓ hc => by rw [Sem.wp_attempt]; exact h Γ p hΓ hc
theorem R.onRaise {m : Sem α} {k : Value → Sem Unit} {Q : α → Shared → Prop} (h : wpR M A m Q (fun _ _ => False) s) : wpR M A (m.onRaise k) Q E s := fun Γ p hΓ hc => by
  rw [Sem.wp_onRaise]
  exact Sem.wp_mono M Γ m (fun _ _ _ h' => h') (fun e p' s' h' => h'.elim) p s (h Γ p hΓ hc)
theorem R.keep {vs : List Value} {m : Sem α} {Q : α → Shared → Prop} (h : wpR M A m Q E s) : wpR M A (m.keep vs) Q E s :=
  fun Γ p hΓ hc => by rw [Sem.wp_keep]; exact h Γ p hΓ hc
theorem R.monoC {c : Code} {K K' : Result → Shared → Prop} (h : codeR M A c K s) (hR : ∀ r s, K r s → K' r s) : codeR M A c K' s := fun Γ p hc hΓ hl => wpCode_mono hR (h Γ p hc hΓ hl)

theorem cl_enter {Γ : Ctx} {c : Code} {h : Option Value} {p : Pos} (hc : (Γ.code.isCaller || cl Γ.below) = true) : cl (Γ.enter c h p).below = true := by
  show ((Γ.code, p) :: Γ.below).any _ = true
  rw [List.any_cons]; exact hc

theorem R.run {c : Code} {h : Option Value} {Q : Flow → Shared → Prop} (hc : codeR M (A.mark h) c (fun r s' => match r with | .ok f => Q f s' | .error e => E e s') s)
    (hnb : h ≠ some byPass := by intro x; cases x) : wpR M A (run c h) Q E s :=
  fun Γ p hΓ hl => by rw [Sem.wp_run]; exact hc _ p rfl (hΓ.enter c h p hnb) (cl_enter hl)
theorem R.runValue {c : Code} {Q : Value → Shared → Prop} (hc : codeR M A c (fun r s' => match r with | .ok (.ret v) => Q v s' | .ok _ => False | .error e => E e s') s) :
    wpR M A (runValue c) Q E s := fun Γ p hΓ hl => by rw [Sem.wp_runValue]; exact hc _ p rfl (hΓ.enter c none p (by intro x; cases x)) (cl_enter hl)
theorem R.call {f : Value} {pos : List Value} {kw : List (Str × Value)} {Q : Value → Shared → Prop}
    (hc : codeR M A (.call f ⟨pos, kw⟩) (fun r s' => match r with | .ok (.ret v) => Q v s' | .ok _ => False | .error e => E e s') s) : wpR M A (call f pos kw) Q E s := R.runValue hc
theorem R.tree {c : Code} {K : Result → Shared → Prop}
    (h : wpR M (A.under c) (M.den c) (fun fin s' => match fin with | .done f => K (.ok f) s' | .again c' => c'.quiet = true ∧ codeR M A c' K s') (fun e s' => K (.error e) s') s) : codeR M A c K s := fun Γ p hc hΓ hl => by
  rw [wpCode_iff_wp, hc]
  refine Sem.wp_mono M Γ _ (fun fin p' s' h' => ?_) (fun _ _ _ h' => h') p s (h Γ p (hc ▸ hΓ.in) (by rw [hl, Bool.or_true]))
  cases fin with
  | done f => exact h'
  | again c' => exact ⟨h'.1, h'.2 (Γ.goto c') p' rfl (hΓ.goto c') hl⟩
theorem R.loop {c : Code} {K : Result → Shared → Prop} (hq : c.quiet = true) (I : Nat → Shared → Prop)
    (turn : ∀ n s, I n s → wpR M (A.under c) (M.den c) (fun fin s' => match fin with
        | .done f => K (.ok f) s'
        | .again c' => (c' = c ∧ ∃ m, m < n ∧ I m s') ∨ (c'.quiet = true ∧ codeR M A c' K s')) (fun e s' => K (.error e) s') s)
    (n : Nat) (h : I n s) : codeR M A c K s := by
  induction n using Nat.strongRecOn generalizing s with
  | ind n ih =>
    refine R.tree (R.mono (turn n s h) (fun fin s' hf => ?_) fun _ _ h' => h')
    cases fin with
    | done f => exact hf
    | again c' =>
      rcases hf with ⟨rfl, m, hm, hI⟩ | hf
      · exact ⟨hq, ih m hm hI⟩
      · exact hf
theorem R.runOwn {c : Code} {env : Env} {Q : Flow → Shared → Prop} (hc : codeR M A c (fun r s' => match r with | .ok f => Q f s' | .error _ => False) s) : wpR M A (runOwn c env none) Q E s := by
  unfold PySem.runOwn
  exact R.onRaise (R.run (A := A) (h := none) hc)
theorem R.forIn {α β : Type} (f : α → β → Sem (ForInStep β)) (I : List α → β → Shared → Prop) (Q : β → Shared → Prop)
    (turn : ∀ x rest b s, I (x :: rest) b s → wpR M A (f x b) (fun r s' => match r with | .yield b' => I rest b' s' | .done b' => Q b' s') E s)
    (fin : ∀ b s, I [] b s → Q b s) (l : List α) (b : β) (h : I l b s) : wpR M A (forIn l b f) Q E s := by
  induction l generalizing b s with
  | nil => rw [List.forIn_nil]; exact R.pure (fin _ _ h)
  | cons x l ih =>
    rw [List.forIn_cons]
    refine R.bind (R.mono (turn x l b s h) (fun r s' hr => ?_) fun _ _ h' => h')
    cases r with
    | done b' => exact R.pure hr
    | yield b' => exact ih _ hr
end

section
variable {M : Model} {A : Around} {E : Value → Shared → Prop} {s : Shared} {env : Env}
theorem R.execs {st rest} {Q : Flow → Shared → Prop} (h : wpR M A (exec st env) (fun f s' => match f with | .next => wpR M A (execs rest env) Q E s' | f => Q f s') E s) : wpR M A (execs (st :: rest) env) Q E s := by
  rw [execs_cons]
  refine R.bind (R.mono h (fun f s' h' => ?_) fun _ _ x => x)
  cases f <;> first | exact h' | exact R.pure h'
/-- a statement off the path -/
theorem R.next {st rest} {Q : Flow → Shared → Prop} (h : wpAny M A (exec st env) (fun f s' => match f with | .next => wpR M A (PySem.execs rest env) Q E s' | f => Q f s') E s) : wpR M A (PySem.execs (st :: rest) env) Q E s := R.execs (R.of h)
theorem R.If {test body orelse pos} {Q : Flow → Shared → Prop}
    (h : wpR M A (isTrue test env (eval test env)) (fun b s₂ => if b then wpR M A (PySem.execs body env) Q E s₂ else wpR M A (PySem.execs orelse env) Q E s₂) E s) : wpR M A (exec (.If test body orelse pos) env) Q E s := by
  rw [exec_If]
  refine R.step (wpAny_standAt (R.bind (R.mono h (fun b s₂ h₂ => ?_) fun _ _ x => x)))
  cases b <;> exact h₂
theorem R.Assign {x pos' value pos} {Q : Flow → Shared → Prop} (h : wpR M A (eval value env) (fun v s₁ => wpAny M A (storeName env x v) (fun _ => Q .next) E s₁) E s)
    (hs : swapsWith value (some (.Name x pos')) pos.line env = Pure.pure false := by rfl) : wpR M A (exec (.Assign [.Name x pos'] value pos) env) Q E s := by
  rw [exec_Assign_Name env x pos' value pos hs]
  exact R.step (wpAny_standAt (R.bind (R.mono h (fun v s₁ h₁ => R.step (wpAny_standAt (R.of (wpAny_bind (wpAny_bindName (wpAny_mono h₁ (fun _ _ q => wpAny_pure q) fun _ _ x => x)))))) fun _ _ x => x)))
theorem R.cmp {l op r pos whole} {Q : Bool → Shared → Prop}
    (h : wpR M A (eval l env) (fun a s₁ => wpAny M A (eval r env) (fun b s₂ => wpAny M A (compareOp op a b) (fun c s₃ => wpAny M A (truthy c) Q E s₃) E s₂) E s₁) E s)
    (hm : behindInMarks op r = false := by with_unfolding_all rfl) : wpR M A (isTrue (.Compare l [op] [r] pos) env whole) Q E s := fun Γ p hΓ hc => by
  simp only [isTrue_Compare1, markedBehindIn_of_false hm, Sem.wp_bind', Sem.wp_holding, Sem.wp_cmd_standAt, Sem.wp_operate]
  exact Sem.wp_mono M Γ _ (fun a p₁ s₁ h₁ => Sem.wp_mono M Γ _ (fun b _ s₂ h₂ => Sem.wp_mono M Γ _ (fun c p₃ s₃ h₃ => h₃ Γ p₃ hΓ)
    (fun _ _ _ h' => h') _ _ (h₂ Γ _ hΓ)) (fun _ _ _ h' => h') _ _ (h₁ Γ p₁ hΓ)) (fun _ _ _ h' => h') _ _ (h Γ p hΓ hc)
theorem R.orCons {x : Expr} {rest : List Expr} {pos whole} {Q : Bool → Shared → Prop}
    (h : wpR M A (isTrue x env (eval x env)) (fun b s₁ => if b then Q true s₁ else wpR M A (allTrue .Or rest env) Q E s₁) E s) : wpR M A (isTrue (.BoolOp .Or (x :: rest) pos) env whole) Q E s := by
  rw [arm_isTrue_BoolOp]
  show wpR M A (do match BoolOp.Or, ← isTrue x env (eval x env) with | .And, false => Pure.pure false | .Or, true => Pure.pure true | _, _ => allTrue .Or rest env) Q E s
  refine R.bind (R.mono h (fun b s₁ h₁ => ?_) fun _ _ x => x)
  cases b
  · exact h₁
  · exact R.pure h₁
theorem R.For {target iter body orelse pos} {Q : Flow → Shared → Prop}
    (h : wpAny M A (eval iter env) (fun x s₁ => wpAny M A (pyIter x) (fun it s₂ => codeR M A (.forLoop target it body orelse env) (fun r s' => match r with | .ok f => Q f s' | .error _ => False) s₂) E s₁) E s)
    (hs : ∀ x, foldedSetIterable iter env x = Pure.pure x := by intro _; rfl) : wpR M A (exec (.For target iter body orelse pos) env) Q E s := by
  rw [exec_For]
  exact R.step (wpAny_standAt (R.step (wpAny_mono h (fun x s₁ h₁ => R.step (wpAny_of_eq (hs x) (R.step (wpAny_standAt (R.step (wpAny_holding (wpAny_mono h₁ (fun it s₂ h₂ => R.runOwn h₂) fun _ _ h' => h'))))))) fun _ _ h' => h')))
theorem R.Try {body orelse : List Stmt} {h₀ : ExceptHandler} {hs : List ExceptHandler} {pos : Pos} {Q : Flow → Shared → Prop}
    (h : wpR M A (PySem.execs body env) (fun f s₁ => match f with | .next => wpAny M A (PySem.execs orelse env) Q E s₁ | f => Q f s₁)
      (fun e s₁ => wpAny M A (noteFrame e env) (fun _ s₂ => wpAny M A (setFlight e none) (fun _ s₃ => wpAny M A (handleBy e env (h₀ :: hs)) Q E s₃) E s₂) E s₁) s) :
    wpR M A (exec (.Try body (h₀ :: hs) orelse [] pos) env) Q E s := by
  rw [arm_exec_Try]
  refine R.step (wpAny_standAt ?_)
  unfold tryStmt
  simp only [List.isEmpty_nil, if_true, List.isEmpty_cons, Bool.false_and, Bool.false_eq_true, if_false]
  refine R.bind (R.attempt (R.mono h (fun f s₁ h₁ => ?_) fun e s₁ h₁ => ?_))
  · cases f <;> first | exact R.of h₁ | exact R.pure h₁
  · exact R.of (wpAny_bind (wpAny_mono h₁ (fun _ _ h₂ => wpAny_bind h₂) fun _ _ x => x))
end

section
variable {prog : Program} {w : World} {A : Around} {E : Value → Shared → Prop} {s : Shared} {env : Env}
theorem R.block {stmts : List Stmt} {K : Result → Shared → Prop} (h : wpR (model prog w) A (PySem.execs stmts env) (fun f s' => K (.ok f) s') (fun _ _ => False) s) : codeR (model prog w) A (.block stmts env) K s := by
  refine R.tree ?_
  show wpR _ _ (do return Fin.done (← (PySem.execs stmts env).onRaise (fun x => do noteFrame x env; theTreesLotGoes x))) _ _ s
  exact R.bind (R.onRaise (R.mono h (fun f s' h' => R.pure h') fun _ _ h' => h'))
theorem R.forLoop {K : Result → Shared → Prop} {target it body orelse} (I : Nat → Shared → Prop)
    (turn : ∀ n s, I n s → wpAny (model prog w) A (pyNext it) (fun r s₁ => match r with
      | none => wpAny (model prog w) A (PySem.execs orelse env) (fun f s₃ => K (.ok f) s₃) (fun _ _ => False) s₁
      | some v => wpAny (model prog w) A (assign target env v) (fun _ s₂ => wpR (model prog w) A (PySem.execs body env) (fun f s₃ => match f with
          | .next | .cont => ∃ m, m < n ∧ I m s₃
          | .brk => K (.ok .next) s₃
          | .ret v => K (.ok (.ret v)) s₃) (fun _ _ => False) s₂) (fun _ _ => False) s₁) (fun _ _ => False) s)
    (n : Nat) (h : I n s) (ht : ∀ v, letOwnedTupleGo target it v = Pure.pure () := by intro _; rfl) : codeR (model prog w) A (.forLoop target it body orelse env) K s := by
  refine R.loop rfl I (fun n s hI => ?_) n h
  show wpR _ _ ((forTurn target it body orelse env).onRaise (fun x => do noteFrame x env; theTreesLotGoes x)) _ _ s
  refine R.onRaise ?_
  simp only [forTurn]
  refine R.step (wpAny_standAt (R.bind (R.onRaise (R.of (wpAny_mono (turn n s hI) (fun r s₁ h₁ => ?_) fun _ _ h' => h')))))
  cases r with
  | none => exact R.pure (.inr ⟨rfl, R.block (R.of h₁)⟩)
  | some v =>
    refine R.step (wpAny_of_eq (ht v) ?_)
    refine R.step (wpAny_mono h₁ (fun _ s₂ h₂ => R.bind (R.mono h₂ (fun f s₃ h₃ => ?_) fun _ _ h' => h')) fun _ _ h' => h')
    cases f with
    | next => exact R.pure (.inl ⟨rfl, h₃⟩)
    | cont => exact R.pure (.inl ⟨rfl, h₃⟩)
    | brk => exact R.pure h₃
    | ret v => exact R.pure h₃
theorem R.func {body} {K : Result → Shared → Prop} (h : wpR (model prog w) (A.deeper env) (PySem.execs body env) (fun f s' => K (.ok (.ret (match f with | .ret v => v | _ => .none))) s') (fun _ _ => False) s) : codeR (model prog w) A (.func body env) K s := by
  refine R.tree ?_
  show wpR _ (A.deeper env) (do point; match ← (PySem.execs body env).onRaise (leaving env) with | .ret v => ret v | _ => ret .none) _ _ s
  refine R.step (wpAny_point (R.bind (R.onRaise (R.mono h (fun f s' h' => ?_) fun _ _ h' => h'))))
  cases f <;> exact R.pure h'
theorem R.fn {a : Addr} {args : Args} {o : Obj} {fd : FuncData} {body : List Stmt} {K : Result → Shared → Prop} (hroom : A.depth < recursionLimit) (ho : s.heap.get? a = some o)
    (hd' : o.data = .func fd) (hco : fd.scope.isCoroutine = false) (hgen : fd.scope.isGenerator = false) (hbody : fd.body = .stmts body) (hcd : s.heap.CodeRec fd.code fd.qualname)
    (h : wpAny (model prog w) A.in1 (bindArgs fd args) (fun binds s₁ =>
      wpAny (model prog w) A.in1 (newFunctionEnv fd.scope fd.globals fd.closure binds (fd.qualname ++ ".<locals>.") (some a) fd.code none fd.builtins)
        (fun env s₂ => s₂.heap.NoLimit ∧ codeR (model prog w) A (.func body env) K s₂) (fun e s' => K (.error e) s') s₁) (fun e s' => K (.error e) s') s) :
    codeR (model prog w) A (.call (.ref a) args) K s := by
  refine R.tree ?_
  show wpR _ A.in1 (callAny (.ref a) args) _ _ s
  simp only [callAny]
  refine R.step (wpAny_load ho ?_)
  obtain ⟨c, oc, vs, tq, hc, hoc, hdc, hq⟩ := hcd
  simp only [hd', callFunction, hco, hgen, hbody, hc]
  rw [hc] at h
  refine R.step (m := field (.ref c) 1) (wpAny_field hoc hdc hq (R.step (wpAny_pure ?_)))
  exact R.step (wpAny_mono h (fun binds s₁ h₁ => R.step (wpAny_mono h₁ (fun env s₂ h₂ => R.step (wpAny_enterFrame h₂.1 hroom
    (R.pure (And.intro rfl h₂.2)))) fun _ _ h' => h')) fun _ _ h' => h')
theorem R.def {K : Result → Shared → Prop} {a : Addr} {o : Obj} {fd : FuncData} {body : List Stmt} {args : Args} {binds : List (Str × Value)}
    (hroom : A.depth < recursionLimit) (ho : s.heap.get? a = some o) (hdata : o.data = .func fd) (hlim : s.heap.NoLimit) (hcd : s.heap.CodeRec fd.code fd.qualname)
    (hbody : fd.body = .stmts body) (hbind : BindsTo s fd args binds)
    (hcell : ∀ x ∈ fd.scope.names, x.2 ≠ .cell) (hloc : ∀ x ∈ binds, fd.scope.names.lookup x.1 = some .local)
    (h : ∀ h₀, h₀.Ns s.heap.objs.size (fun x => binds.reverse.lookup x) → (∀ b o, s.heap.get? b = some o → h₀.get? b = some o) →
      wpR (model prog w) (A.deeper (callEnv fd s.heap.objs.size a)) (PySem.execs body (callEnv fd s.heap.objs.size a)) (fun f s' => K (.ok (.ret (match f with | .ret v => v | _ => .none))) s')
        (fun _ _ => False) { s with heap := h₀, toks := s.toks + binds.length })
    (hco : fd.scope.isCoroutine = false) (hgen : fd.scope.isGenerator = false) (hk : fd.scope.kind = .function) :
    codeR (model prog w) A (.call (.ref a) args) K s := by
  refine R.fn hroom ho hdata hco hgen hbody hcd (hbind _ _ _ _ ?_)
  refine wpAny_newFunctionEnv hcell hloc (fun h₀ hns₀ hsb₀ => ⟨hlim.fresh _ hsb₀, R.func (h h₀ hns₀ fun b o e => ?_)⟩) hk
  exact hsb₀.extBut b o (Nat.ne_of_lt (Heap.lt_size e)) (Heap.get?_push_of_some _ e)
end
end Mine
end

section
namespace Mine
open PySem PySem.W PyProof.Rows PySem.Calls

section
variable {prog : Program} {w : World} {A : Around} {E : Value → Shared → Prop} {s : Shared} {env : Env} {L : Addr} {ns : List (Str × NameKind)} {l : List (Str × Value)}

/-- two names of a tuple of two -/
theorem assign2 {x y : Str} {px py pos : Pos} {k : Nat} {t : Addr} {u v : Value} {Q : Unit → Shared → Prop} (e : Ev env L ns) (hh : A.handled = none) (hn : s.heap.Ns L (mp l)) (ht : s.heap.IsTuple t #[u, v])
    (hx : ns.lookup x = some .local) (hy : ns.lookup y = some .local)
    (h : ∀ h' tk, h'.Ns L (mp ((y, v) :: (x, u) :: l)) → (∀ b o, b ≠ L → s.heap.get? b = some o → h'.get? b = some o) → Q () { s with heap := h', toks := tk }) :
    wpAny (model prog w) A (assign (.Tuple [.Name x px, .Name y py] k pos) env (.ref t)) Q E s := by
  refine wpAny_assign_Tuple hh ht rfl rfl fun h₁ hs₁ => ?_
  have hLs : L ≠ s.heap.objs.size := Nat.ne_of_lt hn.lt
  refine wpAny_assignInOrder_more (wpAny_assign_Name (st e (ns_at hn fun o q => hs₁ L o hLs q) (fun h₂ hn₂ hs₂ => ?_) hx))
  refine wpAny_assignInOrder_more (wpAny_assign_Name (st e hn₂ (fun h₃ hn₃ hs₃ => ?_) hy))
  refine wpAny_assignInOrder_none (h h₃ _ hn₃ fun b o hb q => hs₃.extBut b o hb (hs₂.extBut b o hb (hs₁ b o (Nat.ne_of_lt (Heap.lt_size q)) q)))
end

section
variable {M : Model} {A : Around} {R : GenEnd} {Y : Protocol} {n : Nat} {s₀ : Shared} {c : Code} {fs : List Frame} {s : Shared} {env : Env}
  {K : Flow → Sem Fin} {H : Value → Sem Fin} {gd : Bool → Bool} {lv : List Value → List Value}

/-- a statement that does not yield -/
theorem seg_stmt {st : Stmt} {rest : List Stmt}
    (h : wpAny M (A.over c fs) (exec st env) (fun f s' => Seg M A R Y n s₀ c (match f with | .next => (execs rest env).wrap K H gd lv | f => K f) fs s') (fun _ _ => False) s) :
    Seg M A R Y n s₀ c ((execs (st :: rest) env).wrap K H gd lv) fs s := by
  rw [execs_cons_wrap]
  exact seg_wrap (wpAny_mono h (fun _ _ q => q) (fun _ _ z => z.elim))

theorem seg_If {test : Expr} {body orelse : List Stmt} {pos : Pos}
    (h : wpAny M (A.over c fs) (isTrue test env (eval test env)) (fun b s' => if b = true then Seg M A R Y n s₀ c ((execs body env).wrap K H gd lv) fs s' else Seg M A R Y n s₀ c ((execs orelse env).wrap K H gd lv) fs s') (fun _ _ => False) s) :
    Seg M A R Y n s₀ c ((exec (.If test body orelse pos) env).wrap K H gd lv) fs s := by
  rw [exec_If]
  refine seg_bind_wrap (wpAny_standAt ?_)
  refine seg_bind_wrap (wpAny_mono h (fun b s' q => ?_) (fun _ _ z => z.elim))
  cases b with
  | true => simpa using q
  | false => simpa using q

theorem seg_For {target iter : Expr} {body orelse : List Stmt} {pos : Pos} (hs : ∀ x, foldedSetIterable iter env x = pure x)
    (h : wpAny M (A.over c fs) (eval iter env) (fun x s₁ => wpAny M (A.over c fs) (pyIter x) (fun it s₂ => ∀ p, Seg M A R Y n s₀ (.forLoop target it body orelse env) (M.den (.forLoop target it body orelse env))
      (.ret (fun r => ((match r with | .ok f => (.pure f : Sem Flow) | .error e => .raise e).onRaise fun (x : Value) => do
        if (← field x 1) == Value.none then unsupported "frame.own-activation:exception-without-traceback"
        setFlight x env.frame).wrap K H gd lv) none (gd false) (lv []) c p [] :: fs) s₂) (fun _ _ => False) s₁) (fun _ _ => False) s) :
    Seg M A R Y n s₀ c ((exec (.For target iter body orelse pos) env).wrap K H gd lv) fs s := by
  rw [exec_For]
  refine seg_bind_wrap (wpAny_standAt ?_)
  refine seg_bind_wrap (wpAny_mono h (fun x s₁ h₁ => ?_) (fun _ _ z => z.elim))
  rw [hs]
  refine seg_bind_wrap (wpAny_pure ?_)
  refine seg_bind_wrap (wpAny_standAt ?_)
  refine seg_bind_wrap (wpAny_holding (wpAny_mono h₁ (fun it s₂ h₂ => ?_) (fun _ _ z => z.elim)))
  exact seg_call h₂
end

section
variable {prog : Program} {w : World} {A : Around} {R : GenEnd} {Y : Protocol} {n : Nat} {s₀ : Shared} {fs : List Frame} {s : Shared} {env : Env}

def hFor (env : Env) : Value → Sem Fin := fun e => (do noteFrame e env; theTreesLotGoes e : Sem Unit).wrap (fun _ => .raise e) .raise id id

theorem seg_forLoop {target : Expr} {it : Value} {body orelse : List Stmt}
    (h : wpAny (model prog w) (A.over (.forLoop target it body orelse env) fs) (pyNext it) (fun r s₁ => match r with
      | none => Seg (model prog w) A R Y n s₀ (.block orelse env) ((model prog w).den (.block orelse env)) fs s₁
      | some v => wpAny (model prog w) (A.over (.forLoop target it body orelse env) fs) (letOwnedTupleGo target it v) (fun _ s₂ =>
          wpAny (model prog w) (A.over (.forLoop target it body orelse env) fs) (assign target env v) (fun _ s₃ =>
            Seg (model prog w) A R Y n s₀ (.forLoop target it body orelse env) ((execs body env).wrap (fun f => match f with
            | .next | .cont => .pure (.again (.forLoop target it body orelse env))
            | .brk => .pure (.done .next)
            | .ret v => .pure (.done (.ret v))) (hFor env) id id) fs s₃) (fun _ _ => False) s₂) (fun _ _ => False) s₁) (fun _ _ => False) s) :
    Seg (model prog w) A R Y n s₀ (.forLoop target it body orelse env) ((model prog w).den (.forLoop target it body orelse env)) fs s := by
  show Seg _ A R Y n s₀ _ ((forTurn target it body orelse env).onRaise (fun x => do noteFrame x env; theTreesLotGoes x)) fs s
  unfold forTurn
  rw [Sem.onRaise_eq_wrap]
  refine seg_bind_wrap (wpAny_standAt ?_)
  refine seg_bind_wrap (wpAny_onRaise (wpAny_mono h (fun r s₁ h₁ => ?_) (fun _ _ z => z.elim)))
  cases r with
  | none => exact seg_again rfl h₁
  | some v =>
    refine seg_bind_wrap (wpAny_mono h₁ (fun _ s₂ h₂ => ?_) (fun _ _ z => z.elim))
    refine seg_bind_wrap (wpAny_mono h₂ (fun _ s₃ h₃ => ?_) (fun _ _ z => z.elim))
    rw [Sem.bind_eq_wrap', Sem.wrap_wrap]
    rw [Sem.wrap_congr (execs body env) _ _ (K' := fun f => match f with
            | .next | .cont => .pure (.again (.forLoop target it body orelse env))
            | .brk => .pure (.done .next)
            | .ret v => .pure (.done (.ret v))) (H' := hFor env)
        (fun f => by cases f <;> rfl)
        (fun e => by first | exact Sem.bind_eq_wrap _ _ | (show (do noteFrame e env; theTreesLotGoes e : Sem Unit).bind (fun _ => .raise e) = _; rw [Sem.bind_eq_wrap]; rfl))]
    exact h₃

theorem seg_block_nil {k : Result → Sem Fin} {h g l c₁ p₁ kp} (hk : Seg (model prog w) A R Y n s₀ c₁ (k (.ok .next)) fs s) :
    Seg (model prog w) A R Y n s₀ (.block [] env) ((model prog w).den (.block [] env)) (.ret k h g l c₁ p₁ kp :: fs) s := seg_leaf (.ok .next) hk
end
end Mine
end

section
namespace Mine
open PySem PySem.W PyProof.Rows PySem.Calls

/-- what _iter_escaped_chars yields -/
def escItems : List Nat → Nat → Bool → List (Nat × Str)
  | [], _, _ => []
  | c :: r, p, true => (p, ⟨#[92, c]⟩) :: escItems r (p + 1) false
  | c :: r, p, false => if c = 92 then escItems r (p + 1) true else (p, ⟨#[c]⟩) :: escItems r (p + 1) false
/-- whether it ends behind a lone backslash -/
def escEnd : List Nat → Bool → Bool
  | [], e => e
  | _ :: r, true => escEnd r false
  | c :: r, false => escEnd r (c == 92)

structure GI (Lg En Si : Addr) (x : Str) (t : Tok) (i : Nat) (e : Bool) (h : Heap) : Prop where
  ns : ∃ l, h.Ns Lg (mp l) ∧ l.lookup (Str.ofString "escape") = some (.bool e)
  en : ∃ old, IsEnum h En Si i old
  si : h.IsStrIter Si "str_ascii_iterator" x t i

theorem GI.at {Lg En Si : Addr} {x : Str} {t : Tok} {i : Nat} {e : Bool} {h h' : Heap} (g : GI Lg En Si x t i e h) (hk : ∀ b ∈ [Lg, En, Si], ∀ o, h.get? b = some o → h'.get? b = some o) : GI Lg En Si x t i e h' where
  ns := let ⟨l, a, b⟩ := g.ns; ⟨l, ns_at a fun o q => hk Lg (by simp) o q, b⟩
  en := let ⟨o, a⟩ := g.en; ⟨o, hk En (by simp) _ a⟩
  si := let ⟨o, a, b⟩ := g.si; ⟨o, hk Si (by simp) _ a, b⟩

def esProto (its : List (Nat × Str)) (Lg En Si : Addr) : Protocol := fun m s₀ v s kap =>
  (∃ p x t u a, its[its.length - 1 - m]? = some (p, x) ∧ v = .ref a ∧ s.heap.get? a = some { cls := .type "tuple", data := .seq #[.int (p : Nat) t, .str x u] } ∧ s₀.heap.get? a = none) ∧
    GenSince Lg [En, Si] s₀ s ∧ ∀ s'' : Shared, (∀ b ∈ [Lg, En, Si], ∀ o, s.heap.get? b = some o → s''.heap.get? b = some o) → kap (.send .none) s''

def esEnd (Lg En Si : Addr) : GenEnd := fun n s₀ r s₁ => r = .ok (.ret .none) ∧ (n = 0 ∧ GenSince Lg [En, Si] s₀ s₁)

theorem gs_none {Lg En Si : Addr} {s₀ s : Shared} {a : Addr} (g : GenSince Lg [En, Si] s₀ s) (h : s.heap.get? a = none) (hl : s.heap.get? Lg ≠ none) (he : s.heap.get? En ≠ none) (hs : s.heap.get? Si ≠ none) : s₀.heap.get? a = none := by
  obtain ⟨h', tk, rfl, hk⟩ := g
  dsimp only at h hl he hs
  cases e : s₀.heap.get? a with
  | none => rfl
  | some o =>
    have := hk a o (fun z => hl (z ▸ h)) (fun z => by
      rcases List.mem_cons.mp z with z | z
      · exact he (z ▸ h)
      · exact hs ((List.mem_singleton.mp z) ▸ h)) e
    rw [h] at this; cases this

section
variable {prog : Program} {w : World} {A : Around}

set_option maxHeartbeats 1000000 in
theorem es_loop {Lg En Si : Addr} {x : Str} {t : Tok} {its : List (Nat × Str)} {env : Env} {ns : List (Str × NameKind)} {p1 p2 p3 p4 p5 p6 p7 p8 p9 p10 p11 p12 p13 p14 p15 p16 p17 p18 p19 p20 p21 p22 p23 p24 p25 p26 p27 : Pos} {k1 k2 k3 k4 k5 k6 k7 : Nat}
    {kF : Result → Sem Fin} {c₁ : Code} {pp : Pos} {body : List Stmt}
    (e : Ev env Lg ns) (hns : ns = [(Str.ofString "addr", .local), (Str.ofString "pos", .local), (Str.ofString "escape", .local), (Str.ofString "ch", .local), (Str.ofString "enumerate", .globalImplicit)])
    (hbody : body = [.If (.Name (Str.ofString "escape") p4)
            [.Expr (.Yield (some (.Tuple [.Name (Str.ofString "pos") p5, .BinOp (.Constant (.str (Str.ofString "\\")) k2 p6) .Add (.Name (Str.ofString "ch") p7) p8] k3 p9)) p10) p11,
             .Assign [.Name (Str.ofString "escape") p12] (.Constant (.bool false) k4 p13) p14]
            [.If (.Compare (.Name (Str.ofString "ch") p15) [.Eq] [.Constant (.str (Str.ofString "\\")) k5 p16] p17)
              [.Assign [.Name (Str.ofString "escape") p18] (.Constant (.bool true) k6 p19) p20]
              [.Expr (.Yield (some (.Tuple [.Name (Str.ofString "pos") p21, .Name (Str.ofString "ch") p22] k7 p23)) p24) p25] p26] p27])
    (hco : env.scope.isCoroutine = false) (hin : interactive env = false)
    (hLE : Lg ≠ En) (hLS : Lg ≠ Si) (hES : En ≠ Si)
    (hh : ∀ c, (A.over c (.ret kF none false [] c₁ pp [] :: [])).handled = none)
    (hfin : ∀ s₀ s, (∃ l, s.heap.Ns Lg (mp l) ∧ l.lookup (Str.ofString "escape") = some (.bool false)) → GenSince Lg [En, Si] s₀ s → Seg (model prog w) A (esEnd Lg En Si) (esProto its Lg En Si) 0 s₀ c₁ (kF (.ok .next)) [] s) :
    ∀ (k i : Nat) (b : Bool) (s₀ s : Shared), x.cps.toList.length - i = k → i ≤ x.cps.toList.length → GI Lg En Si x t i b s.heap → GenSince Lg [En, Si] s₀ s →
      (∃ pre, its = pre ++ escItems (x.cps.toList.drop i) i b) → escEnd (x.cps.toList.drop i) b = false →
      Seg (model prog w) A (esEnd Lg En Si) (esProto its Lg En Si) (escItems (x.cps.toList.drop i) i b).length s₀
        (.forLoop (.Tuple [.Name (Str.ofString "pos") p1, .Name (Str.ofString "ch") p2] k1 p3) (.ref En) body [] env)
        ((model prog w).den (.forLoop (.Tuple [.Name (Str.ofString "pos") p1, .Name (Str.ofString "ch") p2] k1 p3) (.ref En) body [] env)) (.ret kF none false [] c₁ pp [] :: []) s := by
  subst hns
  intro k
  induction k with
  | zero =>
    intro i b s₀ s hk hi gi gs hpre hend
    have hi' : i = x.cps.toList.length := by omega
    subst hi'
    rw [List.drop_length] at hend ⊢
    have hb : b = false := hend
    subst hb
    obtain ⟨old, hen⟩ := gi.en
    refine seg_forLoop (wpAny_pyNext_enum_endD (Draws.strAscii ((Around.in1_handled _).trans (hh _)) Si x t) hen (by simpa using gi.si) fun h₁ hs₁ => ?_)
    dsimp only
    refine seg_block_nil ?_
    obtain ⟨l, hn, hesc⟩ := gi.ns
    exact hfin s₀ _ ⟨l, ns_at hn fun o q => hs₁ Lg o hLS q, hesc⟩ (gs.step fun b o _ hw q => hs₁ b o (fun z => hw (by simp [z])) q)
  | succ k ih =>
    intro i b s₀ s hk hi gi gs hpre hend
    have hlt : i < x.cps.toList.length := by omega
    obtain ⟨c, hc⟩ : ∃ c, x.cps.toList[i]? = some c := ⟨_, List.getElem?_eq_getElem hlt⟩
    have hdrop : x.cps.toList.drop i = c :: x.cps.toList.drop (i + 1) := by
      rw [List.drop_eq_getElem_cons hlt]
      congr 1
      rw [List.getElem?_eq_getElem hlt] at hc
      exact Option.some.inj hc
    rw [hdrop] at hpre hend ⊢
    obtain ⟨old, hen⟩ := gi.en
    obtain ⟨l, hn, hesc⟩ := gi.ns
    refine seg_forLoop (wpAny_pyNext_enum_itemD (Draws.strAscii ((Around.in1_handled _).trans (hh _)) Si x t) hen gi.si (by simpa using hlt) hES (by simpa using hES) fun xv h₁ tk₁ hP hout hsi ht₁ hsz hk₁ => ?_)
    obtain ⟨c', u, hc', rfl⟩ := hP
    have : c' = c := by
      rw [← Array.getElem?_toList, hc] at hc'
      exact (Option.some.inj hc').symm
    subst this
    dsimp only
    refine wpAny_letOwnedTupleGo_enum hout fun h₂ hen₂ hs₂ => ?_
    dsimp only at hs₂ ⊢
    have hTL : s.heap.objs.size ≠ Lg := Nat.ne_of_gt hn.lt
    have hTE : s.heap.objs.size ≠ En := Nat.ne_of_gt (Heap.lt_size hen)
    have hTS : s.heap.objs.size ≠ Si := by obtain ⟨o, q, _⟩ := gi.si; exact Nat.ne_of_gt (Heap.lt_size q)
    have ht₂ : h₂.IsTuple s.heap.objs.size #[.int i tk₁, .str ⟨#[c']⟩ u] := ⟨_, hs₂.extBut _ _ hTE ht₁, rfl, _, rfl⟩
    have hn₂ : h₂.Ns Lg (mp l) := ns_at (ns_at hn fun o q => hk₁ Lg o hLE hLS q) fun o q => hs₂.extBut Lg o hLE q
    refine assign2 e (hh _) hn₂ ht₂ rfl rfl fun h₃ tk₃ hn₃ hk₃ => ?_
    dsimp only at hk₃ ⊢
    have gs₃ : GenSince Lg [En, Si] s₀ { s with heap := h₃, toks := tk₃ } := gs.step fun b o hb hw q => hk₃ b o hb (hs₂.extBut b o (fun z => hw (by simp [z])) (hk₁ b o (fun z => hw (by simp [z])) (fun z => hw (by simp [z])) q))
    have hen₃ : IsEnum h₃ En Si ((i + 1 : Nat) : Int) (.str ⟨#[c']⟩ u) := hk₃ En _ (Ne.symm hLE) (by simpa using hen₂)
    have hsi₃ : h₃.IsStrIter Si "str_ascii_iterator" x t (i + 1) := by
      obtain ⟨o, q, r⟩ := hsi
      exact ⟨o, hk₃ Si o (Ne.symm hLS) (hs₂.extBut Si o (Ne.symm hES) q), r⟩
    have gi₃ : ∀ b', l.lookup (Str.ofString "escape") = some (.bool b') → GI Lg En Si x t (i + 1) b' h₃ := fun b' hb' => ⟨⟨_, hn₃, hb'⟩, ⟨_, hen₃⟩, hsi₃⟩
    have nL : h₃.get? Lg ≠ none := ns_in hn₃
    have nE : h₃.get? En ≠ none := fun z => by have := hen₃; unfold IsEnum at this; rw [z] at this; cases this
    have nS : h₃.get? Si ≠ none := fun z => by obtain ⟨o, q, _⟩ := hsi₃; rw [z] at q; cases q
    have hi1 : i + 1 ≤ x.cps.toList.length := hlt
    have hk1 : x.cps.toList.length - (i + 1) = k := by omega
    subst hbody
    refine seg_execs_cons (seg_If (wpAny_isTrue_value (ld e hn₃ hesc (wpAny_truthy_bool ?_))))
    cases b with
    | true =>
      rw [if_pos rfl]
      have hl : (escItems (c' :: x.cps.toList.drop (i + 1)) i true).length = (escItems (x.cps.toList.drop (i + 1)) (i + 1) false).length + 1 := rfl
      rw [hl]
      refine seg_execs_cons (seg_Expr_Yield rfl rfl rfl ?_ hco hin)
      refine wpAny_Tuple (wpAny_items_cons (ld e hn₃ rfl (wpAny_items_cons (wpAny_BinOp (wpAny_Constant_str (ld e hn₃ rfl (addS (by show 1 + 1 ≤ 1048576; decide) fun t₄ tk₄ => wpAny_items_nil ⟨by show 2 ≤ sizeLine; decide, ?_⟩)))))))
      intro kap hkap
      have hidx : its[its.length - 1 - (escItems (x.cps.toList.drop (i + 1)) (i + 1) false).length]? = some (i, ⟨#[92, c']⟩) := by
        obtain ⟨pre, rfl⟩ := hpre
        rw [List.length_append, hl, show pre.length + ((escItems (x.cps.toList.drop (i + 1)) (i + 1) false).length + 1) - 1 - (escItems (x.cps.toList.drop (i + 1)) (i + 1) false).length = pre.length by omega]
        rw [List.getElem?_append_right (Nat.le_refl _), Nat.sub_self]; rfl
      dsimp only
      refine ⟨⟨i, ⟨#[92, c']⟩, _, _, _, hidx, rfl, Heap.get?_push_size _ rfl, gs_none gs₃ (get_size _) nL nE nS⟩, gs₃.step fun b o _ _ q => Heap.get?_push_of_some _ q, fun s'' hag => hkap .none s'' ?_⟩
      dsimp only
      have hn₅ : s''.heap.Ns Lg (mp _) := ns_at (hn₃.push _) fun o q => hag Lg (by simp) o q
      refine seg_stmt (wpAny_Assign_Name (wpAny_Constant_bool (st e hn₅ fun h₆ hn₆ hs₆ => ?_)))
      refine seg_execs_nil ?_
      refine seg_again rfl (ih (i + 1) false s'' _ hk1 hi1 ⟨⟨_, hn₆, rfl⟩, ⟨_, hs₆.extBut En _ (Ne.symm hLE) (hag En (by simp) _ (Heap.get?_push_of_some _ hen₃))⟩, ?_⟩ ?_ ?_ hend)
      · obtain ⟨o, q, r⟩ := hsi₃
        exact ⟨o, hs₆.extBut Si o (Ne.symm hLS) (hag Si (by simp) o (Heap.get?_push_of_some _ q)), r⟩
      · exact (GenSince.refl _ _ _).step fun b o hb _ q => hs₆.extBut b o hb q
      · obtain ⟨pre, rfl⟩ := hpre
        exact ⟨pre ++ [(i, ⟨#[92, c']⟩)], by rw [List.append_assoc]; rfl⟩
    | false =>
      rw [if_neg Bool.false_ne_true]
      refine seg_execs_cons (seg_If (wpAny_isTrue_Compare1 (ld e hn₃ rfl (wpAny_Constant_str (P.eq_str (wpAny_truthy_bool ?_))))))
      by_cases hc92 : c' = 92
      · subst hc92
        have : ((({ cps := #[92] } : Str).cps.toList == (Str.ofString "\\").cps.toList)) = true := by decide +kernel
        rw [this, if_pos rfl]
        refine seg_stmt (wpAny_Assign_Name (wpAny_Constant_bool (st e hn₃ fun h₆ hn₆ hs₆ => ?_)))
        refine seg_execs_nil ?_
        refine seg_execs_nil ?_
        have hl : escItems (92 :: x.cps.toList.drop (i + 1)) i false = escItems (x.cps.toList.drop (i + 1)) (i + 1) true := rfl
        rw [hl]
        refine seg_again rfl (ih (i + 1) true s₀ _ hk1 hi1 ⟨⟨_, hn₆, rfl⟩, ⟨_, hs₆.extBut En _ (Ne.symm hLE) hen₃⟩, ?_⟩ (gs₃.step fun b o hb _ q => hs₆.extBut b o hb q) hpre hend)
        obtain ⟨o, q, r⟩ := hsi₃
        exact ⟨o, hs₆.extBut Si o (Ne.symm hLS) q, r⟩
      · have : ((({ cps := #[c'] } : Str).cps.toList == (Str.ofString "\\").cps.toList)) = false := by
          have e1 : (Str.ofString "\\").cps.toList = [92] := by decide +kernel
          rw [e1]
          simpa using hc92
        rw [this, if_neg Bool.false_ne_true]
        have hl : escItems (c' :: x.cps.toList.drop (i + 1)) i false = (i, ⟨#[c']⟩) :: escItems (x.cps.toList.drop (i + 1)) (i + 1) false := by
          show (if c' = 92 then _ else _) = _
          rw [if_neg hc92]
        rw [hl] at hpre ⊢
        rw [List.length_cons]
        refine seg_execs_cons (seg_Expr_Yield rfl rfl rfl ?_ hco hin)
        refine wpAny_Tuple (wpAny_items_cons (ld e hn₃ rfl (wpAny_items_cons (ld e hn₃ rfl (wpAny_items_nil ⟨by show 2 ≤ sizeLine; decide, ?_⟩)))))
        intro kap hkap
        have hidx : its[its.length - 1 - (escItems (x.cps.toList.drop (i + 1)) (i + 1) false).length]? = some (i, ⟨#[c']⟩) := by
          obtain ⟨pre, rfl⟩ := hpre
          rw [List.length_append, List.length_cons, show pre.length + ((escItems (x.cps.toList.drop (i + 1)) (i + 1) false).length + 1) - 1 - (escItems (x.cps.toList.drop (i + 1)) (i + 1) false).length = pre.length by omega]
          rw [List.getElem?_append_right (Nat.le_refl _), Nat.sub_self]; rfl
        dsimp only
        refine ⟨⟨i, ⟨#[c']⟩, _, _, _, hidx, rfl, Heap.get?_push_size _ rfl, gs_none gs₃ (get_size _) nL nE nS⟩, gs₃.step fun b o _ _ q => Heap.get?_push_of_some _ q, fun s'' hag => hkap .none s'' ?_⟩
        dsimp only
        refine seg_execs_nil ?_
        refine seg_execs_nil ?_
        refine seg_again rfl (ih (i + 1) false s'' s'' hk1 hi1 ((gi₃ false hesc).at fun b hb o q => hag b hb o (Heap.get?_push_of_some _ q)) (GenSince.refl _ _ _) ?_ ?_)
        · obtain ⟨pre, rfl⟩ := hpre
          exact ⟨pre ++ [(i, ⟨#[c']⟩)], by rw [List.append_assoc]; rfl⟩
        · have : escEnd (c' :: x.cps.toList.drop (i + 1)) false = escEnd (x.cps.toList.drop (i + 1)) (c' == 92) := rfl
          rw [this, show (c' == 92) = false by simpa using hc92] at hend
          exact hend
end
end Mine
end

section
namespace Mine
open PySem PySem.W PyProof.Rows PySem.Calls

section
variable {prog : Program} {w : World} {A : Around} {E : Value → Shared → Prop} {s : Shared} {env : Env} {L : Addr} {ns : List (Str × NameKind)} {l : List (Str × Value)}

/-- f(e): a type of the builtins -/
theorem callT1 {id : Str} {T : String} {e₁ : Expr} {p pos : Pos} {Q : Value → Shared → Prop} (e : Ev env L ns) (g : Gr w s.heap) (hv : bootBuiltins id = some (.type T))
    (he : starEach [e₁] env = [(false, eval e₁ env)]) (hl : ns.lookup id = some .globalImplicit) (hm : nsIn (KK w) mainGlobals id = some none) (hx : id ≠ "__name__") (hd : (id == ("__debug__" : Str)) = false)
    (h : wpAny (model prog w) A (eval e₁ env) (fun v s₁ => wpAny (model prog w) A (call (.type T) [v]) Q E s₁) E s) :
    wpAny (model prog w) A (eval (.Call (.Name id p) [e₁] [] pos) env) Q E s := by
  refine wpAny_Call_NameR (ldb e g hv ?_ hl hm hx hd)
  refine PySem.callWith_type (by rw [he]; rfl) ?_
  rw [he]
  exact evalArgs_plain (spliced_cons (wpAny_mono h (fun v s₁ h₁ => spliced_nil h₁) fun _ _ z => z))
end

theorem ev_new {scope : Scope} {L : Addr} {qual : Str} {f : Addr} {cd : Value} {ns : List (Str × NameKind)} (h1 : scope.names = ns) (h2 : scope.kind = .function) : Ev (newEnv scope L mainGlobals [] qual (some f) cd none builtinsNs) L ns :=
  ⟨rfl, rfl, rfl, h2, fun x => by show scope.names.lookup x = _; rw [h1]⟩

/-- the generator a, number g, has yielded j of its; fp is what it keeps for itself -/
def Ready (prog : Program) (w : World) (A : Around) (a : Addr) (g : Nat) (its : List (Nat × Str)) (j : Nat) (fp : List Addr) (s : Shared) : Prop :=
  s.heap.IsGen a g ∧ a ∉ fp ∧ ∃ gs, s.gens[g]? = some gs ∧ ∀ s'' : Shared, (∀ b ∈ fp, ∀ o, s.heap.get? b = some o → s''.heap.get? b = some o) → Gr w s''.heap →
    ∃ Lg En Si, (∀ b ∈ [Lg, En, Si], b ∈ fp ∨ s''.heap.get? b = none) ∧ gs.Goes (model prog w) A.in1 (esEnd Lg En Si) (esProto its Lg En Si) (its.length - j) (.send .none) s''

section
variable {prog : Program} {w : World} {A : Around} {E : Value → Shared → Prop} {s : Shared}

set_option maxHeartbeats 1000000 in
theorem call_es {Q : Value → Shared → Prop} {x : Str} {t : Tok} {B : Around} (g : Gr w s.heap) (hroom : A.depth < recursionLimit) (hB : B.handled = none)
    (hx : (x.cps.all (· < 128)) = true) (hend : escEnd x.cps.toList false = false)
    (hQ : ∀ s' a Lg, Ready prog w B a s.gens.size (escItems x.cps.toList 0 false) 0 [Lg] s' → s.heap.get? Lg = none → s.heap.get? a = none → (∀ b o, s.heap.get? b = some o → s'.heap.get? b = some o) → s'.os = s.os → (∃ gs, GenState.bare gs = true ∧ s'.gens = s.gens.push gs) → Q (.ref a) s') :
    wpAny (model prog w) A (call (.ref 58) [.str x t]) Q E s := by
  refine wpAny_call (codeAny_call_generator hroom (g.k 58 _ rfl) rfl rfl rfl rfl (codeRec_of g.k rfl) ?_)
  refine wpAny_of_eq (a := [(Str.ofString "addr", .str x t)]) rfl ?_
  refine wpAny_newFunctionEnv (by decide) (locs rfl) (fun h₁ hn₁ hs₁ => ?_) rfl
  have hk₁ : ∀ b o, s.heap.get? b = some o → h₁.get? b = some o := fun b o q => hs₁.extBut b o (Nat.ne_of_lt (Heap.lt_size q)) (Heap.get?_push_of_some _ q)
  refine ⟨g.lim.keeps hk₁, ?_⟩
  dsimp only
  have hn₁' : h₁.Ns s.heap.objs.size (mp [(Str.ofString "addr", .str x t)]) := hn₁
  refine hQ _ _ s.heap.objs.size ⟨⟨_, _, _, Heap.get?_push_size _ rfl, rfl, rfl, rfl⟩, ?_, _, Array.getElem?_push_size .., fun s'' hag g'' => ?_⟩ (get_size _) ?_ (fun b o q => Heap.get?_push_of_some _ (hk₁ b o q)) rfl ⟨_, rfl, rfl⟩
  · simp only [List.mem_singleton]
    exact Nat.ne_of_gt hn₁.lt
  · refine ⟨s.heap.objs.size, s''.heap.objs.size + 1, s''.heap.objs.size, ?_, rfl, ?_⟩
    · intro b hb
      rcases List.mem_cons.mp hb with rfl | hb
      · exact .inl (by simp)
      · right
        cases q : s''.heap.get? b with
        | none => rfl
        | some o =>
          have := Heap.lt_size q
          simp only [List.mem_cons, List.not_mem_nil, or_false] at hb
          rcases hb with hb | hb
          · rw [hb] at this; exact absurd this (Nat.not_lt.mpr (Nat.le_succ _))
          · rw [hb] at this; exact absurd this (Nat.lt_irrefl _)
    · have hn'' : s''.heap.Ns s.heap.objs.size (mp [(Str.ofString "addr", .str x t)]) := ns_at (hn₁'.push _) fun o q => hag _ (by simp) o q
      refine seg_func ?_
      refine seg_stmt (wpAny_Assign_Name (wpAny_Constant_int (st (ev_new rfl rfl) hn'' fun h₂ hn₂ hs₂ => ?_)))
      refine seg_stmt (wpAny_Assign_Name (wpAny_Constant_bool (st (ev_new rfl rfl) hn₂ fun h₃ hn₃ hs₃ => ?_)))
      dsimp only at hs₂ hs₃ ⊢
      have b₃ : ∀ b o, b ≠ s.heap.objs.size → s''.heap.get? b = some o → h₃.get? b = some o := fun b o hb q => hs₃.extBut b o hb (hs₂.extBut b o hb q)
      have z₃ : h₃.objs.size = s''.heap.objs.size := hs₃.1.trans hs₂.1
      have g₃ : Gr w h₃ := g.on g'' fun b o hb q => b₃ b o (fun z => hb (z ▸ get_size _)) q
      refine seg_execs_cons (seg_For (fun _ => rfl) (callT1 (ev_new rfl rfl) g₃ rfl rfl rfl rfl (by decide) (by decide) (ld (ev_new rfl rfl) hn₃ rfl (call_enumerate_str fun h₄ hen₄ hsi₄ hz₄ hk₄ => ?_))))
      dsimp only at hen₄ hsi₄ hz₄ hk₄ ⊢
      refine wpAny_pyIter_enum hen₄ fun pp => ?_
      rw [z₃] at hen₄ hsi₄ ⊢
      have hLn : s.heap.objs.size < s''.heap.objs.size := hn''.lt
      have hty : strIterType x = "str_ascii_iterator" := by unfold strIterType; rw [if_pos hx]
      rw [hty] at hsi₄
      have hn₄ : h₄.Ns s.heap.objs.size (mp _) := hn₃.keeps hk₄
      have gi : GI s.heap.objs.size (s''.heap.objs.size + 1) s''.heap.objs.size x t 0 false h₄ := ⟨⟨_, hn₄, rfl⟩, ⟨_, by simpa using hen₄⟩, by simpa using hsi₄⟩
      refine es_loop (x := x) (t := t) (ev_new rfl rfl) rfl rfl rfl ?_ (Nat.ne_of_lt (Nat.lt_succ_of_lt hLn)) (Nat.ne_of_lt hLn) (Nat.succ_ne_self _) ?_ ?_ x.cps.toList.length 0 false s'' _ rfl (Nat.zero_le _) gi ?_ ⟨[], rfl⟩ hend
      · rfl
      · exact fun c => hB
      · rintro s₀ s₅ ⟨l, hn₅, hesc⟩ gs
        refine seg_execs_cons (seg_If (wpAny_isTrue_value (ld (ev_new rfl rfl) hn₅ hesc (wpAny_truthy_bool ?_))))
        rw [if_neg Bool.false_ne_true]
        refine seg_execs_nil (seg_execs_nil ?_)
        exact seg_end (.ok (.ret .none)) ⟨rfl, rfl, gs⟩
      · exact (GenSince.refl _ _ _).step fun b o hb _ q => hk₄ b o (b₃ b o hb q)
  · cases q : s.heap.get? h₁.objs.size with
    | none => rfl
    | some o => exact absurd (Heap.lt_size (hk₁ _ _ q)) (Nat.lt_irrefl _)
end
end Mine
end

section
namespace Mine
open PySem PySem.W PyProof.Rows PySem.Calls
open Sem (wp)

section
variable {M : Model} {A : Around} {E : Value → Shared → Prop} {s : Shared} {env : Env}
theorem R.withType {pos : Pos} {T : String} {first : List Value} {args : List (Bool × Sem Value)} {Q : Value → Shared → Prop} (hplain : args.any (·.1) = false)
    (h : wpAny M A (evalArgs (.type T) true args []) (fun a s₁ => wpR M A (PySem.call (.type T) (first ++ a.pos) a.kw) Q E s₁) E s) : wpR M A (callWith pos (.type T) first args []) Q E s := by
  unfold callWith
  refine R.step (wpAny_holding (wpAny_mono h (fun a s₁ h₁ => R.step (wpAny_standAt ?_)) fun _ _ x => x))
  simp only [hplain, List.any_nil, Bool.or_false]
  refine R.step (m := keeperOf (.type T)) (wpAny_of_eq (a := Keeper.machine) rfl ?_)
  exact R.bind (R.mono h₁ (fun r s₂ hr => R.of (wpAny_bind (wpAny_holding (wpAny_point (wpAny_pure hr))))) fun _ _ x => x)
theorem R.withFn {pos : Pos} {a : Addr} {o : Obj} {fd : FuncData} {first : List Value} {args : List (Bool × Sem Value)} {Q : Value → Shared → Prop} (hplain : args.any (·.1) = false)
    (h : wpAny M A (evalArgs (.ref a) true args []) (fun x s₁ => (s₁.heap.get? a = some o ∧ o.data = .func fd) ∧ wpR M A (PySem.call (.ref a) (first ++ x.pos) x.kw) Q E s₁) E s) : wpR M A (callWith pos (.ref a) first args []) Q E s := by
  unfold callWith
  refine R.step (wpAny_holding (wpAny_mono h (fun x s₁ h₁ => R.step (wpAny_standAt ?_)) fun _ _ x => x))
  simp only [hplain, List.any_nil, Bool.or_false]
  refine R.step (m := keeperOf (.ref a)) ?_
  unfold keeperOf
  refine wpAny_bind (wpAny_load h₁.1.1 ?_)
  rw [h₁.1.2]
  refine wpAny_pure ?_
  have tail : ∀ {t : Sem Value}, wpR M A t Q E s₁ → wpR M A (t >>= fun r => PySem.holding [r] point >>= fun _ => Pure.pure r) Q E s₁ :=
    fun ht => R.bind (R.mono ht (fun r s₂ hr => R.of (wpAny_bind (wpAny_holding (wpAny_point (wpAny_pure hr))))) fun _ _ x => x)
  dsimp only
  split
  · exact tail h₁.2
  · exact tail (by unfold callMarked; exact R.keep h₁.2)
theorem R.nameCall {id : Str} {p pos : Pos} {args : List Expr} {Q : Value → Shared → Prop}
    (h : wpAny M A (eval (.Name id p) env) (fun f s₁ => wpR M A (callWith pos f [] (backTo pos (starEach args env)) []) Q E s₁) E s) : wpR M A (eval (.Call (.Name id p) args [] pos) env) Q E s := by
  show wpR M A (do callWith pos (← eval (.Name id p) env) [] (backTo pos (starEach args env)) (backToKw pos (keywordEach [] env))) Q E s
  exact R.step h
end

section
variable {prog : Program} {w : World} {A : Around} {E : Value → Shared → Prop} {s : Shared} {env : Env} {L : Addr} {ns : List (Str × NameKind)} {l : List (Str × Value)}
/-- f(e), f a def of the text's -/
theorem R.callF1 {id : Str} {f : Addr} {e₁ : Expr} {p pos : Pos} {fd : FuncData} {oc : Value} {od : Option Addr} {osl : Array (Option Value)} {Q : Value → Shared → Prop} (e : Ev env L ns) (g : Gr w s.heap) (hm : nsIn (KK w) mainGlobals id = some (some (.ref f)))
    (ho : (KK w).lookup f = some ⟨oc, od, .func fd, osl⟩) (he : starEach [e₁] env = [(false, eval e₁ env)]) (hl : ns.lookup id = some .globalImplicit) (hd : (id == ("__debug__" : Str)) = false)
    (h : wpAny (model prog w) A (eval e₁ env) (fun v s₁ => Gr w s₁.heap ∧ wpR (model prog w) A (PySem.call (.ref f) [v]) Q E s₁) E s) :
    wpR (model prog w) A (eval (.Call (.Name id p) [e₁] [] pos) env) Q E s := by
  refine R.nameCall (ldg e g hm ?_ hl hd)
  refine R.withFn (o := ⟨oc, od, .func fd, osl⟩) (fd := fd) (by rw [he]; rfl) ?_
  rw [he]
  exact evalArgs_plain (spliced_cons (wpAny_mono h (fun v s₁ h₁ => spliced_nil ⟨⟨h₁.1.k _ _ ho, rfl⟩, h₁.2⟩) fun _ _ z => z))
/-- f(e, e'): a type of the builtins -/
theorem R.callT2 {id : Str} {T : String} {e₁ e₂ : Expr} {p pos : Pos} {Q : Value → Shared → Prop} (e : Ev env L ns) (g : Gr w s.heap) (hv : bootBuiltins id = some (.type T))
    (he : starEach [e₁, e₂] env = [(false, eval e₁ env), (false, eval e₂ env)]) (hl : ns.lookup id = some .globalImplicit) (hm : nsIn (KK w) mainGlobals id = some none) (hx : id ≠ "__name__") (hd : (id == ("__debug__" : Str)) = false)
    (h : wpAny (model prog w) A (eval e₁ env) (fun v s₁ => wpAny (model prog w) A (eval e₂ env) (fun u s₂ => wpR (model prog w) A (PySem.call (.type T) [v, u]) Q E s₂) E s₁) E s) :
    wpR (model prog w) A (eval (.Call (.Name id p) [e₁, e₂] [] pos) env) Q E s := by
  refine R.nameCall (ldb e g hv ?_ hl hm hx hd)
  refine R.withType (by rw [he]; rfl) ?_
  rw [he]
  exact evalArgs_plain (spliced_cons (wpAny_mono h (fun v s₁ h₁ => spliced_cons (wpAny_mono h₁ (fun u s₂ h₂ => spliced_nil h₂) fun _ _ z => z)) fun _ _ z => z))
end
end Mine
end

section
namespace Mine
open PySem PySem.W PyProof.Rows PySem.Calls PySem.NumText
open Sem (wp)

theorem new10 (x : Str) (u v : Tok) : Builtin.«int.__new__» ⟨[.type "int", .str x u, .int 10 v], []⟩ = ((int_private% "intFromText") (.str x u) (numTextOf x) 10 >>= fun r => ret r) := by
  unfold Builtin.«int.__new__»
  dsimp only
  rw [F.conv_sub_int, F.madeHere_int]
  rfl

section
variable {prog : Program} {w : World} {A : Around} {E : Value → Shared → Prop} {s : Shared}
theorem R.mark {M : Model} {own : List String} {e : Value} {Q : Unit → Shared → Prop} (h : Q () s) : wpR M A (markTheRefusal own e) Q E s := fun Γ p hΓ hc => by
  have hm : pythonCodeMadeTheCall own (((Γ.code, p) :: Γ.below).map (·.1)) = false := by
    have ha : (((Γ.code, p) :: Γ.below).map (·.1)).any Code.isCaller = true := by
      rw [List.any_map, List.any_cons]
      exact hc
    show ((!((((Γ.code, p) :: Γ.below).map (·.1)).any Code.isCaller) && _) && _) = false
    rw [ha]
    rfl
  unfold markTheRefusal
  rw [Sem.wp_bind']
  show wp M Γ (if pythonCodeMadeTheCall own (((Γ.code, p) :: Γ.below).map (·.1)) = true then _ else _) _ _ p s
  rw [hm, if_neg Bool.false_ne_true]
  exact h
theorem refused {x : Str} {u : Tok} {Q : Value → Shared → Prop} (hs : (numSeenOf x).length ≤ 640) (hr : (int_private% "readNumeral") 0 10 (numSeenOf x) = int_private% "Numeral.invalid") (hh : A.handled = none)
    (hz : (reprText x).length ≤ sizeLine) (h : ∀ h' e tk, Heap.NewExc s.heap h' e "ValueError" → E (.ref e) { s with heap := h', toks := tk }) :
    wpR (model prog w) A ((int_private% "intFromText") (.str x u) (numTextOf x) 10) Q E s := by
  show wpR _ _ (if (numSeenOf x).length ≤ 640 then _ else _) _ _ _
  rw [if_pos hs]
  refine R.step (wpAny_pure ?_)
  rw [show (numTextOf x).takeWhile (· != 0) = numSeenOf x from rfl]
  dsimp only
  rw [hr]
  dsimp only
  refine R.step (wpAny_of_eq (a := none) rfl ?_)
  rw [if_neg (by simp)]
  refine R.step (wpAny_rule (R.step (wpAny_of_eq (a := none) rfl ?_)))
  refine R.step (wpAny_pyRepr_str ?_ hz)
  refine R.step (wpAny_mkStr ?_ ?_)
  · refine R.step (wpAny_newExc_plain plainExc_ValueError (fun h' e hm => ?_) (by rw [sizeLine_eq]; simp))
    refine R.bind (R.mark (R.of (wpAny_raiseNew_none hh ?_)))
    exact h h' e _ hm.newExc
  · have h1 : (Str.ofString (toString "invalid literal for int() with base " ++ toString (10 : Nat) ++ toString ": ")).cps.size ≤ 100 := by decide +kernel
    show Array.size (_ ++ _) ≤ _
    rw [Array.size_append, Array.size_extract, sizeLine_eq]
    omega

theorem R.builtin {id : String} {args : Args} {b : Builtin} {K : Result → Shared → Prop} (hb : entryFor table id = some b)
    (h : wpR (model prog w) (A.under (.builtin id args)) (b args) (fun fin s' => match fin with | .done f => K (.ok f) s' | .again c' => c'.quiet = true ∧ codeR (model prog w) A c' K s') (fun e s' => K (.error e) s') s) :
    codeR (model prog w) A (.builtin id args) K s := by
  refine R.tree ?_
  show wpR _ _ (match entryFor table id with | some b => b args | none => unsupported ((withoutEnding? id "#data").getD id)) _ _ s
  rw [hb]; exact h
theorem R.callBuiltin {id : String} {args : Args} {b : Builtin} {K : Result → Shared → Prop} (hq : plainId id = true) (hb : entryFor table id = some b)
    (h : wpAny (model prog w) A.in1 (checkBuiltinCall id args) (fun _ s₁ => wpR (model prog w) A.in1 (b args)
      (fun fin s' => match fin with | .done f => K (.ok f) s' | .again c' => c'.quiet = true ∧ codeR (model prog w) A c' K s') (fun e s' => K (.error e) s') s₁)
      (fun e s' => K (.error e) s') s) : codeR (model prog w) A (.call (.builtin id) args) K s := by
  refine R.tree ?_
  show wpR _ A.in1 (do checkBuiltinCall id args; again (.builtin id args)) _ _ s
  refine R.step (wpAny_mono h (fun _ s₁ h₁ => R.pure (And.intro (plainId_quiet hq args) (R.builtin hb ?_))) fun _ _ h' => h')
  rw [Around.under_plainId hq args]; exact h₁
end
theorem tcall (a b : Value) : ∃ k, Builtin.«type.__call__» ⟨[.type "int", a, b], []⟩ = (holding [.builtin "int.__new__"] (call (.builtin "int.__new__") [.type "int", a, b]) >>= k) := by
  unfold Builtin.«type.__call__»
  dsimp only
  have hct : checkTypeCall "int" ⟨[a, b], []⟩ = pure () := by kernel_rfl
  rw [hct, F.mro_int, F.called_int.made]
  exact ⟨_, rfl⟩
theorem new_check (a b : Value) : checkBuiltinCall "int.__new__" ⟨[.type "int", a, b], []⟩ = pure () := by kernel_rfl

section
variable {prog : Program} {w : World} {A : Around} {E : Value → Shared → Prop} {s : Shared}
/-- int(x, 10) where x is no numeral -/
theorem int_refused {x : Str} {u v : Tok} {Q : Value → Shared → Prop} (hs : (numSeenOf x).length ≤ 640) (hr : (int_private% "readNumeral") 0 10 (numSeenOf x) = int_private% "Numeral.invalid") (hh : A.handled = none)
    (hz : (reprText x).length ≤ sizeLine) (h : ∀ h' e tk, Heap.NewExc s.heap h' e "ValueError" → E (.ref e) { s with heap := h', toks := tk }) :
    wpR (model prog w) A (PySem.call (.type "int") [.str x u, .int 10 v]) Q E s := by
  refine R.call (R.tree ?_)
  show wpR _ _ (callAny (.type "int") _) _ _ _
  refine R.pure ⟨Code.quiet_builtin _ (by decide +kernel), R.builtin F.entry_type_call ?_⟩
  rw [Around.under_plain (weight_type_call_type "int" _ []) (units_type_call_type "int" _ [])]
  obtain ⟨k, hk⟩ := tcall (.str x u) (.int 10 v)
  rw [hk]
  refine R.bind (R.holding (R.call (R.callBuiltin (by decide +kernel) F.entry_int_new (wpAny_of_eq (new_check _ _) ?_))))
  rw [new10]
  exact R.bind (refused hs hr hh hz h)
/-- int(x, 10) where x is a numeral -/
theorem int_read {x : Str} {u v : Tok} {n : Int} {Q : Value → Shared → Prop} (hl : x.length ≤ 640) (hn : PySem.intText? x = some n) (h : Q (.int n s.toks) { s with toks := s.toks + 1 }) :
    wpAny (model prog w) A (PySem.call (.type "int") [.str x u, .int 10 v]) Q E s := by
  have g : Gives (Builtin.«int.__new__» ⟨[.type "int", .str x u, .int 10 v], []⟩) (.int n) := .of_wp fun M A E s Q h => by
    have hs : (numSeenOf x).length ≤ 640 := Nat.le_trans (seen_length x) hl
    have hr : (int_private% "readNumeral") 0 10 (numSeenOf x) = (int_private% "Numeral.value") n ∧ ((numSeenOf x).length == (numTextOf x).length) = true := by
      rcases read0 x hs with ⟨m, h1, h2, h3⟩ | ⟨h1, _⟩
      · rw [hn] at h1
        injection h1 with h1
        subst h1
        exact ⟨h3, h2⟩
      · rw [hn] at h1
        cases h1
    rw [new10]
    exact wpAny_bind (KIN.wp_text hs hr.1 hr.2 (wpAny_pure ⟨_, rfl, h⟩))
  exact callType_new F.called_int F.newNe_int (by kernel_rfl) (new_check _ _) (fun obj => by exact rfl) F.entry_int_new g.meets (show (Made.int n).post _ s from ⟨rfl, h⟩)
end
end Mine
end

section
namespace Mine
open PySem PySem.W PyProof.Rows PySem.Calls

theorem slot_flt_init : Slot "filter" "__init__" "object.__init__" :=
  .of (owner := "object") (n := "__init__") (by rw [typeLookup_type, builtinLookup_eq_fast]; kernel_rfl) (by decide +kernel) (by decide +kernel) (by decide +kernel)
    (by first | exact .inl (by decide +kernel) | exact .inr (by decide +kernel)) (by rw [isSubtype_type]; kernel_rfl)
theorem slot_flt_iter : Slot "filter" "__iter__" "filter.__iter__" :=
  .of (owner := "filter") (n := "__iter__") (by rw [typeLookup_type, builtinLookup_eq_fast]; kernel_rfl) (by decide +kernel) (by decide +kernel) (by decide +kernel)
    (by first | exact .inl (by decide +kernel) | exact .inr (by decide +kernel)) (by rw [isSubtype_type]; kernel_rfl)
theorem slot_flt_next : Slot "filter" "__next__" "filter.__next__" :=
  .of (owner := "filter") (n := "__next__") (by rw [typeLookup_type, builtinLookup_eq_fast]; kernel_rfl) (by decide +kernel) (by decide +kernel) (by decide +kernel)
    (by first | exact .inl (by decide +kernel) | exact .inr (by decide +kernel)) (by rw [isSubtype_type]; kernel_rfl)
theorem args_flt_iter (a : Value) : argsOk "filter.__iter__" ⟨[a], []⟩ := by unfold argsOk; kernel_rfl
theorem args_flt_next (a : Value) : argsOk "filter.__next__" ⟨[a], []⟩ := by unfold argsOk; kernel_rfl
theorem entry_flt_iter : entryFor table "filter.__iter__" = some Builtin.«dict_keyiterator.__iter__» :=
  entryFor_alias (id' := "dict_keyiterator.__iter__") (by kernel_rfl) (by first | rfl | decide +kernel | (unfold String.splitOn; simp +decide [String.splitOnAux])) (by decide +kernel) (by kernel_rfl)
theorem entry_flt_next : entryFor table "filter.__next__" = some Builtin.«filter.__next__» := entryFor_of_tree (by kernel_rfl)
theorem entry_flt_new : entryFor table "filter.__new__" = some Builtin.«filter.__new__» := entryFor_of_tree (by kernel_rfl)
theorem mro_flt : mroOf (.type "filter") = pure [.type "filter", .type "object"] := by rw [mroOf_type]; kernel_rfl
theorem lookup_flt_new : typeLookup (.type "filter") "__new__" = pure (some (.builtin "filter.__new__")) := by rw [typeLookup_type, builtinLookup_eq_fast]; kernel_rfl
theorem called_flt : TypeCalled "filter" "filter.__new__" "object.__init__" :=
  ⟨by decide +kernel, by decide +kernel, ⟨_, _, mro_flt⟩, madeBy_type mro_flt lookup_flt_new (by decide +kernel), by decide +kernel, by rw [isSubtype_type]; kernel_rfl, slot_flt_init⟩
theorem typeCall_flt (a b : Value) : checkTypeCall "filter" ⟨[a, b], []⟩ = pure () := by kernel_rfl
theorem newCall_flt (a b : Value) : checkBuiltinCall "filter.__new__" ⟨[.type "filter", a, b], []⟩ = pure () := by kernel_rfl
theorem sub_flt : isSubtype (.type "filter") (.type "filter") = pure true := by rw [isSubtype_type]; kernel_rfl

abbrev IsFlt (h : Heap) (I J : Addr) : Prop := h.get? I = some { cls := .type "filter", data := .fields #[.builtin "len", .ref J] }

theorem meets_flt_new (t : Addr) (items : Array Value) :
    Meets (Builtin.«filter.__new__» ⟨[.type "filter", .builtin "len", .ref t], []⟩) (fun _ R s => s.heap.IsTuple t items ∧
      R (.ok (.ret (.ref (s.heap.objs.size + 1)))) { s with heap := (s.heap.push { cls := .type "tuple_iterator", data := .fields #[.ref t, .int 0 0] }).push { cls := .type "filter", data := .fields #[.builtin "len", .ref s.heap.objs.size] } }) :=
  .of_wp fun prog w A R s h => by
    obtain ⟨hp, g, d, tk, os⟩ := s; obtain ⟨hl1, h⟩ := h
    have hsub := sub_flt
    have hL1 : Heap.IsTuple (Shared.heap ⟨hp, g, d, tk, os⟩) t items := hl1
    wp_walk using wpAny_pyIter_tuple hL1
    refine ⟨_, rfl, ?_⟩
    have e : (hp.push { cls := .type "tuple_iterator", data := .fields #[.ref t, .int 0 0] }).objs.size = hp.objs.size + 1 := Heap.size_push ..
    rw [e]
    exact h

section
variable {prog : Program} {w : World} {A : Around} {E : Value → Shared → Prop} {s : Shared}

theorem call_flt {t : Addr} {items : Array Value} {Q : Value → Shared → Prop} (ht : s.heap.IsTuple t items)
    (h : ∀ h', IsFlt h' (s.heap.objs.size + 1) s.heap.objs.size → h'.IsTupleIter s.heap.objs.size t 0 → (∀ c o, s.heap.get? c = some o → h'.get? c = some o) → h'.objs.size = s.heap.objs.size + 2 → Q (.ref (s.heap.objs.size + 1)) { s with heap := h' }) :
    wpAny (model prog w) A (call (.type "filter") [.builtin "len", .ref t]) Q E s := by
  refine callType_new called_flt (by decide) (typeCall_flt _ _) (newCall_flt _ _) (fun obj => F.args_object_init_3 obj _ _) entry_flt_new (meets_flt_new t items) ⟨ht, ?_⟩
  have e : (s.heap.push { cls := .type "tuple_iterator", data := .fields #[.ref t, .int 0 0] }).objs.size = s.heap.objs.size + 1 := Heap.size_push ..
  have g : ((s.heap.push { cls := .type "tuple_iterator", data := .fields #[.ref t, .int 0 0] }).push { cls := .type "filter", data := .fields #[.builtin "len", .ref s.heap.objs.size] }).get? (s.heap.objs.size + 1) = some { cls := .type "filter", data := .fields #[.builtin "len", .ref s.heap.objs.size] } := by
    rw [← e]; exact Heap.get?_push_size _ rfl
  exact ⟨⟨_, g, rfl⟩, h _ g ⟨_, Heap.get?_push_of_some _ (Heap.get?_push_size _ rfl), rfl, rfl⟩ (fun c o x => Heap.get?_push_of_some _ (Heap.get?_push_of_some _ x)) (by rw [Heap.size_push, e])⟩

theorem iter_flt {I J : Addr} {Q : Value → Shared → Prop} (hI : IsFlt s.heap I J) (h : Q (.ref I) s) : wpAny (model prog w) A (pyIter (.ref I)) Q E s := by
  have hT : s.TypeIs (.ref I) "filter" := ⟨_, hI, rfl⟩
  refine wpAny_pyIter_slot hT slot_flt_iter (wpAny_call_entry slot_flt_iter hT entry_flt_iter ?_ (args_flt_iter _))
  show wpAny _ _ (ret (.ref I)) _ _ s
  exact wpAny_pure ⟨_, rfl, "filter", _, hT, slot_flt_next.lookup, h⟩

/-- the tuple iterator's own call: an item -/
theorem tnext_item {it t : Addr} {i : Nat} {items : Array Value} {x : Value} {Q : Option Value → Shared → Prop} (hit : s.heap.IsTupleIter it t i) (ht : s.heap.IsTuple t items) (hx : items[i]? = some x)
    (hQ : ∀ h', h'.IsTupleIter it t (i + 1) → Heap.SameBut it s.heap h' → Q (some x) { s with heap := h' }) : wpAny (model prog w) A (callSpecial? (.ref it) "__next__") Q E s := by
  obtain ⟨o, ho, hc, hd⟩ := id hit
  obtain ⟨ol, hol, _, nl, hdl⟩ := ht
  refine wpAny_callSpecial?_slot (name := Str.ofString "__next__") hit.typeIs F.slot_tuple_iterator_next (wpAny_call_entry F.slot_tuple_iterator_next hit.typeIs F.entry_tuple_iterator_next ?_ (F.args_tuple_iterator_next_1 _))
  show wpAny _ _ (field (.ref it) 0 >>= _) _ _ s
  refine wpAny_bind (wpAny_field ho hd (x := .ref t) rfl ?_)
  show wpAny _ _ (if (Value.ref t == Value.none) = true then _ else _) _ _ s
  rw [if_neg (show ¬ ((Value.ref t == Value.none) = true) from Bool.false_ne_true)]
  show wpAny _ _ (field (.ref it) 1 >>= _) _ _ s
  refine wpAny_bind (wpAny_field ho hd (x := .int i 0) rfl ?_)
  show wpAny _ _ (seqItems? (.ref t) >>= _) _ _ s
  refine wpAny_bind (wpAny_seqItems hol hdl ?_)
  simp only [Int.toNat_natCast, hx]
  refine wpAny_bind (wpAny_setField ho hd (by simp) (wpAny_pure ⟨x, rfl, hQ _ ?_ (Heap.SameBut.update ..)⟩))
  exact ⟨_, Heap.get?_update_self _ ho (Obj.isFreed_of_fields (Obj.data_mapFields hd _)), (Obj.cls_mapFields ..).trans hc, by
    rw [Obj.data_mapFields hd]; simp [rawInt]⟩

/-- the tuple iterator's own call: the end -/
theorem tnext_end {it t : Addr} {i : Nat} {items : Array Value} {Q : Option Value → Shared → Prop} (hh : A.handled = none) (hit : s.heap.IsTupleIter it t i) (ht : s.heap.IsTuple t items) (hx : items[i]? = none)
    (hE : ∀ h' e, Heap.ExtBut it s.heap h' → (∃ o, h'.get? e = some o ∧ o.cls = .type "StopIteration") → E (.ref e) { s with heap := h' }) : wpAny (model prog w) A (callSpecial? (.ref it) "__next__") Q E s := by
  obtain ⟨o, ho, hc, hd⟩ := id hit
  obtain ⟨ol, hol, _, nl, hdl⟩ := ht
  refine wpAny_callSpecial?_slot (name := Str.ofString "__next__") hit.typeIs F.slot_tuple_iterator_next (wpAny_call_entry F.slot_tuple_iterator_next hit.typeIs F.entry_tuple_iterator_next ?_ (F.args_tuple_iterator_next_1 _))
  show wpAny _ _ (field (.ref it) 0 >>= _) _ _ s
  refine wpAny_bind (wpAny_field ho hd (x := .ref t) rfl ?_)
  show wpAny _ _ (if (Value.ref t == Value.none) = true then _ else _) _ _ s
  rw [if_neg (show ¬ ((Value.ref t == Value.none) = true) from Bool.false_ne_true)]
  show wpAny _ _ (field (.ref it) 1 >>= _) _ _ s
  refine wpAny_bind (wpAny_field ho hd (x := .int i 0) rfl ?_)
  show wpAny _ _ (seqItems? (.ref t) >>= _) _ _ s
  refine wpAny_bind (wpAny_seqItems hol hdl ?_)
  simp only [Int.toNat_natCast, hx]
  refine wpAny_bind (wpAny_rule (wpAny_bind (wpAny_setField ho hd (by simp) ?_)))
  show wpAny _ _ (newExc (.type "StopIteration") [] >>= _) _ _ _
  refine wpAny_bind ?_
  simp only [newExc, newTuple]
  refine wpAny_bind (wpAny_newObj_type ?_ (by size_fits))
  refine wpAny_bind (m := firstArgMember _ _) (wpAny_of_eq (a := Value.none) (by first | rfl | (simp only [firstArgMember]; rfl)) ?_)
  refine wpAny_newObj_type ?_ (by size_fits)
  simp only [raiseNew]
  refine wpAny_bind (wpAny_handled ?_)
  first | rw [show A.in1.handled = none from hh] | rw [hh]
  refine wpAny_bind (wpAny_pure (wpAny_throw ?_))
  exact hE _ _ (((Heap.SameBut.update ..).extBut.push _).push _) ⟨_, Heap.get?_push_size _ rfl, rfl⟩

end
end Mine
end

section
namespace Mine
open PySem PySem.W PyProof.Rows PySem.Calls

section
variable {prog : Program} {w : World} {A : Around} {E : Value → Shared → Prop} {s : Shared}

/-- a turn of filter's own loop -/
theorem flt_code {I J t : Addr} {items : List Value} {ys : List Str} (hh : A.handled = none) (hs : StrsAre items ys) (hlen : ∀ y ∈ ys, y.length ≤ 1048576) (hIJ : I ≠ J) (htJ : t ≠ J) {K : Result → Shared → Prop} :
    ∀ (k p : Nat) (s : Shared), items.length - p ≤ k → IsFlt s.heap I J → s.heap.IsTupleIter J t p → s.heap.IsTuple t items.toArray →
    (∀ q y u h' tk, p ≤ q → items[q]? = some (.str y u) → y.length ≠ 0 → (ys.drop p).filter (·.length != 0) = y :: (ys.drop (q + 1)).filter (·.length != 0) → IsFlt h' I J → h'.IsTupleIter J t (q + 1) → h'.IsTuple t items.toArray → Heap.ExtBut J s.heap h' → K (.ok (.ret (.str y u))) { s with heap := h', toks := tk }) →
    (∀ h' e tk, (ys.drop p).filter (·.length != 0) = [] → Heap.ExtBut J s.heap h' → (∃ o, h'.get? e = some o ∧ o.cls = .type "StopIteration") → K (.error (.ref e)) { s with heap := h', toks := tk }) →
    wpAny (model prog w) A.in1 (Builtin.«filter.__next__» ⟨[.ref I], []⟩) (fun fin s' => match fin with | .done f => K (.ok f) s' | .again c' => c'.quiet = true ∧ codeAny (model prog w) A c' K s') (fun e s' => K (.error e) s') s := by
  intro k
  have strs_len : ys.length = items.length := by
    clear hlen
    induction hs with
    | nil => rfl
    | cons _ _ _ ih => simp [ih]
  have strs_get : ∀ (q : Nat) (v : Value), items[q]? = some v → ∃ y u, v = Value.str y u ∧ ys[q]? = some y := by
    clear hlen strs_len
    induction hs with
    | nil => intro q v h; simp at h
    | cons y u _ ih =>
      intro q v h
      cases q with
      | zero => simp at h; exact ⟨y, u, h.symm, rfl⟩
      | succ q => exact ih q v (by simpa using h)
  -- the first step, whatever the place
  have first : ∀ (p : Nat) (s : Shared), IsFlt s.heap I J → s.heap.IsTupleIter J t p → s.heap.IsTuple t items.toArray →
      (∀ y u h', items[p]? = some (.str y u) → ys[p]? = some y → IsFlt h' I J → h'.IsTupleIter J t (p + 1) → h'.IsTuple t items.toArray → Heap.ExtBut J s.heap h' →
        if y.length ≠ 0 then (∀ tk, K (.ok (.ret (.str y u))) { s with heap := h', toks := tk }) else ∀ tk, codeAny (model prog w) A (.builtin "filter.__next__" ⟨[.ref I], []⟩) K { s with heap := h', toks := tk }) →
      (∀ h' e, items[p]? = none → Heap.ExtBut J s.heap h' → (∃ o, h'.get? e = some o ∧ o.cls = .type "StopIteration") → K (.error (.ref e)) { s with heap := h' }) →
      wpAny (model prog w) A.in1 (Builtin.«filter.__next__» ⟨[.ref I], []⟩) (fun fin s' => match fin with | .done f => K (.ok f) s' | .again c' => c'.quiet = true ∧ codeAny (model prog w) A c' K s') (fun e s' => K (.error e) s') s := by
    intro p s hI hJ ht hQ hE
    unfold Builtin.«filter.__next__»
    show wpAny _ _ (field (.ref I) 0 >>= _) _ _ _
    refine wpAny_bind (wpAny_field hI rfl (x := .builtin "len") rfl ?_)
    show wpAny _ _ (field (.ref I) 1 >>= _) _ _ _
    refine wpAny_bind (wpAny_field hI rfl (x := .ref J) rfl ?_)
    cases hx : items[p]? with
    | none =>
      refine wpAny_bind (tnext_end (A := A.in1) hh hJ ht (by simpa using hx) fun h' e he ho => ?_)
      exact hE h' e hx he ho
    | some v =>
      obtain ⟨y, u, rfl, hy⟩ := strs_get p v hx
      have hyl := hlen y (List.mem_of_getElem? hy)
      refine wpAny_bind (tnext_item hJ ht (by simpa using hx) fun h' hJ' hs' => ?_)
      have hI' : IsFlt h' I J := hs'.extBut I _ hIJ hI
      have ht' : h'.IsTuple t items.toArray := ht.extBut hs'.extBut htJ
      have hQ' := hQ y u h' hx hy hI' hJ' ht' hs'.extBut
      refine wpAny_bind (wpAny_holding ?_)
      show wpAny _ _ (if (Value.builtin "len" == Value.none || Value.builtin "len" == Value.type "bool") = true then _ else _) _ _ _
      rw [if_neg (by decide)]
      refine wpAny_bind (P.len_str (by omega) (wpAny_holding (P.truthy_int ?_)))
      by_cases h0 : y.length = 0
      · rw [if_neg (by simp [h0])] at hQ'
        rw [h0]
        exact wpAny_pure ⟨Code.quiet_builtin _ (by decide +kernel), hQ' _⟩
      · rw [if_pos h0] at hQ'
        have : ((y.length : Int) != 0) = true := by simpa using h0
        rw [this]
        exact wpAny_pure (hQ' _)
  induction k with
  | zero =>
    intro p s hk hI hJ ht _ hE
    have hx : items[p]? = none := by simp; omega
    refine first p s hI hJ ht (fun y u h' h1 => by rw [hx] at h1; cases h1) fun h' e _ he ho => hE h' e s.toks ?_ he ho
    rw [List.drop_eq_nil_of_le (by omega)]; rfl
  | succ k ih =>
    intro p s hk hI hJ ht hQ hE
    refine first p s hI hJ ht (fun y u h' h1 h2 hI' hJ' ht' he => ?_) fun h' e hx he ho => hE h' e s.toks ?_ he ho
    · have hlt : p < ys.length := (List.getElem?_eq_some_iff.mp h2).1
      have hd : ys.drop p = y :: ys.drop (p + 1) := by
        rw [List.drop_eq_getElem_cons hlt]
        congr 1
        exact (List.getElem?_eq_some_iff.mp h2).2
      by_cases h0 : y.length = 0
      · rw [if_neg (by simp [h0])]
        intro tk
        have hf : (ys.drop p).filter (·.length != 0) = (ys.drop (p + 1)).filter (·.length != 0) := by rw [hd, List.filter_cons, if_neg (by simp [h0])]
        refine codeAny_builtin entry_flt_next ?_
        rw [Around.under_plainId (by decide +kernel)]
        refine ih (p + 1) { s with heap := h', toks := tk } (by omega) hI' hJ' ht' (fun q y' u' h'' tk' hpq hq hne hfq a b c d => ?_) fun h'' e tk' hfq d ho => ?_
        · exact hQ q y' u' h'' tk' (by omega) hq hne (hf.trans hfq) a b c (fun b o hb z => d b o hb (he b o hb z))
        · exact hE h'' e tk' (hf.trans hfq) (fun b o hb z => d b o hb (he b o hb z)) ho
      · rw [if_pos h0]
        intro tk
        exact hQ p y u h' tk (Nat.le_refl _) h1 h0 (by rw [hd, List.filter_cons, if_pos (by simpa using h0)]) hI' hJ' ht' he
    · have : items.length ≤ p := by simpa using hx
      rw [List.drop_eq_nil_of_le (by omega)]; rfl

/-- the call of filter's __next__ -/
theorem flt_call {I J t : Addr} {items : List Value} {ys : List Str} {p : Nat} {Q : Value → Shared → Prop} (hh : A.handled = none) (hs : StrsAre items ys) (hlen : ∀ y ∈ ys, y.length ≤ 1048576) (hIJ : I ≠ J) (htJ : t ≠ J)
    (h1 : IsFlt s.heap I J) (h3 : s.heap.IsTupleIter J t p) (h2 : s.heap.IsTuple t items.toArray)
    (hQ : ∀ q y u h' tk, p ≤ q → items[q]? = some (.str y u) → y.length ≠ 0 → (ys.drop p).filter (·.length != 0) = y :: (ys.drop (q + 1)).filter (·.length != 0) → IsFlt h' I J → h'.IsTupleIter J t (q + 1) → h'.IsTuple t items.toArray → Heap.ExtBut J s.heap h' → Q (.str y u) { s with heap := h', toks := tk })
    (hE : ∀ h' e tk, (ys.drop p).filter (·.length != 0) = [] → Heap.ExtBut J s.heap h' → (∃ o, h'.get? e = some o ∧ o.cls = .type "StopIteration") → E (.ref e) { s with heap := h', toks := tk }) :
    wpAny (model prog w) A (call (.builtin "filter.__next__") [.ref I]) Q E s := by
  have hT : s.TypeIs (.ref I) "filter" := ⟨_, h1, rfl⟩
  refine wpAny_call (codeAny_call_builtin slot_flt_next.plain entry_flt_next (slot_flt_next.check _ _ _ _ _ _ _ _ hT (args_flt_next _) ?_))
  exact flt_code (K := fun r s' => match r with | .ok (.ret v) => Q v s' | .ok _ => False | .error e => E e s') hh hs hlen hIJ htJ _ p s (Nat.le_refl _) h1 h3 h2 hQ hE

/-- filter(len, args) as a walk -/
theorem walks_flt {I J t : Addr} {items : List Value} {ys : List Str} (hh : A.handled = none) (hs : StrsAre items ys) (hlen : ∀ y ∈ ys, y.length ≤ 1048576) (hIJ : I ≠ J) (htJ : t ≠ J) :
    Walks prog w A I [I, J, t] [J] (ys.filter (·.length != 0)).length (fun i v => ∃ y u, v = Value.str y u ∧ (ys.filter (·.length != 0))[i]? = some y)
      (fun i h => IsFlt h I J ∧ h.IsTuple t items.toArray ∧ ∃ p, h.IsTupleIter J t p ∧ (ys.drop p).filter (·.length != 0) = (ys.filter (·.length != 0)).drop i) where
  sub := fun b hb => by simp at hb; simp [hb]
  frame := fun i h h' ⟨h1, h2, p, h3, h4⟩ hk => ⟨hk I (by simp) _ h1, h2.at fun o e => hk t (by simp) o e, p, h3.at fun o e => hk J (by simp) o e, h4⟩
  item := fun i s Q E hi ⟨h1, h2, p, h3, h4⟩ hQ => by
    have hT : s.TypeIs (.ref I) "filter" := ⟨_, h1, rfl⟩
    unfold pyNext
    refine wpAny_bind (wpAny_attempt (wpAny_callSpecial?_slot (name := Str.ofString "__next__") hT slot_flt_next (flt_call hh hs hlen hIJ htJ h1 h3 h2 (fun q y u h' tk hpq hq hne hf a b c d => ?_) fun h' e tk hf d ho => ?_)))
    · rw [h4, List.drop_eq_getElem_cons hi] at hf
      obtain ⟨e1, e2⟩ := List.cons.inj hf
      exact wpAny_pure (hQ _ h' tk ⟨y, u, rfl, by rw [List.getElem?_eq_getElem hi, e1]⟩ ⟨a, c, q + 1, b, e2.symm⟩ fun b o hb z => d b o (fun x => hb (by simp [x])) z)
    · rw [h4, List.drop_eq_getElem_cons hi] at hf
      cases hf
  done := fun s Q E ⟨h1, h2, p, h3, h4⟩ hQ => by
    have hT : s.TypeIs (.ref I) "filter" := ⟨_, h1, rfl⟩
    unfold pyNext
    refine wpAny_bind (wpAny_attempt (wpAny_callSpecial?_slot (name := Str.ofString "__next__") hT slot_flt_next (flt_call hh hs hlen hIJ htJ h1 h3 h2 (fun q y u h' tk hpq hq hne hf a b c d => ?_) fun h' e tk hf d ho => ?_)))
    · rw [h4, List.drop_length] at hf
      cases hf
    · refine wpAny_bind (wpAny_isInstance (T := "StopIteration") (b := true) ho isSubtype_stop ?_)
      exact wpAny_pure (hQ h' tk fun b o hb z => d b o (fun x => hb (by simp [x])) z)
  self := fun _ _ _ _ ⟨h1, _⟩ hQ => iter_flt h1 hQ
end
end Mine
end

section
namespace Mine
open PySem PySem.W PyProof.Rows PySem.Calls PySem.Builtin.Str

/-- one sign for another -/
def sw (a b : Nat) (l : List Nat) : List Nat := l.map fun c => if c = a then b else c
theorem sw_free {a b : Nat} {l : List Nat} (h : a ∉ l) : sw a b l = l := by
  unfold sw
  have : l.map (fun c => if c = a then b else c) = l.map id := List.map_congr_left fun c hc => by
    have hne : c ≠ a := fun e => h (e ▸ hc)
    simp [hne]
  rw [this, List.map_id]
theorem sw_app (a b : Nat) (l r : List Nat) : sw a b (l ++ r) = sw a b l ++ sw a b r := List.map_append ..
theorem sw_join (a b : Nat) : ∀ parts : List Str, (∀ p ∈ parts, a ∉ p.cps.toList) → (Str.join ⟨#[b]⟩ parts).cps.toList = sw a b (Str.join ⟨#[a]⟩ parts).cps.toList
  | [], _ => rfl
  | [p], h => (sw_free (h p (List.mem_singleton.mpr rfl))).symm
  | p :: q :: r, h => by
    have ih := sw_join a b (q :: r) fun x hx => h x (List.mem_cons_of_mem _ hx)
    show (p ++ ⟨#[b]⟩ ++ Str.join ⟨#[b]⟩ (q :: r)).cps.toList = sw a b (p ++ ⟨#[a]⟩ ++ Str.join ⟨#[a]⟩ (q :: r)).cps.toList
    simp only [Str.cps_append, Array.toList_append]
    rw [sw_app, sw_app, ih, sw_free (h p (List.mem_cons_self ..))]
    simp [sw]
theorem replace_sw (x : Str) (a b : Nat) : Txt.replace x ⟨#[a]⟩ ⟨#[b]⟩ = ⟨(sw a b x.cps.toList).toArray⟩ := by
  apply Str.ext'
  apply Array.toList_inj.mp
  rw [StrLaws.replace_one, sw_join a b _ (fun p hp => StrLaws.split_free x a p hp), StrLaws.join_split]

theorem replace_none {x y z : Str} {c : Nat} {r : List Nat} (hy : y.cps.toList = c :: r) (hc : c ∉ x.cps.toList) : Txt.replace x y z = x := by
  unfold Txt.replace
  rcases StrLaws.occ_head_from x y 0 (x.length + 1) (by omega) with ⟨h, _⟩ | ⟨i, q, h, _, hat, _⟩
  · rw [h]; rfl
  · exfalso
    have h2 := hat.2
    rw [StrLaws.subAt_eq] at h2
    have h3 := eq_of_beq h2
    rw [hy] at h3
    have hl : y.length = r.length + 1 := by
      have := congrArg List.length hy
      simpa [Str.length] using this
    rw [hl] at h3
    cases hd : x.cps.toList.drop i with
    | nil => rw [hd] at h3; simp at h3
    | cons k t =>
      rw [hd] at h3
      simp at h3
      exact hc (by rw [← h3.1]; exact List.mem_of_mem_drop (by rw [hd]; simp))

/-- runs of hyphens made one -/
def col : Bool → List Nat → List Nat
  | _, [] => []
  | p, c :: r => if c = 45 then (if p then col true r else 45 :: col true r) else c :: col false r
theorem col_dd (b : List Nat) : ∀ (a : List Nat) (p : Bool), col p (a ++ 45 :: 45 :: b) = col p (a ++ 45 :: b)
  | [], p => by cases p <;> simp [col]
  | c :: r, p => by
    simp only [List.cons_append, col]
    rw [col_dd b r true, col_dd b r false]
def noDD : Bool → List Nat → Prop
  | _, [] => True
  | p, c :: r => (c = 45 → p = false) ∧ noDD (c == 45) r
theorem col_id : ∀ (l : List Nat) (p : Bool), noDD p l → col p l = l
  | [], _, _ => rfl
  | c :: r, p, ⟨h1, h2⟩ => by
    have ih := col_id r (c == 45) h2
    unfold col
    by_cases hc : c = 45
    · rw [if_pos hc, h1 hc]
      subst hc
      simpa using ih
    · rw [if_neg hc]
      have : (c == 45) = false := by simpa using hc
      rw [this] at ih
      rw [ih]
theorem noDD_of : ∀ (l : List Nat) (p : Bool), (p = true → l.head? ≠ some 45) → (∀ i, (l.drop i).take 2 ≠ [45, 45]) → noDD p l
  | [], _, _, _ => trivial
  | c :: r, p, h1, h2 => by
    refine ⟨fun hc => ?_, noDD_of r _ (fun hp hh => ?_) fun i => h2 (i + 1)⟩
    · cases p with
      | false => rfl
      | true => exact absurd (by rw [hc]; rfl) (h1 rfl)
    · have hc : c = 45 := by simpa using hp
      cases r with
      | nil => cases hh
      | cons d t =>
        have hd : d = 45 := by simpa using hh
        exact h2 0 (by rw [hc, hd]; rfl)

theorem join_len (a b : Str) : ∀ parts : List Str, (Str.join a parts).length + (parts.length - 1) * b.length = (Str.join b parts).length + (parts.length - 1) * a.length
  | [] => by simp [Str.join]
  | [p] => by simp [Str.join]
  | p :: q :: r => by
    have ih := join_len a b (q :: r)
    show (p ++ a ++ Str.join a (q :: r)).length + _ = (p ++ b ++ Str.join b (q :: r)).length + _
    simp only [Str.length_append, List.length_cons, Nat.add_sub_cancel] at ih ⊢
    rw [Nat.add_mul, Nat.add_mul, Nat.one_mul, Nat.one_mul]
    omega
theorem col_join : ∀ (parts : List Str) (p : Bool) (pre : List Nat), col p (pre ++ (Str.join ⟨#[45]⟩ parts).cps.toList) = col p (pre ++ (Str.join ⟨#[45, 45]⟩ parts).cps.toList)
  | [], _, _ => rfl
  | [_], _, _ => rfl
  | q :: r :: t, p, pre => by
    show col p (pre ++ (q ++ ⟨#[45]⟩ ++ Str.join ⟨#[45]⟩ (r :: t)).cps.toList) = col p (pre ++ (q ++ ⟨#[45, 45]⟩ ++ Str.join ⟨#[45, 45]⟩ (r :: t)).cps.toList)
    simp only [Str.cps_append, Array.toList_append]
    have e1 : pre ++ (q.cps.toList ++ [45, 45] ++ (Str.join ⟨#[45, 45]⟩ (r :: t)).cps.toList) = (pre ++ q.cps.toList) ++ 45 :: 45 :: (Str.join ⟨#[45, 45]⟩ (r :: t)).cps.toList := by simp
    have e2 : pre ++ (q.cps.toList ++ [45] ++ (Str.join ⟨#[45]⟩ (r :: t)).cps.toList) = (pre ++ q.cps.toList ++ [45]) ++ (Str.join ⟨#[45]⟩ (r :: t)).cps.toList := by simp
    rw [e1, e2, col_dd, col_join (r :: t) p (pre ++ q.cps.toList ++ [45])]
    simp

theorem replace_dd (x : Str) : col false (Txt.replace x ⟨#[45, 45]⟩ ⟨#[45]⟩).cps.toList = col false x.cps.toList ∧
    (Txt.replace x ⟨#[45, 45]⟩ ⟨#[45]⟩ = x → noDD false x.cps.toList) ∧ (Txt.replace x ⟨#[45, 45]⟩ ⟨#[45]⟩ ≠ x → (Txt.replace x ⟨#[45, 45]⟩ ⟨#[45]⟩).length < x.length) := by
  have h10 : ((⟨#[45, 45]⟩ : Str).length == 0) = false := rfl
  have hno : occurrences x ⟨#[45, 45]⟩ 0 x.length (x.length + 1) = [] → noDD false x.cps.toList := fun h => by
    rcases StrLaws.occ_head_from x ⟨#[45, 45]⟩ 0 (x.length + 1) (by omega) with ⟨_, h'⟩ | ⟨i, q, h', _⟩
    · refine noDD_of _ _ (fun z => by cases z) fun i hi => h' i (Nat.zero_le _) ⟨?_, ?_⟩
      · have := congrArg List.length hi
        simp [Str.length] at this ⊢
        omega
      · rw [StrLaws.subAt_eq]; exact beq_iff_eq.mpr hi
    · rw [h] at h'; cases h'
  obtain ⟨f, hch⟩ := StrLaws.occ_chain x ⟨#[45, 45]⟩ (x.length + 1)
  unfold Txt.replace
  rw [h10, Bool.false_and, Bool.or_false]
  cases ho : occurrences x ⟨#[45, 45]⟩ 0 x.length (x.length + 1) with
  | nil => exact ⟨rfl, fun _ => hno ho, fun h => absurd rfl h⟩
  | cons i q =>
    rw [ho] at hch
    have hx := StrLaws.join_partsFrom x ⟨#[45, 45]⟩ _ 0 f hch
    rw [StrLaws.sub_whole] at hx
    rw [List.isEmpty_cons, if_neg Bool.false_ne_true, StrLaws.glued_eq_join, StrLaws.partsBetween_eq]
    have hl := join_len ⟨#[45]⟩ ⟨#[45, 45]⟩ (StrLaws.partsFrom x (⟨#[45, 45]⟩ : Str).length 0 (i :: q))
    have hp : 2 ≤ (StrLaws.partsFrom x (⟨#[45, 45]⟩ : Str).length 0 (i :: q)).length := by
      obtain ⟨p, r, e⟩ := StrLaws.partsFrom_ne x (⟨#[45, 45]⟩ : Str).length (i + (⟨#[45, 45]⟩ : Str).length) q
      show 2 ≤ (_ :: StrLaws.partsFrom x (⟨#[45, 45]⟩ : Str).length (i + (⟨#[45, 45]⟩ : Str).length) q).length
      rw [e]; simp
    generalize StrLaws.partsFrom x (⟨#[45, 45]⟩ : Str).length 0 (i :: q) = parts at *
    have hlt : (Str.join ⟨#[45]⟩ parts).length < x.length := by
      rw [hx] at hl
      have h1 : (⟨#[45]⟩ : Str).length = 1 := rfl
      have h2 : (⟨#[45, 45]⟩ : Str).length = 2 := rfl
      rw [h1, h2] at hl
      omega
    refine ⟨?_, fun e => ?_, fun _ => hlt⟩
    · have := col_join parts false []
      simp only [List.nil_append] at this
      rw [this, hx]
    · rw [e] at hlt; exact absurd hlt (Nat.lt_irrefl _)

/-- hyphens at the end taken off -/
def trimD (l : List Nat) : List Nat := (l.reverse.dropWhile (· == 45)).reverse
theorem trim_snoc (l : List Nat) (c : Nat) : trimD (l ++ [c]) = if c = 45 then trimD l else l ++ [c] := by
  unfold trimD
  rw [List.reverse_append, List.reverse_singleton, List.singleton_append, List.dropWhile_cons]
  by_cases h : c = 45
  · rw [if_pos h, if_pos (by simpa using h)]
  · rw [if_neg h, if_neg (by simpa using h)]; simp

/-- what _platform makes of a text -/
def platM (l : List Nat) : List Nat := sw 41 45 (sw 40 45 (sw 34 45 (sw 59 45 (sw 58 45 (sw 92 45 (sw 47 45 (sw 32 95 l)))))))
def platOf (l : List Nat) : List Nat := trimD (col false (platM l))
theorem sw_not {a b c : Nat} {l : List Nat} (hc : c ≠ b) (h : c ∉ l) : c ∉ sw a b l := by
  unfold sw
  intro hm
  obtain ⟨d, hd, e⟩ := List.mem_map.mp hm
  by_cases z : d = a
  · rw [if_pos z] at e; exact hc e.symm
  · rw [if_neg z] at e; exact h (e ▸ hd)
theorem sw_len (a b : Nat) (l : List Nat) : (sw a b l).length = l.length := List.length_map ..
end Mine
end

section
namespace Mine
open PySem PySem.W PyProof.Rows PySem.Calls

section
variable {prog : Program} {w : World} {A : Around} {E : Value → Shared → Prop} {s : Shared}

/-- next of a generator function's generator, the states told to be bare -/
theorem next_fn {a : Addr} {g n : Nat} {gs : GenState} {P : Nat → Shared → Shared → Prop} {Y : Protocol} {Q : Option Value → Shared → Prop} (hh : A.handled = none)
    (hl : s.heap.NoLimit) (hroom : A.depth < recursionLimit) (hg : s.heap.IsGen a g) (hgs : s.gens[g]? = some gs)
    (hgo : gs.Goes (model prog w) A.in1 (fun n s₀ r s₁ => r = .ok (.ret .none) ∧ P n s₀ s₁) Y n (.send .none) (s.setGen g .running))
    (hY : ∀ v s₁ gs', gs'.bare = true → Y (n - 1) (s.setGen g .running) v s₁ (fun r' s'' => match n with
        | 0 => False
        | m + 1 => gs'.Goes (model prog w) A.in1 (fun n s₀ r s₁ => r = .ok (.ret .none) ∧ P n s₀ s₁) Y m r' s'') → Q (some v) (s₁.setGen g gs'))
    (hP : ∀ s₁, P n (s.setGen g .running) s₁ → ∀ h', (∀ b o, s₁.heap.get? b = some o → h'.get? b = some o) → Q none { s₁.setGen g .finished with heap := h' }) :
    wpAny (model prog w) A (pyNext (.ref a)) Q E s := by
  unfold pyNext
  refine wpAny_bind (wpAny_attempt (wpAny_callSpecial?_slot (name := Str.ofString "__next__") hg.typeIs slot_gen_next
    (wpAny_call_entry slot_gen_next hg.typeIs entry_gen_next ?_ (args_gen_next _))))
  show wpAny _ A.in1 (Builtin.Generator.genWake (.ref a) (.send .none)) _ _ s
  unfold Builtin.Generator.genWake
  refine wpAny_bind (wpAny_holding (wpAny_genNumber hg (wpAny_bind (wpAny_genState hgs ?_))))
  cases gs with
  | running => exact hgo.elim
  | finished => exact hgo.elim
  | _ =>
    refine wpAny_bind (wpAny_roomToWake hl hroom ?_)
    show wpAny _ A.in1 (.resume g (.send .none) [] _) _ _ s
    refine wpAny_resumeQ hgs hgo (fun x s₁ hx => ?_) (fun v s₁ gs' hb hv => ?_)
    · obtain ⟨rfl, hp⟩ := hx
      show wpAny _ A.in1 (newExc (.type "StopIteration") [] >>= _) _ _ _
      refine wpAny_bind ?_
      simp only [newExc, newTuple]
      refine wpAny_bind (wpAny_newObj_type ?_ (by size_fits))
      refine wpAny_bind (m := firstArgMember _ _) (wpAny_of_eq (a := Value.none) (by first | rfl | (simp only [firstArgMember]; rfl)) ?_)
      refine wpAny_newObj_type ?_ (by size_fits)
      simp only [raiseNew]
      refine wpAny_bind (wpAny_bind (wpAny_handled ?_))
      rw [show A.in1.handled = none from hh]
      refine wpAny_throw ?_
      refine wpAny_bind (wpAny_isInstance (T := "StopIteration") (b := true) ⟨_, Heap.get?_push_size _ rfl, rfl⟩ isSubtype_stop ?_)
      exact wpAny_pure (hP s₁ hp _ fun b o hb => Heap.get?_push_of_some _ (Heap.get?_push_of_some _ hb))
    · exact wpAny_pure ⟨v, rfl, wpAny_pure (hY v s₁ gs' hb hv)⟩

variable {a : Addr} {g : Nat} {its : List (Nat × Str)} {j : Nat} {fp : List Addr}

theorem off_of {Lg En Si : Addr} (hin : ∀ b ∈ [Lg, En, Si], b ∈ fp ∨ s.heap.get? b = none) {b : Addr} {o : Obj} (hb : b ∉ fp) (e : s.heap.get? b = some o) : b ≠ Lg ∧ b ∉ [En, Si] := by
  constructor
  · rintro rfl
    rcases hin b (by simp) with z | z
    · exact hb z
    · rw [e] at z; cases z
  · intro hm
    rcases hin b (List.mem_cons_of_mem _ hm) with z | z
    · exact hb z
    · rw [e] at z; cases z

theorem next_item {Q : Option Value → Shared → Prop} {p : Nat} {x : Str} (hR : Ready prog w A a g its j fp s) (hj : its[j]? = some (p, x)) (gr : Gr w s.heap) (hh : A.handled = none) (hroom : A.depth < recursionLimit)
    (hQ : ∀ s' T t u fp', Ready prog w A a g its (j + 1) fp' s' → s'.heap.get? T = some { cls := .type "tuple", data := .seq #[.int (p : Nat) t, .str x u] } → s.heap.get? T = none →
      (∀ b o, b ∉ fp → s.heap.get? b = some o → s'.heap.get? b = some o) → (∀ b ∈ fp', b ∈ fp ∨ s.heap.get? b = none) → s'.os = s.os → (AllBare s.gens → AllBare s'.gens) → Q (some (.ref T)) s') :
    wpAny (model prog w) A (pyNext (.ref a)) Q E s := by
  obtain ⟨hg, haf, gs, hgs, hgo⟩ := hR
  obtain ⟨Lg, En, Si, hin, hgoes⟩ := hgo (s.setGen g .running) (fun b _ o q => q) gr
  have hlt : j < its.length := by
    rcases Nat.lt_or_ge j its.length with h | h
    · exact h
    · rw [List.getElem?_eq_none h] at hj; cases hj
  obtain ⟨m, hm⟩ : ∃ m, its.length - j = m + 1 := ⟨its.length - j - 1, by omega⟩
  rw [hm] at hgoes
  refine next_fn (P := fun n s₀ s₁ => n = 0 ∧ GenSince Lg [En, Si] s₀ s₁) (Y := esProto its Lg En Si) hh gr.lim hroom hg hgs hgoes (fun v s₁ gs' hb hv => ?_) (fun s₁ hp => absurd hp.1 (Nat.succ_ne_zero m))
  obtain ⟨⟨p', x', t, u, T, hi, rfl, hT, hT0⟩, ⟨h₁, tk₁, rfl, hk₁⟩, hkap⟩ := hv
  have hidx : its.length - 1 - (m + 1 - 1) = j := by omega
  rw [hidx, hj] at hi
  cases hi
  have keep : ∀ b o, b ∉ fp → s.heap.get? b = some o → h₁.get? b = some o := fun b o hb q => hk₁ b o (off_of hin hb q).1 (off_of hin hb q).2 q
  refine hQ _ T t u [Lg, En, Si] ⟨?_, ?_, gs', ?_, fun s'' hag g'' => ⟨Lg, En, Si, fun b hb => .inl hb, ?_⟩⟩ hT hT0 keep hin rfl ?_
  · obtain ⟨o, nm, qn, ho, r⟩ := hg
    exact ⟨o, nm, qn, keep a o haf ho, r⟩
  · obtain ⟨o, nm, qn, ho, r⟩ := hg
    have z := off_of hin haf ho
    intro hm
    rcases List.mem_cons.mp hm with hm | hm
    · exact z.1 hm
    · exact z.2 hm
  · exact setGen_self (gs := .running) (setGen_self hgs)
  · rw [show its.length - (j + 1) = m by omega]
    exact hkap s'' hag
  · exact fun hab => GenOnlyQ.bare (g := g) (GenOnlyQ.of ((GenOnly.setGen s g .running).trans (GenOnly.setGen _ g gs')) (setGen_self (gs := .running) (setGen_self hgs)) hb) hab

theorem next_end {Q : Option Value → Shared → Prop} (hR : Ready prog w A a g its j fp s) (hj : j = its.length) (gr : Gr w s.heap) (hh : A.handled = none) (hroom : A.depth < recursionLimit)
    (hQ : ∀ s', (∀ b o, b ∉ fp → s.heap.get? b = some o → s'.heap.get? b = some o) → s'.os = s.os → (AllBare s.gens → AllBare s'.gens) → Q none s') :
    wpAny (model prog w) A (pyNext (.ref a)) Q E s := by
  obtain ⟨hg, haf, gs, hgs, hgo⟩ := hR
  obtain ⟨Lg, En, Si, hin, hgoes⟩ := hgo (s.setGen g .running) (fun b _ o q => q) gr
  subst hj
  rw [Nat.sub_self] at hgoes
  refine next_fn (P := fun n s₀ s₁ => n = 0 ∧ GenSince Lg [En, Si] s₀ s₁) (Y := esProto its Lg En Si) hh gr.lim hroom hg hgs hgoes (fun v s₁ gs' hb hv => ?_) (fun s₁ hp h' hk => ?_)
  · obtain ⟨_, _, hkap⟩ := hv
    exact False.elim (hkap s₁ fun _ _ _ e => e)
  · obtain ⟨_, h₁, tk₁, rfl, hk₁⟩ := hp
    refine hQ _ (fun b o hb q => hk b o (hk₁ b o (off_of hin hb q).1 (off_of hin hb q).2 q)) rfl ?_
    exact fun hab => GenOnlyQ.bare (g := g) (GenOnlyQ.of ((GenOnly.setGen s g .running).trans (GenOnly.setGen _ g .finished)) (setGen_self (gs := .running) (setGen_self hgs)) rfl) hab
end
end Mine
end

section
namespace Mine
open PySem PySem.W PyProof.Rows PySem.Calls

theorem Ok.step {w : World} {s s' s'' : Shared} (x : Ok w s s') (hk : ∀ b o, s.heap.get? b ≠ none → s'.heap.get? b = some o → s''.heap.get? b = some o) (hos : s''.os = s'.os) (hb : AllBare s'.gens → AllBare s''.gens) : Ok w s s'' :=
  ⟨fun b o hb e => hk b o (fun z => by rw [e] at z; cases z) (x.ext b o hb e), x.g₀, x.g₀.on x.gr hk, hos.trans x.os, fun q => hb (x.bare q)⟩

section
variable {prog : Program} {w : World} {A : Around} {E : Value → Shared → Prop} {s₀ s : Shared} {a : Addr} {g : Nat} {its : List (Nat × Str)} {j : Nat} {fp : List Addr}

theorem Ready.on {s' : Shared} (hR : Ready prog w A a g its j fp s) (ha : ∀ o, s.heap.get? a = some o → s'.heap.get? a = some o) (hk : ∀ b ∈ fp, ∀ o, s.heap.get? b = some o → s'.heap.get? b = some o) (hg : s'.gens = s.gens) : Ready prog w A a g its j fp s' := by
  obtain ⟨⟨o, nm, qn, ho, r⟩, haf, gs, hgs, hgo⟩ := hR
  exact ⟨⟨o, nm, qn, ha o ho, r⟩, haf, gs, by rw [hg]; exact hgs, fun s'' hag g'' => hgo s'' (fun b hb o q => hag b hb o (hk b hb o q)) g''⟩

theorem letGo_gen {elts : List Expr} {k : Nat} {pos : Pos} {T : Addr} {Q : Unit → Shared → Prop} (hg : s.heap.IsGen a g) (hQ : Q () s) :
    wpAny (model prog w) A (letOwnedTupleGo (.Tuple elts k pos) (.ref a) (.ref T)) Q E s := by
  obtain ⟨⟨c, d, dt, sl⟩, nm, qn, ho, hc, hd, _⟩ := hg
  dsimp only at hc hd
  subst hc hd
  unfold letOwnedTupleGo
  refine wpAny_bind (wpAny_load ho ?_)
  exact wpAny_ite_false (decide_eq_false fun h => absurd (Bool.and_eq_true_iff.mp h).1 (by decide)) (wpAny_pure hQ)

variable {env : Env} {L : Addr} {ns : List (Str × NameKind)} {l : List (Str × Value)} {x y : Str}

theorem for_gen {R : Result → Shared → Prop} {px py pt : Pos} {k : Nat} {body : List Stmt} (J : Nat → List (Str × Value) → Prop)
    (e : Ev env L ns) (hh : A.handled = none) (hroom : A.depth < recursionLimit) (hx : ns.lookup x = some .local) (hy : ns.lookup y = some .local)
    (hR : Ready prog w A a g its 0 fp s) (hf₀ : ∀ b ∈ fp, s₀.heap.get? b = none) (hLf : L ∉ fp) (hLa : L ≠ a)
    (o : Ok w s₀ s) (hL : s₀.heap.get? L = none) (hn : s.heap.Ns L (mp l)) (h0 : J 0 l)
    (turn : ∀ i l p u t v s₁, its[i]? = some (p, u) → J i l → Ok w s₀ s₁ → s₁.heap.Ns L (mp ((y, .str u v) :: (x, .int (p : Nat) t) :: l)) → (∀ b o, b ≠ L → b ∉ fp → s.heap.get? b = some o → s₁.heap.get? b = some o) →
      wpAny (model prog w) A (execs body env) (fun f s₂ => match f with
        | .next | .cont => ∃ l', s₂.heap.Ns L (mp l') ∧ J (i + 1) l' ∧ (∀ b o, b ≠ L → s₁.heap.get? b = some o → s₂.heap.get? b = some o) ∧ s₂.gens = s₁.gens ∧ s₂.os = s₁.os
        | .brk => R (.ok .next) s₂
        | .ret v => R (.ok (.ret v)) s₂) (fun _ _ => False) s₁)
    (fin : ∀ l' s', J its.length l' → Ok w s₀ s' → s'.heap.Ns L (mp l') → (∀ b o, b ≠ L → b ∉ fp → s.heap.get? b = some o → s'.heap.get? b = some o) → R (.ok .next) s') :
    codeAny (model prog w) A (.forLoop (.Tuple [.Name x px, .Name y py] k pt) (.ref a) body [] env) R s := by
  refine codeAny_forLoop_any (fun n s' => ∃ i l' fp', i ≤ its.length ∧ n = its.length + 1 - i ∧ J i l' ∧ Ok w s₀ s' ∧ s'.heap.Ns L (mp l') ∧ Ready prog w A a g its i fp' s' ∧ (∀ b ∈ fp', b ∈ fp ∨ s.heap.get? b = none) ∧ L ∉ fp' ∧
    (∀ b o, b ≠ L → b ∉ fp → s.heap.get? b = some o → s'.heap.get? b = some o)) ?_ (its.length + 1)
    ⟨0, l, fp, Nat.zero_le _, rfl, h0, o, hn, hR, fun b hb => .inl hb, hLf, fun _ _ _ _ q => q⟩
  rintro n s₁ ⟨i, l₁, fp₁, hi, rfl, hj, o₁, hn₁, hR₁, hfp₁, hL₁, hkp₁⟩
  have hf1 : ∀ b ∈ fp₁, s₀.heap.get? b = none := fun b hb => (hfp₁ b hb).elim (hf₀ b) (fun z => o.gone z)
  by_cases hlt : i < its.length
  · obtain ⟨⟨p, u⟩, hv⟩ : ∃ v, its[i]? = some v := ⟨its[i], List.getElem?_eq_getElem hlt⟩
    refine next_item hR₁ hv o₁.gr hh hroom fun s₂ T t v fp₂ hR₂ hT hT₁ hk₂ hfp₂ hos₂ hb₂ => ?_
    dsimp only
    have hLT : T ≠ L := fun z => by rw [z] at hT₁; exact ns_in hn₁ hT₁
    have hL₂ : L ∉ fp₂ := fun z => (hfp₂ L z).elim hL₁ (ns_in hn₁)
    have o₂ : Ok w s₀ s₂ := o₁.step (fun b ob hb q => hk₂ b ob (fun z => hb (hf1 b z)) q) hos₂ hb₂
    have hn₂ : s₂.heap.Ns L (mp l₁) := ns_at hn₁ fun ob q => hk₂ L ob hL₁ q
    have aT : s₂.heap.IsGen a g := hR₂.1
    have haf₂ := hR₂.2.1
    refine letGo_gen aT (assign2 e hh hn₂ ⟨_, hT, rfl, _, rfl⟩ hx hy fun h₃ tk₃ hn₃ hk₃ => ?_)
    have o₃ : Ok w s₀ { s₂ with heap := h₃, toks := tk₃ } := o₂.upd (a := L) (fun b ob hb q => hk₃ b ob hb q) hL
    have kp₃ : ∀ b ob, b ≠ L → b ∉ fp → s.heap.get? b = some ob → h₃.get? b = some ob := fun b ob h1 h2 q => hk₃ b ob h1 (hk₂ b ob (fun z => (hfp₁ b z).elim h2 (fun y => by rw [q] at y; cases y)) (hkp₁ b ob h1 h2 q))
    refine wpAny_mono (turn i l₁ p u t v _ hv hj o₃ hn₃ kp₃) (fun f s₄ q => ?_) (fun _ _ z => z.elim)
    have go : (∃ l', s₄.heap.Ns L (mp l') ∧ J (i + 1) l' ∧ (∀ b o, b ≠ L → h₃.get? b = some o → s₄.heap.get? b = some o) ∧ s₄.gens = s₂.gens ∧ s₄.os = s₂.os) →
        ∃ m, m < its.length + 1 - i ∧ ∃ i l' fp', i ≤ its.length ∧ m = its.length + 1 - i ∧ J i l' ∧ Ok w s₀ s₄ ∧ s₄.heap.Ns L (mp l') ∧ Ready prog w A a g its i fp' s₄ ∧ (∀ b ∈ fp', b ∈ fp ∨ s.heap.get? b = none) ∧ L ∉ fp' ∧
          (∀ b o, b ≠ L → b ∉ fp → s.heap.get? b = some o → s₄.heap.get? b = some o) := by
      rintro ⟨l', hn₄, hj₄, hk₄, hg₄, hos₄⟩
      refine ⟨its.length + 1 - (i + 1), by omega, i + 1, l', fp₂, hlt, rfl, hj₄, o₃.step (fun b ob hb q => hk₄ b ob (fun z => hb (z ▸ hL)) q) hos₄ (fun z => by rw [hg₄]; exact z), hn₄,
        hR₂.on (fun ob q => hk₄ a ob (Ne.symm hLa) (hk₃ a ob (Ne.symm hLa) q)) (fun b hb ob q => hk₄ b ob (fun z => hL₂ (z ▸ hb)) (hk₃ b ob (fun z => hL₂ (z ▸ hb)) q)) hg₄,
        fun b hb => (hfp₂ b hb).elim (hfp₁ b) (fun z => ?_), hL₂, fun b ob h1 h2 q => hk₄ b ob h1 (kp₃ b ob h1 h2 q)⟩
      by_cases hbf : b ∈ fp
      · exact .inl hbf
      · right
        cases q : s.heap.get? b with
        | none => rfl
        | some ob =>
          have := hkp₁ b ob (fun y => hL₂ (y ▸ hb)) hbf q
          rw [z] at this; cases this
    cases f with
    | next => exact go q
    | cont => exact go q
    | brk => exact q
    | ret v => exact q
  · obtain rfl : i = its.length := Nat.le_antisymm hi (Nat.not_lt.mp hlt)
    refine next_end hR₁ rfl o₁.gr hh hroom fun s₂ hk₂ hos₂ hb₂ => ?_
    dsimp only
    refine wpAny_execs_nil (fin l₁ s₂ hj (o₁.step (fun b ob hb q => hk₂ b ob (fun z => hb (hf1 b z)) q) hos₂ hb₂) (ns_at hn₁ fun ob q => hk₂ L ob hL₁ q) ?_)
    exact fun b ob h1 h2 q => hk₂ b ob (fun z => (hfp₁ b z).elim h2 (fun y => by rw [q] at y; cases y)) (hkp₁ b ob h1 h2 q)
end
end Mine
end

section
namespace Mine
open PySem PySem.W PyProof.Rows PySem.Calls

theorem Gr.tabbed {w : World} {h h' : Heap} {ps : Array Value} (g : Gr w h) (hx : Heap.ExtBut 46 h h') (hc : h'.IsCode 50 46 ps) (ht : h'.TableAt 50 46 ps) (hps : ps = #[] ∨ ∃ c, ps = #[rawInt 18, rawInt 24, .ref c]) : Gr w h' where
  k := fun b o e => by
    have hb : b ≠ 46 := fun z => by
      rw [z] at e
      have : (KK w).lookup 46 = none := rfl
      rw [this] at e; cases e
    exact hx b o hb (g.k b o e)
  gl := let ⟨mg, x⟩ := g.gl; ⟨mg, ns_at x fun o q => hx _ o (by decide) q⟩
  b := let ⟨mb, x, y⟩ := g.b; ⟨mb, ns_at x fun o q => hx _ o (by decide) q, y⟩
  lim := let ⟨mb, x, y⟩ := g.lim; ⟨mb, ns_at x fun o q => hx _ o (by decide) q, y⟩
  dig := let ⟨mb, x, y⟩ := g.dig; ⟨mb, ns_at x fun o q => hx _ o (by decide) q, y⟩
  tab := ⟨ps, hc, ht, hps⟩
  bm := let ⟨ob, x, y⟩ := g.bm; ⟨ob, hx 4 _ (by decide) x, y⟩

section
variable {prog : Program} {w : World} {A : Around} {E : Value → Shared → Prop} {s : Shared} {env : Env} {L : Addr} {ns : List (Str × NameKind)} {l : List (Str × Value)}

/-- the builtins' namespace -/
theorem bfor {Q : Addr → Shared → Prop} (g : Gr w s.heap) (hg : env.globals = mainGlobals) (h : Q builtinsNs s) : wpAny (model prog w) A (builtinsFor env.globals env.builtins) Q E s := by
  obtain ⟨mg, hG⟩ := g.gl
  obtain ⟨ob, h1, h2, h3, h4⟩ := g.bm
  rw [hg]
  exact wpAny_builtinsFor (bm := 4) hG (mg_of g.k hG rfl) (by decide) h1 h2 h3 h4 h

/-- the generator expression's code -/
theorem gcode {qn : Str} {sc : Scope} {Q : Value → Shared → Prop} (g : Gr w s.heap) (hc : env.code = .ref 50)
    (h : ∀ v h' tk, Heap.ExtBut 46 s.heap h' → Gr w h' → Q v { s with heap := h', toks := tk }) : wpAny (model prog w) A (genexprCode env ⟨18, 24, 18, 62⟩ qn sc) Q E s := by
  obtain ⟨ps, h1, h2, h3⟩ := g.tab
  rcases h3 with rfl | ⟨c, rfl⟩
  · refine wpAny_genexprCodeX hc h1 h2 rfl fun c' h' tk hx _ _ hi _ ht _ => ?_
    exact h _ h' tk hx (g.tabbed hx hi ht (.inr ⟨c', rfl⟩))
  · exact wpAny_genexprCode_hit (c' := .ref c) hc h1 rfl (h _ s.heap s.toks (Heap.ExtBut.refl _ _) g)

/-- f(e, e'), f a type of the builtins -/
theorem callT2 {id : Str} {T : String} {e₁ e₂ : PySem.Expr} {p pos : Pos} {Q : Value → Shared → Prop} (e : Ev env L ns) (g : Gr w s.heap) (hv : bootBuiltins id = some (.type T))
    (he : starEach [e₁, e₂] env = [(false, eval e₁ env), (false, eval e₂ env)]) (hl : ns.lookup id = some .globalImplicit) (hm : nsIn (KK w) mainGlobals id = some none) (hx : id ≠ "__name__") (hd : (id == ("__debug__" : Str)) = false)
    (h : wpAny (model prog w) A (eval e₁ env) (fun v s₁ => wpAny (model prog w) A (eval e₂ env) (fun u s₂ => wpAny (model prog w) A (call (.type T) [v, u]) Q E s₂) E s₁) E s) :
    wpAny (model prog w) A (eval (.Call (.Name id p) [e₁, e₂] [] pos) env) Q E s := by
  refine wpAny_Call_NameR (ldb e g hv ?_ hl hm hx hd)
  refine PySem.callWith_type (by rw [he]; rfl) ?_
  rw [he]
  exact evalArgs_plain (spliced_cons (wpAny_mono h (fun v s₁ h₁ => spliced_cons (wpAny_mono h₁ (fun u s₂ h₂ => spliced_nil h₂) fun _ _ z => z)) fun _ _ z => z))

theorem len_le_sum : ∀ {ys : List Str} {y : Str}, y ∈ ys → y.length ≤ (ys.map (·.length)).sum
  | _ :: _, _, .head _ => by simp
  | _ :: r, _, .tail _ h => by have := len_le_sum h; simp; omega
theorem strip_sum : ∀ (ys : List Str), (((ys.filter (·.length != 0)).map Txt.strip).map (·.length)).sum + ((ys.filter (·.length != 0)).map Txt.strip).length ≤ (ys.map (·.length)).sum + ys.length
  | [] => by simp
  | y :: r => by
    have ih := strip_sum r
    have h1 := len_strip y
    rw [List.filter_cons]
    split <;> simp at ih ⊢ <;> omega
theorem strs_values : ∀ (l : List (Str × Tok)), (strValues l).length = l.length
  | [] => rfl
  | _ :: r => congrArg (· + 1) (strs_values r)
theorem strs_values_at : ∀ (l : List (Str × Tok)) (j : Nat), (strValues l)[j]? = (l[j]?).map fun p => Value.str p.1 p.2
  | [], _ => by simp [strValues]
  | _ :: r, 0 => rfl
  | _ :: r, j + 1 => by
    have := strs_values_at r j
    simpa [strValues] using this

set_option maxHeartbeats 4000000 in
/-- '-'.join(x.strip() for x in filter(len, args)) -/
theorem plat_join {T : Addr} {vs : List Value} {ys : List Str} {Q : Value → Shared → Prop} (e : Ev env L ns) (hc : env.code = .ref 50) (g : Gr w s.heap) (hh : A.handled = none) (hroom : A.depth < recursionLimit)
    (hn : s.heap.Ns L (mp l)) (hT : l.lookup (Str.ofString "args") = some (.ref T)) (ht : s.heap.IsTuple T vs.toArray) (hs : StrsAre vs ys) (hlen : (ys.map (·.length)).sum + ys.length ≤ 1000)
    (hl1 : ns.lookup (Str.ofString "filter") = some .globalImplicit) (hl2 : ns.lookup (Str.ofString "len") = some .globalImplicit) (hl3 : ns.lookup (Str.ofString "args") = some .local)
    (hQ : ∀ s' t', (∀ b o, b ≠ 46 → s.heap.get? b = some o → s'.heap.get? b = some o) → Gr w s'.heap → s'.os = s.os → (AllBare s.gens → AllBare s'.gens) → 1 ≤ s'.toks →
      Q (.str (Txt.join (Str.ofString "-") ((ys.filter (·.length != 0)).map Txt.strip)) t') s') :
    wpAny (model prog w) A (eval (.Call (.Attribute (.Constant (.str (Str.ofString "-")) 0 ⟨18, 15, 18, 18⟩) (Str.ofString "join") ⟨18, 15, 18, 23⟩)
      [.GeneratorExp (.Call (.Attribute (.Name (Str.ofString "x") ⟨18, 25, 18, 26⟩) (Str.ofString "strip") ⟨18, 25, 18, 32⟩) [] [] ⟨18, 25, 18, 34⟩)
        [⟨.Name (Str.ofString "x") ⟨18, 39, 18, 40⟩, .Call (.Name (Str.ofString "filter") ⟨18, 44, 18, 50⟩) [.Name (Str.ofString "len") ⟨18, 51, 18, 54⟩, .Name (Str.ofString "args") ⟨18, 56, 18, 60⟩] [] ⟨18, 44, 18, 61⟩, [], 0⟩]
        { kind := .function, names := [(Str.ofString ".0", .local), (Str.ofString "x", .local)], isGenerator := true, isCoroutine := false, more := [] } ⟨18, 24, 18, 62⟩] [] ⟨18, 15, 18, 63⟩) env) Q E s := by
  have hyl : ∀ y ∈ ys, y.length ≤ 1000 := fun y hy => by
    have : y.length ≤ (ys.map (·.length)).sum := len_le_sum hy
    omega
  with_reducible refine meth1 ?h1 ?h2 ?h3 F.plainAttrs_str F.slot_str_join F.type_str_join ?_
  case h1 => rfl
  case h2 => rfl
  case h3 => rfl
  refine wpAny_Constant_str ⟨typeIs_str _ _ _, GM.noRef, ?_⟩
  refine wpAny_with_toks (n := 1) (Nat.le_add_left 1 s.toks) ?_
  refine wpAny_GeneratorExp_walksQ (cl := []) hh rfl (closureFor_none (by decide)) (by decide) rfl rfl rfl hroom ?_ (fun _ => rfl)
  refine callT2 e g rfl rfl hl1 rfl (by decide) (by decide) (ldb e g (v := .builtin "len") rfl (ld e hn hT (call_flt ht fun h₁ hI hJ hk hsz => ?_) hl3) hl2)
  dsimp only at hI hJ hk hsz ⊢
  refine iter_flt hI ⟨(g.keeps hk).lim, gcode (g.keeps hk) hc fun code h₂ tk₂ hx₂ g₂ => bfor g₂ e.globals ?_⟩
  dsimp only at hx₂ ⊢
  have s46 : 46 < s.heap.objs.size := g.tab46
  have i1 : s.heap.objs.size + 1 ≠ 46 := by omega
  have i2 : s.heap.objs.size ≠ 46 := by omega
  have hT46 : T ≠ 46 := fun z => by
    obtain ⟨_, _, ⟨_, y⟩, _⟩ := g.tab
    obtain ⟨o, q, q2, _⟩ := ht
    rw [z, y] at q; cases q; cases q2
  have hTl : T < s.heap.objs.size := by obtain ⟨o, q, _⟩ := ht; exact Heap.lt_size q
  have sz2 : s.heap.objs.size + 2 ≤ h₂.objs.size := by
    have h : s.heap.objs.size + 1 < h₂.objs.size := Heap.lt_size (hx₂ _ _ i1 hI)
    exact h
  have hJ0 : s.heap.objs.size ≠ T := Nat.ne_of_gt hTl
  refine ⟨s.heap.objs.size + 1, [s.heap.objs.size + 1, s.heap.objs.size, T], [s.heap.objs.size], _, _, _, fun _ => true,
    fun i y => ∃ x u, (ys.filter (·.length != 0))[i]? = some x ∧ y = Value.str (Txt.strip x) u, rfl,
    fun A' hA' => walks_flt (J := s.heap.objs.size) (t := T) hA' hs (fun y hy => Nat.le_trans (hyl y hy) (by decide)) (Nat.succ_ne_self _) (Ne.symm hJ0),
    ⟨hx₂ _ _ i1 hI, (ht.at fun o q => hx₂ T o hT46 (hk T o q)), 0, hJ.at fun o q => hx₂ _ o i2 q, rfl⟩, ?_, g₂.lim, ?_, ?_, ?_⟩
  · intro b hb
    simp only [List.mem_cons, List.not_mem_nil, or_false] at hb
    have a1 : s.heap.objs.size + 1 < h₂.objs.size := sz2
    have a2 : T < h₂.objs.size := Nat.lt_of_lt_of_le hTl (Nat.le_trans (Nat.le_add_right _ 2) sz2)
    rcases hb with rfl | rfl | rfl
    · exact a1
    · exact Nat.lt_of_succ_lt a1
    · exact a2
  · intro hm
    have h1 : cStatics = s.heap.objs.size := by simpa using hm
    have h2 : (cStatics : Nat) < 46 := by decide
    rw [h1] at h2
    exact absurd s46 (Nat.not_lt.mpr (Nat.le_of_lt h2))
  · intro href hkeep
    refine ⟨fun A' E' i v s₂ m₂ hA' hP hns hm _ => ?_, fun A' E' i v s₂ m₂ hA' hP _ hns hm _ => ?_⟩
    · rw [List.forIn_nil]
      exact wpAny_pure ⟨rfl, s₂.heap, s₂.toks, rfl, fun _ _ q => q⟩
    · obtain ⟨y, u, rfl, hy⟩ := hP
      have hym : y ∈ ys := (List.mem_filter.mp (List.mem_of_getElem? hy)).1
      refine meth0 rfl rfl F.plainAttrs_str F.slot_str_strip F.type_str_strip (wpAny_Name (wpAny_loadName_local rfl rfl hns hm ⟨typeIs_str _ _ _, GM.noRef, ?_⟩) (by decide))
      refine SC.strip (fun t' k => ⟨⟨y, t', hy, rfl⟩, s₂.heap, k, rfl, fun _ _ q => q⟩) (by rw [sizeLine_eq]; have := hyl y hym; omega)
  · intro a h₅ tk₅ gs hgs ha hsz₅ hk₅ W hst htk
    refine wpAny_with_toks (n := 1) htk ?_
    refine SC.joinGen W.of_in1.of_in1 (fun i s' st => st.1.typeIs) hst ?_ (by simp) ?_ ?_ ?_
    · intro b hb
      simp only [List.mem_cons, List.mem_range] at hb
      dsimp only
      have a1 : h₅.objs.size = a + 1 := hsz₅
      have a2 : h₂.objs.size < a := ha
      rw [a1]
      rcases hb with rfl | rfl | hb
      · exact Nat.lt_succ_self _
      · exact Nat.lt_succ_of_lt a2
      · exact Nat.lt_succ_of_lt (Nat.lt_trans hb a2)
    · rintro i v ⟨j, _, x, u, _, rfl⟩
      exact ⟨_, _, rfl⟩
    · intro s' l' hm hit
      have hpass : passing (fun _ => true) (ys.filter (·.length != 0)).length 0 = List.range (ys.filter (·.length != 0)).length := by
        unfold passing
        rw [List.drop_zero, List.filter_eq_self.mpr (fun _ _ => rfl)]
      rw [hpass] at hit
      have hl' : l'.map (·.1) = (ys.filter (·.length != 0)).map Txt.strip := by
        have h1 : l'.length = (ys.filter (·.length != 0)).length := by
          have := hit.1
          rw [List.size_toArray, strs_values, List.length_range] at this
          exact this
        apply List.ext_getElem?
        intro j
        by_cases hj : j < l'.length
        · have h2 := hit.2 j (Value.str l'[j].1 l'[j].2) (by simp [strs_values_at, hj])
          obtain ⟨i, hi, x, u, hx, hv⟩ := h2
          have hji : j = i := by
            rw [List.getElem?_range (by omega)] at hi
            exact Option.some.inj hi
          subst hji
          have hv1 := (Value.str.inj hv).1
          rw [List.getElem?_map, List.getElem?_map, hx, List.getElem?_eq_getElem hj]
          simp [hv1]
        · rw [List.getElem?_eq_none (by simp; omega), List.getElem?_eq_none (by simp; omega)]
      rw [hl']
      refine ⟨joinOk_of_weight ?_ (by decide +kernel), fun t' k hk1 => ?_⟩
      · have := strip_sum ys
        omega
      · have old : ∀ b o, s.heap.get? b = some o → b ∉ [h₂.objs.size, s.heap.objs.size] := fun b o q hb => by
          have hb1 : b < s.heap.objs.size := Heap.lt_size q
          simp only [List.mem_cons, List.not_mem_nil, or_false] at hb
          rcases hb with rfl | rfl
          · exact absurd (Nat.lt_of_lt_of_le hb1 (Nat.le_trans (Nat.le_add_right _ 2) sz2)) (Nat.lt_irrefl _)
          · exact Nat.lt_irrefl _ hb1
        have g₅ : Gr w h₅ := g₂.keeps hk₅
        refine hQ _ t' (fun b o hb q => hm.heap b o (old b o q) (hk₅ b o (hx₂ b o hb (hk b o q)))) (g.on g₅ fun b o hb q => hm.heap b o ?_ q) hm.os (fun hb => AllBare.moved (AllBare.push hb hgs) hm.gens) hk1
        cases z : s.heap.get? b with
        | none => exact absurd z hb
        | some o' => exact old b o' z
    · have hpass : (passing (fun _ => true) (ys.filter (·.length != 0)).length 0).length = (ys.filter (·.length != 0)).length := by
        unfold passing
        rw [List.drop_zero, List.filter_eq_self.mpr (fun _ _ => rfl), List.length_range]
      rw [hpass, sizeLine_eq]
      have := List.length_filter_le (fun y : Str => y.length != 0) ys
      omega
end
end Mine
end

section
namespace Mine
open PySem PySem.W PyProof.Rows PySem.Calls

section
variable {prog : Program} {w : World} {A : Around} {E : Value → Shared → Prop} {s₀ s : Shared} {env : Env} {L : Addr} {ns : List (Str × NameKind)} {l : List (Str × Value)}

/-- for over an iterator of known turns -/
theorem turns {R : Result → Shared → Prop} {target : Expr} {body : List Stmt} {I : Addr} {fp wr : List Addr} {n : Nat} {P Md : Nat → Value → Heap → Prop} {St : Nat → Heap → Prop} (W : KTurns prog w A target I fp wr n P Md St) (J : Nat → Shared → Prop)
    (hst : St 0 s.heap) (h0 : J 0 s)
    (hJ : ∀ i s h' tk, St i s.heap → J i s → (∀ b o, b ∉ wr → s.heap.get? b = some o → h'.get? b = some o) → J i { s with heap := h', toks := tk })
    (step : ∀ i v s₁, i < n → P i v s₁.heap → J i s₁ → St (i + 1) s₁.heap → wpAny (model prog w) A (assign target env v) (fun _ s₂ => wpAny (model prog w) A (execs body env) (fun f s₃ => match f with
        | .next | .cont => J (i + 1) s₃ ∧ ∀ b ∈ fp, ∀ o, s₁.heap.get? b = some o → s₃.heap.get? b = some o
        | .brk => R (.ok .next) s₃
        | .ret v => R (.ok (.ret v)) s₃) (fun _ _ => False) s₂) (fun _ _ => False) s₁)
    (fin : ∀ s', J n s' → R (.ok .next) s') : codeAny (model prog w) A (.forLoop target (.ref I) body [] env) R s := by
  refine codeAny_forLoop_any (fun k s' => ∃ i, i ≤ n ∧ k = n + 1 - i ∧ St i s'.heap ∧ J i s') ?_ (n + 1) ⟨0, Nat.zero_le _, rfl, hst, h0⟩
  rintro k s₁ ⟨i, hi, rfl, hst₁, hj⟩
  by_cases hlt : i < n
  · refine W.item i _ _ _ hlt hst₁ fun v h₁ tk₁ hMd hk₁ => ?_
    refine W.go i v _ _ _ hMd fun h₂ hP hst₂ hk₂ => ?_
    have j₂ : J i { s₁ with heap := h₂, toks := tk₁ } := hJ i s₁ h₂ tk₁ hst₁ hj fun b o hb q => hk₂ b o hb (hk₁ b o hb q)
    refine wpAny_mono (step i v _ hlt hP j₂ hst₂) (fun _ s₃ h₃ => wpAny_mono h₃ (fun f s₄ h₄ => ?_) fun _ _ z => z.elim) fun _ _ z => z.elim
    cases f with
    | next => exact ⟨_, by omega, i + 1, hlt, rfl, W.frame _ _ _ hst₂ h₄.2, h₄.1⟩
    | cont => exact ⟨_, by omega, i + 1, hlt, rfl, W.frame _ _ _ hst₂ h₄.2, h₄.1⟩
    | brk => exact h₄
    | ret v => exact h₄
  · obtain rfl : i = n := by omega
    exact W.done _ _ _ hst₁ fun h₁ tk₁ hk₁ => wpAny_execs_nil (fin _ (hJ _ s₁ h₁ tk₁ hst₁ hj hk₁))

/-- x, y = e, e', both names of the frame -/
theorem swap2 {x y : Str} {px py tpos vpos pos : Pos} {k k' : Nat} {e₁ e₂ : Expr} {Q : Flow → Shared → Prop} (e : Ev env L ns) (hh : A.handled = none)
    (hx : ns.lookup x = some .local) (hy : ns.lookup y = some .local) (he : starEach [e₁, e₂] env = [(false, eval e₁ env), (false, eval e₂ env)])
    (hw : swappedStores [.Tuple [.Name x px, .Name y py] k tpos] (.Tuple [e₁, e₂] k' vpos) env = pure (some [x, y]))
    (h : wpAny (model prog w) A (eval e₁ env) (fun u s₁ => wpAny (model prog w) A (eval e₂ env) (fun v s₂ => ∃ l, s₂.heap.Ns L (mp l) ∧
      ∀ h' tk, h'.Ns L (mp ((x, u) :: (y, v) :: l)) → (∀ b o, b ≠ L → s₂.heap.get? b = some o → h'.get? b = some o) → Q .next { s₂ with heap := h', toks := tk }) E s₁) E s) :
    wpAny (model prog w) A (exec (.Assign [.Tuple [.Name x px, .Name y py] k tpos] (.Tuple [e₁, e₂] k' vpos) pos) env) Q E s := by
  refine Assign_Tuple_swapped (names := [x, y]) ?_ rfl hw
  refine wpAny_Tuple ?_
  rw [he]
  refine spliced_cons (wpAny_mono h (fun u s₁ h₁ => spliced_cons (wpAny_mono h₁ (fun v s₂ h₂ => spliced_nil ?_) fun _ _ z => z)) fun _ _ z => z)
  obtain ⟨l, hn, hQ⟩ := h₂
  refine ⟨by rw [sizeLine_eq]; simp, ?_⟩
  refine wpAny_unpackItems_tuple (items := #[u, v]) hh ⟨_, Heap.get?_push_size _ rfl, rfl, _, rfl⟩ fun h₃ hx₃ => ?_
  dsimp only at hx₃ ⊢
  have hL2 : L < s₂.heap.objs.size := hn.lt
  have e1 : (s₂.heap.push { cls := .type "tuple", data := .seq [u, v].toArray }).objs.size = s₂.heap.objs.size + 1 := Heap.size_push ..
  rw [e1] at hx₃
  have hk : ∀ b o, s₂.heap.get? b = some o → h₃.get? b = some o := fun b o q => hx₃ b o (Nat.ne_of_lt (Nat.lt_succ_of_lt (Heap.lt_size q))) (Heap.get?_push_of_some _ q)
  show wpAny _ _ (assignInOrder [fun z => bindName env y z, fun z => bindName env x z] [v, u]) _ _ _
  refine wpAny_assignInOrder_more (bindName_ (st e (hn.keeps hk) (fun h₄ hn₄ hs₄ => ?_) hy))
  refine wpAny_assignInOrder_more (bindName_ (st e hn₄ (fun h₅ hn₅ hs₅ => ?_) hx))
  refine wpAny_assignInOrder_none ?_
  exact hQ h₅ _ hn₅ fun b o hb q => hs₅.extBut b o hb (hs₄.extBut b o hb (hk b o q))

/-- into a def's body, the frame told -/
theorem call_in2 {f : Addr} {args : List Value} {fd : FuncData} {body : List Stmt} {Q : Value → Shared → Prop}
    {binds : List (Str × Value)} {oc : Value} {od : Option Addr} {osl : Array (Option Value)}
    (g : Gr w s.heap) (ho : (KK w).lookup f = some ⟨oc, od, .func fd, osl⟩) (hcd : codeIn (KK w) fd.code fd.qualname = true) (hroom : A.depth < recursionLimit)
    (hbody : fd.body = .stmts body) (hbind : BindsTo s fd ⟨args, []⟩ binds)
    (hcell : ∀ x ∈ fd.scope.names, x.2 ≠ .cell) (hloc : ∀ x ∈ binds, fd.scope.names.lookup x.1 = some .local) (hg : fd.globals = mainGlobals) (hb : fd.builtins = builtinsNs)
    (hco : fd.scope.isCoroutine = false) (hgen : fd.scope.isGenerator = false) (hk : fd.scope.kind = .function)
    (h : ∀ h₀ L env A', env = callEnv fd L f → Ev env L fd.scope.names → In A A' → L = s.heap.objs.size → h₀.Ns L (mp binds.reverse) → (∀ b o, s.heap.get? b = some o → h₀.get? b = some o) → Gr w h₀ →
      wpAny (model prog w) A' (execs body env) (fun fl s' => Q (match fl with | .ret v => v | _ => .none) s')
        (fun _ _ => False) { s with heap := h₀, toks := s.toks + binds.length }) :
    wpAny (model prog w) A (call (.ref f) args) Q E s :=
  call_fn g ho hcd hroom hbody hbind hcell hloc (fun h₀ L env A' henv hA hL hn hk₀ g₀ => h h₀ L env A' henv (by subst henv; exact ⟨rfl, hg, hb, hk, fun _ => rfl⟩) hA hL hn hk₀ g₀) hco hgen hk

theorem zip_ap (a y z : Nat) (h1 : a < z) (h2 : y < z) : ZipApart (z + 4) (z + 2) (z + 3) z (z + 1) y a := by
  refine ⟨?_, ?_, ?_, ?_, ?_, ?_, ?_, ?_, ?_, ?_, ?_, ?_, ?_, ?_, ?_, ?_, ?_, ?_⟩ <;> (show (_ : Nat) ≠ _; omega)
theorem not46 {h : Heap} {a : Addr} {items : Array Value} (g : Gr w h) (hl : h.IsList a items) : a ≠ 46 := fun z => by
  obtain ⟨_, _, ⟨_, y⟩, _⟩ := g.tab
  obtain ⟨o, q, q2, _⟩ := hl
  rw [z, y] at q; cases q; cases q2

set_option maxHeartbeats 1000000 in
/-- for x, y in zip(xs[1:], ys) -/
theorem for_zip {x y nx ny : Str} {nl cl : Addr} {vs us : List Value} {p1 p2 p3 p4 p5 p6 p7 p8 p9 p10 pos : Pos} {k kc : Nat} {body : List Stmt} {Q : Flow → Shared → Prop} (e : Ev env L ns) (hh : A.handled = none)
    (hx : ns.lookup x = some .local) (hy : ns.lookup y = some .local) (hnx : ns.lookup nx = some .local) (hny : ns.lookup ny = some .local) (hz : ns.lookup (Str.ofString "zip") = some .globalImplicit)
    (hdx : (nx == ("__debug__" : Str)) = false) (hdy : (ny == ("__debug__" : Str)) = false)
    (o : Ok w s₀ s) (hL : s₀.heap.get? L = none) (hn : s.heap.Ns L (mp l)) (h1 : l.lookup nx = some (.ref nl)) (h2 : l.lookup ny = some (.ref cl)) (hnl : s₀.heap.IsList nl vs.toArray) (hcl : s₀.heap.IsList cl us.toArray) (hlen : vs.length ≤ 100)
    (J : Nat → List (Str × Value) → Heap → Prop) (h0 : J 0 l s.heap)
    (hJ : ∀ i l h h', J i l h → (∀ b o, b ≠ L → o.cls = .type "list" → h.get? b = some o → h'.get? b = some o) → J i l h')
    (turn : ∀ i l a b s₁, (vs.drop 1)[i]? = some a → us[i]? = some b → J i l s₁.heap → Ok w s₀ s₁ → s₁.heap.Ns L (mp ((y, b) :: (x, a) :: l)) → s₁.gens = s.gens →
      wpAny (model prog w) A (execs body env) (fun f s₂ => f = .next ∧ ∃ l', s₂.heap.Ns L (mp l') ∧ J (i + 1) l' s₂.heap ∧ Ok w s₀ s₂ ∧ s₂.gens = s.gens ∧ ∀ b o, b ≠ L → s₁.heap.get? b = some o → s₂.heap.get? b = some o) (fun _ _ => False) s₁)
    (fin : ∀ l' s', J (min (vs.length - 1) us.length) l' s'.heap → Ok w s₀ s' → s'.heap.Ns L (mp l') → s'.gens = s.gens → Q .next s') :
    wpAny (model prog w) A (exec (.For (.Tuple [.Name x p1, .Name y p2] k p3) (.Call (.Name (Str.ofString "zip") p4) [.Subscript (.Name nx p5) (.Slice (some (.Constant (.int 1) kc p6)) none none p7) p8, .Name ny p9] [] p10) body [] pos) env) Q (fun _ _ => False) s := by
  have hl1 : s.heap.IsList nl vs.toArray := hnl.at fun ob q => o.ext nl ob (not46 o.g₀ hnl) q
  have hl2 : s.heap.IsList cl us.toArray := hcl.at fun ob q => o.ext cl ob (not46 o.g₀ hcl) q
  have hLl : L < s.heap.objs.size := hn.lt
  have hnL : nl ≠ L := by obtain ⟨_, q, _⟩ := hnl; intro z; rw [z, hL] at q; cases q
  have hcL : cl ≠ L := by obtain ⟨_, q, _⟩ := hcl; intro z; rw [z, hL] at q; cases q
  refine wpAny_For (callT2 e o.gr rfl rfl hz rfl (by decide) (by decide) (wpAny_Subscript_list_slice (ld e hn h1 (wpAny_evalPart_some (wpAny_Constant_int (wpAny_evalPart_none ⟨nl, vs.toArray, some 1, none, rfl, hl1, ?_, .int 1 _, .none, ?_⟩))) hnx hdx)))
  · rw [List.size_toArray, sizeLine_eq]; omega
  have hpk : slicePick vs.toArray (some 1) none none = (vs.drop 1).toArray := slicePick_from' vs.toArray 1
  rw [hpk]
  generalize hH : (s.heap.push { cls := .type "slice", data := .fields #[.int 1 s.toks, .none, .none] }).push { cls := .type "list", data := .seq (vs.drop 1).toArray } = H
  dsimp only
  have hHs : H.objs.size = s.heap.objs.size + 2 := by rw [← hH, Heap.size_push, Heap.size_push]
  have up : ∀ b ob, s.heap.get? b = some ob → H.get? b = some ob := fun b ob q => hH ▸ Heap.get?_push_of_some _ (Heap.get?_push_of_some _ q)
  have hsl : H.IsList (s.heap.objs.size + 1) (vs.drop 1).toArray := by
    refine ⟨{ cls := .type "list", data := .seq (vs.drop 1).toArray }, ?_, rfl, 0, rfl⟩
    rw [← hH, ← Heap.size_push s.heap { cls := .type "slice", data := .fields #[.int 1 s.toks, .none, .none] }]
    exact Heap.get?_push_size _ rfl
  refine ld e (hn.keeps up) h2 ?_ hny hdy
  refine call_zip_2 hsl (hl2.at fun ob q => up cl ob q) fun h₃ hz₃ hTI hTO hi1 hi2 hsz hk₃ => ?_
  dsimp only at hz₃ hTI hTO hi1 hi2 hsz hk₃ ⊢
  have ap : ZipApart (H.objs.size + 4) (H.objs.size + 2) (H.objs.size + 3) H.objs.size (H.objs.size + 1) (s.heap.objs.size + 1) cl := by
    have hc : cl < s.heap.objs.size := by obtain ⟨_, q, _⟩ := hl2; exact Heap.lt_size q
    have hc' : (cl : Nat) < H.objs.size := by rw [hHs]; exact Nat.lt_trans hc (by omega)
    have hc2 : s.heap.objs.size + 1 < H.objs.size := by rw [hHs]; omega
    exact zip_ap _ _ _ hc' hc2
  refine wpAny_pyIter_zip hz₃ ?_
  have upH : ∀ b ob, s.heap.get? b = some ob → h₃.get? b = some ob := fun b ob q => hk₃ b ob (up b ob q)
  have hL3 : ∀ b, H.objs.size ≤ b → b ≠ L := fun b hb z => by
    have : (L : Nat) < b := Nat.lt_of_lt_of_le hLl (Nat.le_trans (by rw [hHs]; omega) hb)
    rw [z] at this; exact Nat.lt_irrefl _ this
  have hg0 : ∀ b, H.objs.size ≤ b → s₀.heap.get? b = none := fun b hb => o.gone (by
    cases q : s.heap.get? b with
    | none => rfl
    | some ob => exact absurd (Nat.lt_of_lt_of_le (Heap.lt_size q) (Nat.le_trans (by rw [hHs]; omega) hb)) (Nat.lt_irrefl _))
  have W := KTurns.ofWalksU (elts := [.Name x p1, .Name y p2]) (k := k) (pos := p3) (WalksT.zip2 (prog := prog) (w := w) (A := A) hh _ _ _ _ _ _ _ ap (vs.drop 1).toArray us.toArray).toU
  have hwr : ∀ b ∈ [H.objs.size + 4, H.objs.size + 3, H.objs.size, H.objs.size + 1], H.objs.size ≤ b := by
    intro b hb
    simp only [List.mem_cons, List.not_mem_nil, or_false] at hb
    rcases hb with rfl | rfl | rfl | rfl
    · exact Nat.le_add_right _ 4
    · exact Nat.le_add_right _ 3
    · exact Nat.le_refl _
    · exact Nat.le_add_right _ 1
  refine turns W (fun i s' => ∃ l', s'.heap.Ns L (mp l') ∧ J i l' s'.heap ∧ Ok w s₀ s' ∧ s'.gens = s.gens) ⟨hz₃, hTI, ⟨_, _, hTO⟩, hi1, hi2, hsl.at fun ob q => hk₃ _ ob q, hl2.at fun ob q => upH cl ob q⟩
    ⟨l, hn.keeps upH, hJ 0 l s.heap h₃ h0 fun b ob _ _ q => upH b ob q, o.keep upH, rfl⟩ ?_ ?_ ?_
  · rintro i s' h' tk ⟨q1, q2, ⟨_, _, q3⟩, q4, q5, _, _⟩ ⟨l', a1, a2, a3, a4⟩ hk
    refine ⟨l', ns_at a1 fun ob q => hk L ob (fun hm => hL3 L (hwr L hm) rfl) q, hJ i l' _ h' a2 fun b ob _ hcls q => hk b ob (fun hm => ?_) q, a3.heap fun b ob hb q => hk b ob (fun hm => hb (hg0 b (hwr b hm))) q, a4⟩
    simp only [List.mem_cons, List.not_mem_nil, or_false] at hm
    rcases hm with rfl | rfl | rfl | rfl
    · rw [q1] at q; cases q; exact absurd (Value.type.inj hcls) (by decide)
    · rw [q3] at q; cases q; exact absurd (Value.type.inj hcls) (by decide)
    · obtain ⟨_, z, z2, _⟩ := q4; rw [z] at q; cases q; rw [z2] at hcls; exact absurd (Value.type.inj hcls) (by decide)
    · obtain ⟨_, z, z2, _⟩ := q5; rw [z] at q; cases q; rw [z2] at hcls; exact absurd (Value.type.inj hcls) (by decide)
  · rintro i v s₁ hi ⟨T, vals, rfl, ⟨a, b, ha, hb, rfl⟩, hT⟩ ⟨l', a1, a2, a3, a4⟩ hst
    refine assign2 e hh a1 hT hx hy fun h₄ tk₄ hn₄ hk₄ => ?_
    have TL : ∀ b ∈ [H.objs.size + 4, H.objs.size + 2, H.objs.size + 3, H.objs.size, H.objs.size + 1, s.heap.objs.size + 1, cl], b ≠ L := by
      intro b hb
      simp only [List.mem_cons, List.not_mem_nil, or_false] at hb
      rcases hb with rfl | rfl | rfl | rfl | rfl | rfl | rfl
      · exact hL3 _ (Nat.le_add_right _ 4)
      · exact hL3 _ (Nat.le_add_right _ 2)
      · exact hL3 _ (Nat.le_add_right _ 3)
      · exact hL3 _ (Nat.le_refl _)
      · exact hL3 _ (Nat.le_add_right _ 1)
      · exact Nat.ne_of_gt (Nat.lt_succ_of_lt hLl)
      · exact hcL
    have o₄ : Ok w s₀ { s₁ with heap := h₄, toks := tk₄ } := a3.heap fun b ob hb q => hk₄ b ob (fun z => hb (z ▸ hL)) q
    refine wpAny_mono (turn i l' a b _ (by simpa using ha) (by simpa using hb) (hJ i l' _ h₄ a2 fun b ob hb _ q => hk₄ b ob hb q) o₄ hn₄ a4) (fun f s₂ q => ?_) fun _ _ z => z
    obtain ⟨rfl, l₂, b1, b2, b3, b4, b5⟩ := q
    exact ⟨⟨l₂, b1, b2, b3, b4⟩, fun b hb ob q => b5 b ob (TL b hb) (hk₄ b ob (TL b hb) q)⟩
  · rintro s' ⟨l', a1, a2, a3, a4⟩
    refine fin l' s' ?_ a3 a1 a4
    have : (vs.drop 1).toArray.size = vs.length - 1 := by simp
    rw [this, List.size_toArray] at a2
    exact a2
end
end Mine
end

section
namespace Mine
open PySem PySem.W PyProof.Rows PySem.Calls
open Sem (wp)

section
variable {M : Model} {A : Around} {E : Value → Shared → Prop} {s : Shared} {env : Env}

theorem R.elim {α : Type} {t : Sem α} {Q : α → Shared → Prop} {E' : Value → Shared → Prop} (h : wpR M A t Q (fun _ _ => False) s) : wpR M A t Q E' s := R.mono h (fun _ _ q => q) fun _ _ z => z.elim

/-- a comprehension, on the path -/
theorem R.comprehension {e : Expr} {scope : Scope} {pos : Pos} {newAcc first : Sem Value} {g : Comprehension} {gs : List Comprehension} {cl : List (Str × Addr)} {use : Option (Value → Sem Unit)}
    {Q : Value → Shared → Prop}
    (hcl : clausesOf e = g :: gs) (hs : ∀ x, foldedSetIterable g.iter env x = Pure.pure x) (hclos : closureFor scope env = Pure.pure cl)
    (hkind : scope.kind = .function) (hnames : ∀ x ∈ scope.names, x.2 = .local → scope.names.lookup x.1 = some .local)
    (h : wpR M A first (fun x s₁ => wpAny M A (pyIter x) (fun it s₂ => wpAny M A newAcc (fun acc s₃ =>
      wpAny M A (newFunctionEnv scope env.globals cl [] env.qual none .none (some env)) (fun cenv s₄ =>
        codeR M A (.compStart e 0 it acc { cenv with scope := relabel scope env }) (fun r s' => match r with
          | .ok _ => (match use with
            | none => ∃ m, s'.heap.Ns cenv.locals m ∧ ∀ h', Heap.SameBut cenv.locals s'.heap h' → Q acc { s' with heap := h' }
            | some u => wpAny M A (u acc) (fun _ s'' => ∃ m, s''.heap.Ns cenv.locals m ∧ ∀ h', Heap.SameBut cenv.locals s''.heap h' → Q .none { s'' with heap := h' }) E s')
          | .error _ => False) s₄) E s₃) E s₂) E s₁) E s) :
    wpR M A (PySem.comprehension e scope env pos newAcc false first use) Q E s := by
  unfold PySem.comprehension
  rw [hclos, hcl]
  refine R.bind (R.mono h (fun x s₁ h₁ => ?_) fun _ _ h' => h')
  refine R.step (wpAny_standAt (R.step (wpAny_of_eq (hs x) (R.step (wpAny_holding (wpAny_mono h₁ (fun it s₂ h₂ => ?_) fun _ _ h' => h'))))))
  have hst : ∀ {α : Type} {c : Prop} [Decidable c] {pos : Pos} {k : PUnit → Sem α} {Q : α → Shared → Prop} {s : Shared}, wpR M A (k ()) Q E s → wpR M A (if c then (standAt pos >>= k) else k ()) Q E s := by
    intro α c _ pos k Q s hk
    split
    · exact R.step (wpAny_standAt hk)
    · exact hk
  refine hst ?_
  refine R.step (wpAny_mono h₂ (fun acc s₃ h₃ => R.step (wpAny_pure (R.step (wpAny_mono h₃ (fun cenv s₄ h₄ => ?_) fun _ _ h' => h')))) fun _ _ h' => h')
  dsimp only
  have hv : ∀ x ∈ (scope.names.filter fun x => (x.2 == .local || x.2 == .cell) && x.1 != (".0" : Str)).reverse, x.2 = .local →
      Env.kindOf { cenv with scope := relabel scope env } x.1 = some .local := fun x hx hl => lookup_relabel_local (hnames x (List.mem_filter.mp (List.mem_reverse.mp hx)).1 hl)
  have hv' : ∀ x ∈ (scope.names.filter fun x => (x.2 == .local || x.2 == .cell) && x.1 != (".0" : Str)).reverse.drop 1 ++ (scope.names.filter fun x => (x.2 == .local || x.2 == .cell) && x.1 != (".0" : Str)).reverse.take 1,
      x.2 = .local → Env.kindOf { cenv with scope := relabel scope env } x.1 = some .local := fun x hx hl => by
    rcases List.mem_append.mp hx with h1 | h1
    · exact hv x (List.mem_of_mem_drop h1) hl
    · exact hv x (List.mem_of_mem_take h1) hl
  refine R.holding (R.bind (R.attempt (R.holding (R.run (A := A) (h := none) (R.monoC h₄ fun r s' hr => ?_)))))
  cases r with
  | error x => exact hr.elim
  | ok f =>
    cases use with
    | none =>
      obtain ⟨m, hn, hr⟩ := hr
      exact R.step (wpAny_holding (wpAny_comp_letGo (cenv := { cenv with scope := relabel scope env }) hkind _ s' m hv hn fun h' m' _ hs' => R.pure (hr h' hs')))
    | some u =>
      refine R.step (wpAny_rule (R.step (wpAny_holding (wpAny_mono hr (fun _ s'' hr' => ?_) fun _ _ h' => h'))))
      obtain ⟨m, hn, hr'⟩ := hr'
      exact R.step (wpAny_comp_letGo (cenv := { cenv with scope := relabel scope env }) hkind _ s'' m hv' hn fun h' m' _ hs' => R.pure (hr' h' hs'))
end

/-- the tests of a clause -/
def testsOf (ifs : List Expr) (env : Env) : Sem Bool := do
  let mut ok := true
  for c in ifs do
    if ok then ok ← isTrue c env (eval c env)
  return ok

/-- a turn of a comprehension's loop -/
def turnOf (target iter : Expr) (ifs : List Expr) (it : Value) (env : Env) (body : Sem Fin → Sem Fin) (c : Code) : Sem Fin := do
  standAt iter.pos
  match ← pyNext it with
  | none => pure (.done .next)
  | some v =>
    letOwnedTupleGo target it v
    assign target env v
    let mut ok := true
    for c in ifs do
      if ok then ok ← isTrue c env (eval c env)
    if ok then body (again c) else again c

def emitOf (elt : Expr) (acc : Value) (env : Env) (k : Sem Fin) : Sem Fin := do
  (do let _ ← call (.builtin "list.append") [acc, ← eval elt env] : Sem Unit)
  k
def nestOf (e : Expr) (d : Nat) (iter : Expr) (acc : Value) (env : Env) (k : Sem Fin) : Sem Fin := do
  let x ← eval iter env
  standAt iter.pos
  let x ← foldedSetIterable iter env x
  let _ ← runOwn (.compStart e d (← holding [x] (pyIter x)) acc env) env
  k

theorem turn_one (elt target iter : Expr) (ifs : List Expr) (scope : Scope) (pos : Pos) (it acc : Value) (env : Env) :
    compTurn (.ListComp elt [⟨target, iter, ifs, 0⟩] scope pos) 0 it acc env = turnOf target iter ifs it env (emitOf elt acc env) (.compLoop (.ListComp elt [⟨target, iter, ifs, 0⟩] scope pos) 0 it acc env) := by rfl
theorem turn_outer (elt target iter target' iter' : Expr) (ifs ifs' : List Expr) (scope : Scope) (pos : Pos) (it acc : Value) (env : Env) :
    compTurn (.ListComp elt [⟨target, iter, ifs, 0⟩, ⟨target', iter', ifs', 0⟩] scope pos) 0 it acc env =
      turnOf target iter ifs it env (nestOf (.ListComp elt [⟨target, iter, ifs, 0⟩, ⟨target', iter', ifs', 0⟩] scope pos) 1 iter' acc env) (.compLoop (.ListComp elt [⟨target, iter, ifs, 0⟩, ⟨target', iter', ifs', 0⟩] scope pos) 0 it acc env) := by rfl
theorem turn_inner (elt target iter target' iter' : Expr) (ifs ifs' : List Expr) (scope : Scope) (pos : Pos) (it acc : Value) (env : Env) :
    compTurn (.ListComp elt [⟨target, iter, ifs, 0⟩, ⟨target', iter', ifs', 0⟩] scope pos) 1 it acc env =
      turnOf target' iter' ifs' it env (emitOf elt acc env) (.compLoop (.ListComp elt [⟨target, iter, ifs, 0⟩, ⟨target', iter', ifs', 0⟩] scope pos) 1 it acc env) := by rfl

section
variable {prog : Program} {w : World} {A : Around} {E : Value → Shared → Prop} {s : Shared} {env : Env}

theorem R.compTurns {K : Result → Shared → Prop} {elt : Expr} {gens : List Comprehension} {scope : Scope} {pos : Pos} {d : Nat} {acc : Value} {target iter : Expr} {ifs : List Expr} {body : Sem Fin → Sem Fin} {I : Addr} {fp wr : List Addr} {n : Nat} {P Md : Nat → Value → Heap → Prop} {St : Nat → Heap → Prop}
    (hden : compTurn (.ListComp elt gens scope pos) d (.ref I) acc env = turnOf target iter ifs (.ref I) env body (.compLoop (.ListComp elt gens scope pos) d (.ref I) acc env))
    (W : KTurns prog w A target I fp wr n P Md St) (J : Nat → Shared → Prop) (hst : St 0 s.heap) (h0 : J 0 s)
    (hJ : ∀ i s h' tk, St i s.heap → J i s → (∀ b o, b ∉ wr → s.heap.get? b = some o → h'.get? b = some o) → J i { s with heap := h', toks := tk })
    (step : ∀ i v s₁, i < n → P i v s₁.heap → J i s₁ → St (i + 1) s₁.heap → wpAny (model prog w) A (assign target env v) (fun _ s₂ => wpR (model prog w) A (testsOf ifs env) (fun ok s₃ =>
      if ok = true then wpR (model prog w) A (body (again (.compLoop (.ListComp elt gens scope pos) d (.ref I) acc env))) (fun fin s₄ => fin = .again (.compLoop (.ListComp elt gens scope pos) d (.ref I) acc env) ∧ J (i + 1) s₄ ∧ ∀ b ∈ fp, ∀ o, s₁.heap.get? b = some o → s₄.heap.get? b = some o) (fun _ _ => False) s₃
      else J (i + 1) s₃ ∧ ∀ b ∈ fp, ∀ o, s₁.heap.get? b = some o → s₃.heap.get? b = some o) (fun _ _ => False) s₂) (fun _ _ => False) s₁)
    (fin : ∀ s', J n s' → K (.ok .next) s') : codeR (model prog w) A (.compLoop (.ListComp elt gens scope pos) d (.ref I) acc env) K s := by
  refine R.loop rfl (fun k s' => ∃ i, i ≤ n ∧ k = n + 1 - i ∧ St i s'.heap ∧ J i s') ?_ (n + 1) ⟨0, Nat.zero_le _, rfl, hst, h0⟩
  rintro k s₁ ⟨i, hi, rfl, hst₁, hj⟩
  show wpR _ A ((compTurn (.ListComp elt gens scope pos) d (.ref I) acc env).onRaise (fun x => do noteFrame x env; theTreesLotGoes x)) _ _ s₁
  refine R.onRaise ?_
  rw [hden]
  unfold turnOf
  by_cases hlt : i < n
  · refine R.step (wpAny_standAt (R.step (W.item i _ _ _ hlt hst₁ fun v h₁ tk₁ hMd hk₁ => ?_)))
    refine R.step (W.go i v _ _ _ hMd fun h₂ hP hst₂ hk₂ => ?_)
    have j₂ : J i { s₁ with heap := h₂, toks := tk₁ } := hJ i s₁ h₂ tk₁ hst₁ hj fun b o hb q => hk₂ b o hb (hk₁ b o hb q)
    refine R.step (wpAny_mono (step i v _ hlt hP j₂ hst₂) (fun _ s₃ h₃ => ?_) fun _ _ z => z.elim)
    have go : ∀ s₅, (J (i + 1) s₅ ∧ ∀ b ∈ fp, ∀ o, h₂.get? b = some o → s₅.heap.get? b = some o) → ∃ m, m < n + 1 - i ∧ ∃ i, i ≤ n ∧ m = n + 1 - i ∧ St i s₅.heap ∧ J i s₅ :=
        fun s₅ q => ⟨_, by omega, i + 1, hlt, rfl, W.frame _ _ _ hst₂ q.2, q.1⟩
    have hb : wpR (model prog w) A (testsOf ifs env >>= fun ok => if ok = true then body (again (.compLoop (.ListComp elt gens scope pos) d (.ref I) acc env)) else again (.compLoop (.ListComp elt gens scope pos) d (.ref I) acc env))
        (fun fin s' => match fin with
          | .done f => K (.ok f) s'
          | .again c' => (c' = .compLoop (.ListComp elt gens scope pos) d (.ref I) acc env ∧ ∃ m, m < n + 1 - i ∧ ∃ i, i ≤ n ∧ m = n + 1 - i ∧ St i s'.heap ∧ J i s') ∨ (c'.quiet = true ∧ codeR (model prog w) A c' K s')) (fun _ _ => False) s₃ := by
      refine R.bind (R.mono h₃ (fun ok s₄ h₄ => ?_) fun _ _ z => z)
      cases ok with
      | false =>
        rw [if_neg Bool.false_ne_true] at h₄ ⊢
        exact R.pure (Or.inl ⟨rfl, go _ h₄⟩)
      | true =>
        rw [if_pos rfl] at h₄ ⊢
        refine R.mono h₄ (fun fin s₅ q => ?_) fun _ _ z => z
        obtain ⟨rfl, q⟩ := q
        exact Or.inl ⟨rfl, go _ q⟩
    unfold testsOf at hb
    rw [bind_assoc] at hb
    simp only [pure_bind] at hb
    exact hb
  · obtain rfl : i = n := by omega
    exact R.step (wpAny_standAt (R.step (W.done _ _ _ hst₁ fun h₁ tk₁ hk₁ => R.pure (fin _ (hJ _ s₁ h₁ tk₁ hst₁ hj hk₁)))))

theorem R.startComp {K : Result → Shared → Prop} {elt : Expr} {gens : List Comprehension} {scope : Scope} {pos : Pos} {d : Nat} {acc : Value} {g : Comprehension} {I : Addr} (hg : gens[d]? = some g) (ha : g.is_async = 0)
    (hself : ∀ (Q : Value → Shared → Prop), Q (.ref I) s → wpAny (model prog w) A (pyIter (.ref I)) Q (fun _ _ => False) s) (h : codeR (model prog w) A (.compLoop (.ListComp elt gens scope pos) d (.ref I) acc env) K s) :
    codeR (model prog w) A (.compStart (.ListComp elt gens scope pos) d (.ref I) acc env) K s := by
  refine R.tree ?_
  show wpR _ A ((compStart (.ListComp elt gens scope pos) d (.ref I) acc env).onRaise (fun x => do noteFrame x env; standAt theWindowsPlace)) _ _ s
  refine R.onRaise ?_
  unfold compStart
  have hg' : (clausesOf (.ListComp elt gens scope pos))[d]? = some g := hg
  rw [hg']
  have : (g.is_async != 0) = false := by rw [ha]; rfl
  simp only [Option.elim_some, this, Bool.false_eq_true, if_false]
  refine R.step (wpAny_askSetting ?_)
  split
  · exact R.pure ⟨rfl, h⟩
  · exact R.step (wpAny_rule (R.step (wpAny_standAt (R.step (hself _ (R.pure ⟨rfl, h⟩))))))
end
end Mine
end

section
namespace Mine
open PySem PySem.W PyProof.Rows PySem.Calls

theorem pa_re : PlainAttrs "re.Pattern" :=
  ⟨⟨"object.__getattribute__", by rw [typeLookup_type, builtinLookup_eq_fast]; kernel_rfl, by decide +kernel⟩, by rw [typeLookup_type, builtinLookup_eq_fast]; kernel_rfl⟩
theorem slot_re_split : Slot "re.Pattern" "split" "re.Pattern.split" :=
  .of (owner := "re.Pattern") (n := "split") (by rw [typeLookup_type, builtinLookup_eq_fast]; kernel_rfl) (by decide +kernel) (by decide +kernel) (by decide +kernel)
    (by first | exact .inl (by decide +kernel) | exact .inr (by decide +kernel)) (by rw [isSubtype_type]; kernel_rfl)
theorem type_re_split : typeOf (.builtin "re.Pattern.split") = pure (.type "method_descriptor") := by show builtinType _ = _; rw [builtinType_eq_fast]; kernel_rfl
theorem entry_re_split : entryFor table "re.Pattern.split" = some Builtin.«re.Pattern.split» := entryFor_of_tree (by kernel_rfl)
theorem args_re_split (a b : Value) : argsOk "re.Pattern.split" ⟨[a, b], []⟩ := by
  unfold argsOk; kernel_rfl
end Mine
end

section
namespace Mine
open PySem PySem.W PyProof.Rows PySem.Calls
open PySem.Sre

/-- the pattern's code, read off the text -/
def CODE : Array Nat := match PySem.Challenge.pw_pe0098_01.main.body with
  | _ :: _ :: .Assign _ (.Call _ (_ :: _ :: .List elts _ :: _) _ _) _ :: _ => (elts.map fun e => match e with | .Constant (.int i) _ _ => i.toNat | _ => 0).toArray
  | _ => #[]

theorem code_size : CODE.size = 41 := by decide +kernel
theorem code_head : Sre.header CODE = (1, 5) := by decide +kernel

def inCls (c : Nat) : Bool := decide (c < 256) && (CODE.getD (26 + c / 32) 0).testBit (c % 32)
def dig (c : Nat) : Bool := decide (48 ≤ c) && decide (c ≤ 57)

theorem in_digits (c : Nat) (seen : Sre.Seen) : ∃ s', inSet CODE c 41 15 true seen = .ok (dig c, s') := by
  have h0 : ops[CODE.getD (15 + 0) 0]? = some Op.RANGE := by kernel_rfl
  have h1 : ops[CODE.getD (18 + 0) 0]? = some Op.FAILURE := by kernel_rfl
  have a1 : CODE.getD (15 + 1) 0 = 48 := by decide +kernel
  have a2 : CODE.getD (15 + 2) 0 = 57 := by decide +kernel
  unfold inSet
  simp only [h0, a1, a2]
  unfold dig
  cases hc : (decide (48 ≤ c) && decide (c ≤ 57)) with
  | true => exact ⟨_, if_pos rfl⟩
  | false =>
    simp only [Bool.false_eq_true, if_false]
    unfold inSet
    simp only [h1]
    exact ⟨_, rfl⟩
theorem in_class (c : Nat) (seen : Sre.Seen) : ∃ s', inSet CODE c 41 25 true seen = .ok (inCls c, s') := by
  have h0 : ops[CODE.getD (25 + 0) 0]? = some Op.CHARSET := by kernel_rfl
  have h1 : ops[CODE.getD (25 + 9 + 0) 0]? = some Op.FAILURE := by kernel_rfl
  unfold inSet
  simp only [h0]
  unfold inCls
  have e : 25 + (1 + c / 32) = 26 + c / 32 := by omega
  rw [e]
  cases hc : (decide (c < 256) && (CODE.getD (26 + c / 32) 0).testBit (c % 32)) with
  | true => exact ⟨_, if_pos rfl⟩
  | false =>
    simp only [Bool.false_eq_true, if_false]
    unfold inSet
    simp only [h1]
    exact ⟨_, rfl⟩
theorem acc_digits (c : Nat) (seen : Sre.Seen) : ∃ s', accepts CODE 13 c seen = .ok (dig c, s') := by
  have h0 : ops[CODE.getD 13 0]? = some Op.IN := by kernel_rfl
  unfold accepts
  simp only [h0, code_size]
  exact in_digits c seen
theorem acc_class (c : Nat) (seen : Sre.Seen) : ∃ s', accepts CODE 23 c seen = .ok (inCls c, s') := by
  have h0 : ops[CODE.getD 23 0]? = some Op.IN := by kernel_rfl
  unfold accepts
  simp only [h0, code_size]
  exact in_class c seen

/-- the digits' run -/
theorem run_digits (text : Array Nat) : ∀ (n p found : Nat) (seen : Sre.Seen), p + n ≤ text.size → ∃ s', Sre.run CODE text 13 n p found seen = .ok (found + (((text.toList.drop p).take n).takeWhile dig).length, s')
  | 0, p, found, seen, _ => ⟨seen, by simp [Sre.run]⟩
  | n + 1, p, found, seen, h => by
    obtain ⟨s₁, e₁⟩ := acc_digits (text.getD p 0) seen
    have hp : p < text.size := by omega
    have hd : text.toList.drop p = text.getD p 0 :: text.toList.drop (p + 1) := by
      rw [List.drop_eq_getElem_cons (by simpa using hp)]
      congr 1
      simp [Array.getD, hp]
    unfold Sre.run
    rw [e₁]
    cases hc : dig (text.getD p 0) with
    | false =>
      refine ⟨s₁, ?_⟩
      rw [hd, List.take_succ_cons, List.takeWhile_cons, hc]
      rfl
    | true =>
      obtain ⟨s₂, e₂⟩ := run_digits text n (p + 1) (found + 1) s₁ (by omega)
      refine ⟨s₂, ?_⟩
      rw [hd, List.take_succ_cons, List.takeWhile_cons, hc]
      show Sre.run CODE text 13 n (p + 1) (found + 1) s₁ = _
      rw [e₂]
      simp only [if_true, List.length_cons]
      congr 2
      omega
end Mine
end

section
namespace Mine
open PySem PySem.W PyProof.Rows PySem.Calls
open PySem.Sre

abbrev Marks := Array (Option Nat)

/-- an attempt at s begins -/
def mA (text : Array Nat) (s : Nat) (ob : Bool) (marks : Marks) (seen : Sre.Seen) : M :=
  { code := CODE, text, lim := text.size, start := s, lastStart := text.size, pc := 5, pos := s, handed := s, outermost := ob, marks, lastmark := -1, lastindex := -1,
    frames := [{ wait := .nextStart, pc := 5, pos := s, outermost := ob }], weight := 1, seen }

def kp : Sre.Kept := { lastmark := 0, lastindex := -1, whole := false, marks := #[] }
def f1 (s : Nat) (ob : Bool) : Sre.Frame := { wait := .nextStart, pc := 5, pos := s, outermost := ob }
def f2 (pc s : Nat) (ob : Bool) : Sre.Frame := { wait := .nextBranch, pc := pc, pos := s, outermost := ob, kept := kp }

/-- behind MARK and BRANCH: ahead of the digits -/
def mB (text : Array Nat) (s : Nat) (ob : Bool) (marks : Marks) (seen : Sre.Seen) : M :=
  { mA text s ob marks seen with marks := marks.setIfInBounds 0 (some s), lastmark := 0, pc := 9, frames := [f2 8 s ob, f1 s ob], weight := 2 }
/-- ahead of the class -/
def mC (text : Array Nat) (s : Nat) (ob : Bool) (marks : Marks) (seen : Sre.Seen) : M :=
  { mA text s ob marks seen with marks, lastmark := 0, pc := 23, frames := [f2 22 s ob, f1 s ob], weight := 2 }

theorem step_AB (text : Array Nat) (s : Nat) (ob : Bool) (marks : Marks) (seen : Sre.Seen) : (mA text s ob marks seen).step.step = mB text s ob marks ((seen.add 17).add 7) := by kernel_rfl

/-- behind the digits -/
def mD (text : Array Nat) (s n : Nat) (ob : Bool) (marks : Marks) (seen : Sre.Seen) : M :=
  { mA text s ob marks seen with marks := marks.setIfInBounds 0 (some s), lastmark := 0, pc := 20, pos := s + n, handed := s + n, frames := [{ wait := .giveBack, pc := 9, pos := s + n, outermost := ob, count := n, kept := kp }, f2 8 s ob, f1 s ob], weight := 3 }

theorem exec_repeat (text : Array Nat) (s : Nat) (ob : Bool) (marks : Marks) (seen : Sre.Seen) : (mB text s ob marks seen).step =
    if ((1 : Nat) : Int) > ((text.size : Int) - (s : Nat)) then { mB text s ob marks (seen.add 24) with answer := some false }
    else match Sre.run CODE text 13 (min 4294967295 ((text.size : Int) - (s : Nat)).toNat) s 0 ((seen.add 24).add 13) with
      | .error why => M.stick (mB text s ob marks (seen.add 24)) why
      | .ok (n, seen') => if n < 1 then { mB text s ob marks seen' with answer := some false } else mD text s n ob marks seen' := by kernel_rfl

theorem repeat_no {text : Array Nat} {s : Nat} {ob : Bool} {marks : Marks} {seen : Sre.Seen} (hs : s ≤ text.size) (hz : text.size < 4294967295) (h : ((text.toList.drop s).takeWhile dig).length = 0) :
    ∃ s', (mB text s ob marks seen).step = { mB text s ob marks s' with answer := some false } := by
  rw [exec_repeat]
  by_cases hz : s = text.size
  · rw [if_pos (by omega)]
    exact ⟨_, rfl⟩
  · rw [if_neg (by omega)]
    have e : min 4294967295 ((text.size : Int) - (s : Nat)).toNat = text.size - s := by omega
    rw [e]
    obtain ⟨s₁, e₁⟩ := run_digits text (text.size - s) s 0 ((seen.add 24).add 13) (by omega)
    rw [e₁]
    have e2 : (text.toList.drop s).take (text.size - s) = text.toList.drop s := List.take_of_length_le (by simp)
    rw [e2, h]
    exact ⟨_, rfl⟩

theorem repeat_yes {text : Array Nat} {s : Nat} {ob : Bool} {marks : Marks} {seen : Sre.Seen} (hs : s < text.size) (hz : text.size < 4294967295) (h : ((text.toList.drop s).takeWhile dig).length ≠ 0) :
    ∃ s', (mB text s ob marks seen).step = mD text s ((text.toList.drop s).takeWhile dig).length ob marks s' := by
  rw [exec_repeat, if_neg (by omega)]
  have e : min 4294967295 ((text.size : Int) - (s : Nat)).toNat = text.size - s := by omega
  rw [e]
  obtain ⟨s₁, e₁⟩ := run_digits text (text.size - s) s 0 ((seen.add 24).add 13) (by omega)
  rw [e₁]
  have e2 : (text.toList.drop s).take (text.size - s) = text.toList.drop s := List.take_of_length_le (by simp)
  rw [e2, Nat.zero_add]
  refine ⟨s₁, ?_⟩
  show (if _ < 1 then _ else _) = _
  rw [if_neg (by omega)]

theorem step_BC (text : Array Nat) (s : Nat) (ob : Bool) (marks : Marks) (seen : Sre.Seen) : ({ mB text s ob marks seen with answer := some false } : M).step = mC text s ob (marks.setIfInBounds 0 (some s)) seen := by kernel_rfl

theorem exec_class (text : Array Nat) (s : Nat) (ob : Bool) (marks : Marks) (seen : Sre.Seen) : (mC text s ob marks seen).step =
    if s ≥ text.size then { mC text s ob marks (seen.add 13) with answer := some false } else
    match accepts CODE 23 (text.getD s 0) (seen.add 13) with
    | .error why => M.stick (mC text s ob marks (seen.add 13)) why
    | .ok (false, seen') => { mC text s ob marks seen' with answer := some false }
    | .ok (true, seen') => { mC text s ob marks seen' with pc := 35, pos := s + 1 } := by kernel_rfl

theorem class_no {text : Array Nat} {s : Nat} {ob : Bool} {marks : Marks} {seen : Sre.Seen} (h : s < text.size → inCls (text.getD s 0) = false) :
    ∃ s', (mC text s ob marks seen).step = { mC text s ob marks s' with answer := some false } := by
  rw [exec_class]
  by_cases hs : s ≥ text.size
  · rw [if_pos hs]; exact ⟨_, rfl⟩
  · rw [if_neg hs]
    obtain ⟨s₁, e₁⟩ := acc_class (text.getD s 0) (seen.add 13)
    rw [e₁, h (by omega)]
    exact ⟨_, rfl⟩
theorem class_yes {text : Array Nat} {s : Nat} {ob : Bool} {marks : Marks} {seen : Sre.Seen} (hs : s < text.size) (h : inCls (text.getD s 0) = true) :
    ∃ s', (mC text s ob marks seen).step = { mC text s ob marks s' with pc := 35, pos := s + 1 } := by
  rw [exec_class, if_neg (by omega)]
  obtain ⟨s₁, e₁⟩ := acc_class (text.getD s 0) (seen.add 13)
  rw [e₁, h]
  exact ⟨_, rfl⟩

/-- the last branch, and back at the start -/
theorem step_Cno (text : Array Nat) (s : Nat) (ob : Bool) (marks : Marks) (seen : Sre.Seen) : ({ mC text s ob marks seen with answer := some false } : M).step = { mC text s ob marks seen with answer := some false, pc := 22, frames := [f1 s ob], weight := 1 } := by kernel_rfl
theorem step_next (text : Array Nat) (s : Nat) (ob : Bool) (marks : Marks) (seen : Sre.Seen) : ({ mC text s ob marks seen with answer := some false, pc := 22, frames := [f1 s ob], weight := 1 } : M).step =
    if s < text.size then mA text (s + 1) false marks seen else { mC text s ob marks seen with answer := some false, pc := 5, frames := [], weight := 0 } := by kernel_rfl
theorem step_failed (text : Array Nat) (s : Nat) (ob : Bool) (marks : Marks) (seen : Sre.Seen) : ({ mC text s ob marks seen with answer := some false, pc := 5, frames := [], weight := 0 } : M).step.outcome = some .failed := rfl

theorem run_step {m : M} (h : m.outcome = none) (n : Nat) : M.runFor (n + 1) m = M.runFor n m.step := by
  show (if m.outcome.isSome = true then m else M.runFor n m.step) = _
  rw [h]; rfl
theorem run_done {m : M} (h : m.outcome.isSome = true) : ∀ n, M.runFor n m = m
  | 0 => rfl
  | n + 1 => by show (if m.outcome.isSome = true then m else M.runFor n m.step) = _; rw [if_pos h]
theorem run_add : ∀ (a b : Nat) (m : M), M.runFor (a + b) m = M.runFor b (M.runFor a m)
  | 0, b, m => by rw [Nat.zero_add]; rfl
  | a + 1, b, m => by
    cases h : m.outcome with
    | none => rw [show a + 1 + b = (a + b) + 1 by omega, run_step h, run_step h, run_add a b]
    | some o =>
      have hs : m.outcome.isSome = true := by rw [h]; rfl
      rw [run_done hs, run_done hs, run_done hs]

/-- what a search hands on -/
structure Found (m : M) (i e : Nat) : Prop where
  outcome : m.outcome = some .matched
  start : m.start = i
  handed : m.handed = e
  lastmark : m.lastmark = 1
  m0 : m.marks.getD 0 none = some i
  m1 : m.marks.getD 1 none = some e

theorem marks_get {marks : Marks} (h : marks.size = 2) (i e : Nat) : ((marks.setIfInBounds 0 (some i)).setIfInBounds 1 (some e)).getD 0 none = some i ∧ ((marks.setIfInBounds 0 (some i)).setIfInBounds 1 (some e)).getD 1 none = some e := by
  obtain ⟨l⟩ := marks
  match l, h with
  | [a, b], _ => exact ⟨rfl, rfl⟩

theorem found_digits {text : Array Nat} {s n : Nat} {ob : Bool} {marks : Marks} {seen : Sre.Seen} (h : marks.size = 2) : Found (M.runFor 7 (mD text s n ob marks seen)) s (s + n) := by
  obtain ⟨g0, g1⟩ := marks_get h s (s + n)
  cases ob with
  | true => exact ⟨by kernel_rfl, by kernel_rfl, by kernel_rfl, by kernel_rfl, Eq.trans (by kernel_rfl) g0, Eq.trans (by kernel_rfl) g1⟩
  | false => exact ⟨by kernel_rfl, by kernel_rfl, by kernel_rfl, by kernel_rfl, Eq.trans (by kernel_rfl) g0, Eq.trans (by kernel_rfl) g1⟩
theorem found_class {text : Array Nat} {s : Nat} {ob : Bool} {marks : Marks} {seen : Sre.Seen} (h : marks.size = 2) : Found (M.runFor 6 { mC text s ob (marks.setIfInBounds 0 (some s)) seen with pc := 35, pos := s + 1 }) s (s + 1) := by
  obtain ⟨g0, g1⟩ := marks_get h s (s + 1)
  cases ob with
  | true => exact ⟨by kernel_rfl, by kernel_rfl, by kernel_rfl, by kernel_rfl, Eq.trans (by kernel_rfl) g0, Eq.trans (by kernel_rfl) g1⟩
  | false => exact ⟨by kernel_rfl, by kernel_rfl, by kernel_rfl, by kernel_rfl, Eq.trans (by kernel_rfl) g0, Eq.trans (by kernel_rfl) g1⟩

theorem to_B (text : Array Nat) (s : Nat) (ob : Bool) (marks : Marks) (seen : Sre.Seen) (n : Nat) : M.runFor (n + 2) (mA text s ob marks seen) = M.runFor n (mB text s ob marks ((seen.add 17).add 7)) := by
  have e : M.runFor (n + 2) (mA text s ob marks seen) = M.runFor (n + 1) (mA text s ob marks seen).step := run_step (m := mA text s ob marks seen) rfl (n + 1)
  have e2 : M.runFor (n + 1) (mA text s ob marks seen).step = M.runFor n (mA text s ob marks seen).step.step := run_step (m := (mA text s ob marks seen).step) (by kernel_rfl) n
  rw [e, e2, step_AB]

theorem dig0 {text : Array Nat} {s : Nat} (h : s < text.size → dig (text.getD s 0) = false) : ((text.toList.drop s).takeWhile dig).length = 0 := by
  by_cases hs : s < text.size
  · have hd : text.toList.drop s = text.getD s 0 :: text.toList.drop (s + 1) := by
      rw [List.drop_eq_getElem_cons (by simpa using hs)]
      congr 1
      simp [Array.getD, hs]
    rw [hd, List.takeWhile_cons, h hs]; rfl
  · rw [List.drop_of_length_le (by simpa using Nat.not_lt.mp hs)]; rfl

theorem to_C {text : Array Nat} {s : Nat} {ob : Bool} {marks : Marks} {seen : Sre.Seen} (hs : s ≤ text.size) (hz : text.size < 4294967295) (h : s < text.size → dig (text.getD s 0) = false) :
    ∃ s', ∀ n, M.runFor (n + 4) (mA text s ob marks seen) = M.runFor n (mC text s ob (marks.setIfInBounds 0 (some s)) s') := by
  obtain ⟨s₂, e₂⟩ := repeat_no (ob := ob) (marks := marks) (seen := (seen.add 17).add 7) hs hz (dig0 h)
  refine ⟨s₂, fun n => ?_⟩
  have e1 : M.runFor (n + 4) (mA text s ob marks seen) = M.runFor (n + 2) (mB text s ob marks ((seen.add 17).add 7)) := to_B text s ob marks seen (n + 2)
  have e3 : M.runFor (n + 2) (mB text s ob marks ((seen.add 17).add 7)) = M.runFor (n + 1) (mB text s ob marks ((seen.add 17).add 7)).step := run_step (m := mB text s ob marks ((seen.add 17).add 7)) rfl (n + 1)
  have e4 : M.runFor (n + 1) ({ mB text s ob marks s₂ with answer := some false } : M) = M.runFor n ({ mB text s ob marks s₂ with answer := some false } : M).step := run_step (m := { mB text s ob marks s₂ with answer := some false }) rfl n
  rw [e1, e3, e₂, e4, step_BC]

theorem to_no {text : Array Nat} {s : Nat} {ob : Bool} {marks : Marks} {seen : Sre.Seen} (hs : s ≤ text.size) (hz : text.size < 4294967295) (h : s < text.size → dig (text.getD s 0) = false ∧ inCls (text.getD s 0) = false) :
    ∃ s', ∀ n, M.runFor (n + 6) (mA text s ob marks seen) = M.runFor n { mC text s ob (marks.setIfInBounds 0 (some s)) s' with answer := some false, pc := 22, frames := [f1 s ob], weight := 1 } := by
  obtain ⟨s₁, e₁⟩ := to_C (ob := ob) (marks := marks) (seen := seen) hs hz (fun q => (h q).1)
  obtain ⟨s₂, e₂⟩ := class_no (ob := ob) (marks := marks.setIfInBounds 0 (some s)) (seen := s₁) (fun q => (h q).2)
  refine ⟨s₂, fun n => ?_⟩
  have e1 : M.runFor (n + 6) (mA text s ob marks seen) = M.runFor (n + 2) (mC text s ob (marks.setIfInBounds 0 (some s)) s₁) := e₁ (n + 2)
  have e3 : M.runFor (n + 2) (mC text s ob (marks.setIfInBounds 0 (some s)) s₁) = M.runFor (n + 1) (mC text s ob (marks.setIfInBounds 0 (some s)) s₁).step := run_step (m := mC text s ob (marks.setIfInBounds 0 (some s)) s₁) rfl (n + 1)
  have e4 : M.runFor (n + 1) ({ mC text s ob (marks.setIfInBounds 0 (some s)) s₂ with answer := some false } : M) = M.runFor n ({ mC text s ob (marks.setIfInBounds 0 (some s)) s₂ with answer := some false } : M).step := run_step (m := { mC text s ob (marks.setIfInBounds 0 (some s)) s₂ with answer := some false }) rfl n
  rw [e1, e3, e₂, e4, step_Cno]

theorem to_next {text : Array Nat} {s : Nat} {ob : Bool} {marks : Marks} {seen : Sre.Seen} (hs : s < text.size) (hz : text.size < 4294967295) (h : dig (text.getD s 0) = false ∧ inCls (text.getD s 0) = false) :
    ∃ s', ∀ n, M.runFor (n + 7) (mA text s ob marks seen) = M.runFor n (mA text (s + 1) false (marks.setIfInBounds 0 (some s)) s') := by
  obtain ⟨s₁, e₁⟩ := to_no (ob := ob) (marks := marks) (seen := seen) (Nat.le_of_lt hs) hz (fun _ => h)
  refine ⟨s₁, fun n => ?_⟩
  have e1 : M.runFor (n + 7) (mA text s ob marks seen) = M.runFor (n + 1) _ := e₁ (n + 1)
  have e3 : M.runFor (n + 1) ({ mC text s ob (marks.setIfInBounds 0 (some s)) s₁ with answer := some false, pc := 22, frames := [f1 s ob], weight := 1 } : M) = M.runFor n ({ mC text s ob (marks.setIfInBounds 0 (some s)) s₁ with answer := some false, pc := 22, frames := [f1 s ob], weight := 1 } : M).step :=
    run_step (m := { mC text s ob (marks.setIfInBounds 0 (some s)) s₁ with answer := some false, pc := 22, frames := [f1 s ob], weight := 1 }) rfl n
  rw [e1, e3, step_next, if_pos hs]

theorem drop_cons {text : Array Nat} {i : Nat} (hi : i < text.size) : text.toList.drop i = text.getD i 0 :: text.toList.drop (i + 1) := by
  rw [List.drop_eq_getElem_cons (by simpa using hi)]
  congr 1
  simp [Array.getD, hi]

/-- a search that finds: i is the first place of a digit or of the class -/
theorem search_yes {text : Array Nat} (hz : text.size < 4294967295) : ∀ (k s : Nat) (ob : Bool) (marks : Marks) (seen : Sre.Seen) (i : Nat), i - s = k → s ≤ i → i < text.size → marks.size = 2 →
    (∀ j, s ≤ j → j < i → dig (text.getD j 0) = false ∧ inCls (text.getD j 0) = false) → (dig (text.getD i 0) = true ∨ (dig (text.getD i 0) = false ∧ inCls (text.getD i 0) = true)) →
    ∃ n, n ≤ 10 * k + 11 ∧ Found (M.runFor n (mA text s ob marks seen)) i (if dig (text.getD i 0) = true then i + ((text.toList.drop i).takeWhile dig).length else i + 1)
  | 0, s, ob, marks, seen, i, hk, hsi, hi, hm, hpre, hmat => by
    have : s = i := by omega
    subst this
    rcases hmat with hd | ⟨hd, hc⟩
    · have hne : ((text.toList.drop s).takeWhile dig).length ≠ 0 := by
        rw [drop_cons hi, List.takeWhile_cons, hd]; simp
      obtain ⟨s₂, e₂⟩ := repeat_yes (ob := ob) (marks := marks) (seen := (seen.add 17).add 7) hi hz hne
      have e1 : M.runFor (7 + 1 + 2) (mA text s ob marks seen) = M.runFor (7 + 1) (mB text s ob marks ((seen.add 17).add 7)) := to_B text s ob marks seen (7 + 1)
      have e3 : M.runFor (7 + 1) (mB text s ob marks ((seen.add 17).add 7)) = M.runFor 7 (mB text s ob marks ((seen.add 17).add 7)).step := run_step (m := mB text s ob marks ((seen.add 17).add 7)) rfl 7
      refine ⟨7 + 1 + 2, by omega, ?_⟩
      rw [if_pos hd, e1, e3, e₂]
      exact found_digits hm
    · obtain ⟨s₁, e₁⟩ := to_C (ob := ob) (marks := marks) (seen := seen) (Nat.le_of_lt hi) hz (fun _ => hd)
      obtain ⟨s₂, e₂⟩ := class_yes (ob := ob) (marks := marks.setIfInBounds 0 (some s)) (seen := s₁) hi hc
      have e1 : M.runFor (6 + 1 + 4) (mA text s ob marks seen) = M.runFor (6 + 1) (mC text s ob (marks.setIfInBounds 0 (some s)) s₁) := e₁ (6 + 1)
      have e3 : M.runFor (6 + 1) (mC text s ob (marks.setIfInBounds 0 (some s)) s₁) = M.runFor 6 (mC text s ob (marks.setIfInBounds 0 (some s)) s₁).step := run_step (m := mC text s ob (marks.setIfInBounds 0 (some s)) s₁) rfl 6
      refine ⟨6 + 1 + 4, by omega, ?_⟩
      rw [hd, if_neg Bool.false_ne_true, e1, e3, e₂]
      exact found_class hm
  | k + 1, s, ob, marks, seen, i, hk, hsi, hi, hm, hpre, hmat => by
    obtain ⟨s₁, e₁⟩ := to_next (ob := ob) (marks := marks) (seen := seen) (by omega) hz (hpre s (Nat.le_refl _) (by omega))
    obtain ⟨n, hn, hF⟩ := search_yes hz k (s + 1) false (marks.setIfInBounds 0 (some s)) s₁ i (by omega) (by omega) hi (by simpa using hm) (fun j h1 h2 => hpre j (by omega) h2) hmat
    refine ⟨n + 7, by omega, ?_⟩
    rw [e₁]
    exact hF

theorem search_no {text : Array Nat} (hz : text.size < 4294967295) : ∀ (k s : Nat) (ob : Bool) (marks : Marks) (seen : Sre.Seen), text.size - s = k → s ≤ text.size →
    (∀ j, s ≤ j → j < text.size → dig (text.getD j 0) = false ∧ inCls (text.getD j 0) = false) →
    ∃ n, n ≤ 10 * k + 11 ∧ (M.runFor n (mA text s ob marks seen)).outcome = some .failed
  | 0, s, ob, marks, seen, hk, hs, hpre => by
    have : s = text.size := by omega
    subst this
    obtain ⟨s₁, e₁⟩ := to_no (ob := ob) (marks := marks) (seen := seen) (Nat.le_refl _) hz (fun q => absurd q (Nat.lt_irrefl _))
    refine ⟨1 + 1 + 6, by omega, ?_⟩
    have e1 : M.runFor (1 + 1 + 6) (mA text text.size ob marks seen) = M.runFor (1 + 1) _ := e₁ (1 + 1)
    have e3 : M.runFor (1 + 1) ({ mC text text.size ob (marks.setIfInBounds 0 (some text.size)) s₁ with answer := some false, pc := 22, frames := [f1 text.size ob], weight := 1 } : M) = M.runFor 1 ({ mC text text.size ob (marks.setIfInBounds 0 (some text.size)) s₁ with answer := some false, pc := 22, frames := [f1 text.size ob], weight := 1 } : M).step :=
      run_step (m := { mC text text.size ob (marks.setIfInBounds 0 (some text.size)) s₁ with answer := some false, pc := 22, frames := [f1 text.size ob], weight := 1 }) rfl 1
    rw [e1, e3, step_next, if_neg (Nat.lt_irrefl _)]
    rfl
  | k + 1, s, ob, marks, seen, hk, hs, hpre => by
    obtain ⟨s₁, e₁⟩ := to_next (ob := ob) (marks := marks) (seen := seen) (by omega) hz (hpre s (Nat.le_refl _) (by omega))
    obtain ⟨n, hn, hF⟩ := search_no hz k (s + 1) false (marks.setIfInBounds 0 (some s)) s₁ (by omega) (by omega) (fun j h1 h2 => hpre j (by omega) h2)
    refine ⟨n + 7, by omega, ?_⟩
    rw [e₁]
    exact hF

/-- the search's start -/
theorem for_search {text : Array Nat} {s : Nat} (hs : s < text.size) : Sre.forSearch CODE text 1 s text.size false = mA text s true #[none, none] (({} : Sre.Seen).add 14) := by
  unfold Sre.forSearch
  dsimp only
  rw [if_neg (by rw [code_head]; simp; omega)]
  kernel_rfl
theorem for_search_end {text : Array Nat} : (M.runFor 1 (Sre.forSearch CODE text 1 text.size text.size false)).outcome = some .failed := by
  unfold Sre.forSearch
  dsimp only
  rw [if_pos (by rw [code_head]; simp)]
  kernel_rfl
end Mine
end

section
namespace Mine
open PySem PySem.W PyProof.Rows PySem.Calls
open PySem.Sre PySem.Builtin.Re

section
variable {MM : Model} {A : Around} {E : Value → Shared → Prop} {s : Shared}

theorem drive {Q : M → Shared → Prop} : ∀ (n k : Nat) (m : M), k < n → (M.runFor (4 * (k + 1)) m).outcome.isSome = true → Q (M.runFor (4 * (k + 1)) m) s → wpAny MM A (reDrive n m) Q E s
  | 0, k, m, h, _, _ => absurd h (Nat.not_lt_zero _)
  | n + 1, k, m, h, ho, hQ => by
    have e : 4 * (k + 1) = 4 + 4 * k := by omega
    rw [e, run_add] at ho hQ
    show wpAny MM A (if (M.runFor 4 m).outcome.isSome = true then pure (M.runFor 4 m) else (do rule "sre.turn"; reDrive n (M.runFor 4 m))) Q E s
    by_cases hd : (M.runFor 4 m).outcome.isSome = true
    · rw [if_pos hd]
      rw [run_done hd] at hQ
      exact wpAny_pure hQ
    · rw [if_neg hd]
      cases k with
      | zero => exact absurd ho hd
      | succ k =>
        exact wpAny_bind (wpAny_rule (drive n k _ (by omega) ho hQ))

theorem run_end {Q : Option M → Shared → Prop} {m : M} {n : Nat} (hn : n < 2 ^ 64) (ho : (M.runFor n m).outcome.isSome = true)
    (h : match (M.runFor n m).outcome with | some .matched => Q (some (M.runFor n m)) s | some .failed => Q none s | _ => False) : wpAny MM A (reRunToEnd m) Q E s := by
  have e : M.runFor (4 * (n + 1)) m = M.runFor n m := by
    rw [show 4 * (n + 1) = n + (3 * n + 4) by omega, run_add, run_done ho]
  unfold reRunToEnd
  refine wpAny_bind (drive (2 ^ 64) n m hn (by rw [e]; exact ho) ?_)
  rw [e]
  refine wpAny_bind (wpAny_forIn_list _ (fun _ _ s' => s' = s) _ (fun i rest b s' hs' => ?_) (fun b s' hs' => ?_) _ _ rfl)
  · subst hs'
    split
    · exact wpAny_bind (wpAny_rule (wpAny_pure rfl))
    · exact wpAny_pure rfl
  · subst hs'
    cases q : (M.runFor n m).outcome with
    | none => rw [q] at ho; cases ho
    | some o =>
      rw [q] at h
      cases o with
      | matched => exact wpAny_pure h
      | failed => exact wpAny_pure h
      | stuck _ => exact h.elim
end

section
variable {prog : Program} {w : World} {A : Around} {E : Value → Shared → Prop} {s : Shared}

theorem named {x : Str} {t : Tok} {Q : List (Option Value) → Shared → Prop} (h : Q [some (.str x t), none] s) : wpAny (model prog w) A (reNamed "re.Pattern.split" "split" ["string", "maxsplit"] 1 [.str x t] []) Q E s :=
  wpAny_of_eq (a := [some (.str x t), none]) (by kernel_rfl) h

abbrev target (x : Str) (t : Tok) : ReTarget := ⟨.ref 36, .str x t, CODE, x.cps, 0, 1, 0, x.cps.size⟩

theorem whole {x : Str} {t : Tok} {Q : ReTarget → Shared → Prop} (g : Gr w s.heap) (h : Q (target x t) s) : wpAny (model prog w) A (reWholeTarget (.ref 36) (.str x t)) Q E s := by
  unfold reWholeTarget
  refine wpAny_bind (wpAny_fieldsOf (g.k 36 _ rfl) rfl ?_)
  refine wpAny_bind (wpAny_of_eq (a := (x.cps, 0)) (by kernel_rfl) ?_)
  refine wpAny_bind (wpAny_of_eq (a := ()) (by kernel_rfl) ?_)
  refine wpAny_bind (wpAny_bind (wpAny_seqItems (g.k 35 _ rfl) rfl (wpAny_pure (wpAny_pure ?_))))
  refine Eq.mpr (congrArg (fun z => Q z s) ?_) h
  kernel_rfl

/-- plain: no digit and none of the class -/
def pl (c : Nat) : Bool := !dig c && !inCls c

def reSplit : Nat → List Nat → List (List Nat)
  | 0, l => [l]
  | f + 1, l => match l.dropWhile pl with
    | [] => [l]
    | c :: r => if dig c = true then l.takeWhile pl :: (c :: r).takeWhile dig :: reSplit f ((c :: r).dropWhile dig) else l.takeWhile pl :: [c] :: reSplit f r

theorem slice_str {text : Array Nat} {a b : Nat} {Q : Value → Shared → Prop} (hz : text.size ≤ 1048576) (h : ∀ t tk, Q (.str ⟨text.extract a b⟩ t) { s with toks := tk }) : wpAny (model prog w) A (reSlice text 0 a b) Q E s := by
  unfold reSlice
  refine wpAny_ite_true rfl ?_
  refine wpAny_mkStr (h _ _) ?_
  show (text.extract a b).size ≤ sizeLine
  rw [sizeLine_eq, Array.size_extract]; omega

theorem group1 {x : Str} {t : Tok} {m : M} {i e : Nat} {Q : Value → Shared → Prop} (hF : Found m i e) (hie : i ≤ e) (hz : x.cps.size ≤ 1048576) (h : ∀ t tk, Q (.str ⟨x.cps.extract i e⟩ t) { s with toks := tk }) :
    wpAny (model prog w) A (reMachineGroup (target x t) m (0 + 1) (pure .none)) Q E s := by
  unfold reMachineGroup
  rw [hF.lastmark, if_neg (by decide)]
  show wpAny _ _ (match m.marks.getD 0 none, m.marks.getD 1 none with | some b, some e => if e < b then reWrongSpan else reSlice x.cps 0 b e | _, _ => pure Value.none) _ _ _
  rw [hF.m0, hF.m1]
  dsimp only
  rw [if_neg (by omega)]
  exact slice_str hz h

theorem plain_iff {text : Array Nat} {j : Nat} (h : pl (text.getD j 0) = true) : dig (text.getD j 0) = false ∧ inCls (text.getD j 0) = false := by
  unfold pl at h
  rw [Bool.and_eq_true] at h
  exact ⟨by simpa using h.1, by simpa using h.2⟩

/-- what stands at a place of the first run -/
theorem take_at {text : Array Nat} {p j : Nat} (h1 : p ≤ j) (h2 : j < p + ((text.toList.drop p).takeWhile pl).length) : pl (text.getD j 0) = true := by
  have hl : ((text.toList.drop p).takeWhile pl).length ≤ (text.toList.drop p).length := (List.takeWhile_prefix pl).length_le
  rw [List.length_drop] at hl
  have hlt : j - p < ((text.toList.drop p).takeWhile pl).length := by omega
  have hm : ((text.toList.drop p).takeWhile pl)[j - p] ∈ (text.toList.drop p).takeWhile pl := List.getElem_mem hlt
  have hp := List.all_eq_true.mp (List.all_takeWhile (p := pl) (l := text.toList.drop p)) _ hm
  have e : ((text.toList.drop p).takeWhile pl)[j - p] = text.getD j 0 := by
    have hpre := (List.takeWhile_prefix (l := text.toList.drop p) pl)
    have e1 := List.IsPrefix.getElem hpre hlt
    rw [e1, List.getElem_drop]
    have hjs : j < text.size := by simp at hl; omega
    simp [Array.getD, hjs, show p + (j - p) = j by omega]
  rw [e] at hp
  exact hp

theorem drop_tw (p : Nat → Bool) (l : List Nat) : l.drop (l.takeWhile p).length = l.dropWhile p := by
  induction l with
  | nil => rfl
  | cons a r ih => cases h : p a <;> simp [List.takeWhile_cons, List.dropWhile_cons, h, ih]
theorem dw_head {p : Nat → Bool} {l : List Nat} {c : Nat} {r : List Nat} (h : l.dropWhile p = c :: r) : p c = false := by
  induction l with
  | nil => cases h
  | cons a q ih =>
    rw [List.dropWhile_cons] at h
    cases ha : p a with
    | true => rw [ha] at h; exact ih (by simpa using h)
    | false => rw [ha] at h; have := List.cons.inj (by simpa using h : a :: q = c :: r); rw [← this.1]; exact ha

theorem next_of {x : Str} {t : Tok} {p : Nat} {Q : Option M → Shared → Prop} (hz : x.cps.size ≤ 1048576) (hp : p ≤ x.cps.size)
    (hno : (x.cps.toList.drop p).dropWhile pl = [] → Q none s)
    (hyes : ∀ m c r, (x.cps.toList.drop p).dropWhile pl = c :: r → Found m (p + ((x.cps.toList.drop p).takeWhile pl).length) (p + ((x.cps.toList.drop p).takeWhile pl).length + (if dig c = true then ((c :: r).takeWhile dig).length else 1)) → Q (some m) s) :
    wpAny (model prog w) A (reNextFound (target x t) p false) Q E s := by
  unfold reNextFound
  show wpAny _ _ (reRunToEnd (Sre.forSearch CODE x.cps 1 p x.cps.size false)) _ _ _
  have hz' : x.cps.size < 4294967295 := by omega
  have happ := List.takeWhile_append_dropWhile (p := pl) (l := x.cps.toList.drop p)
  by_cases hpe : p = x.cps.size
  · subst hpe
    have h1 := @for_search_end x.cps
    with_reducible refine run_end (n := 1) ?_ ?_ ?_
    · decide
    · rw [h1]; rfl
    · rw [h1]
      exact hno (by rw [List.drop_of_length_le (by simp)]; rfl)
  · have hps : p < x.cps.size := by omega
    rw [for_search hps]
    cases hd : (x.cps.toList.drop p).dropWhile pl with
    | nil =>
      rw [hd, List.append_nil] at happ
      obtain ⟨n, hn, ho⟩ := search_no hz' (x.cps.size - p) p true #[none, none] (({} : Sre.Seen).add 14) rfl hp (fun j h1 h2 => plain_iff (take_at h1 (by rw [happ, List.length_drop]; simp; omega)))
      with_reducible refine run_end (n := n) ?_ ?_ ?_
      · omega
      · rw [ho]; rfl
      · rw [ho]
        exact hno hd
    | cons c r =>
      have hlen : p + ((x.cps.toList.drop p).takeWhile pl).length < x.cps.size := by
        have := congrArg List.length happ
        rw [hd, List.length_append, List.length_drop, List.length_cons] at this
        simp at this
        omega
      have hdr : x.cps.toList.drop (p + ((x.cps.toList.drop p).takeWhile pl).length) = c :: r := by
        rw [← List.drop_drop, ← hd]
        exact drop_tw pl _
      have hc : x.cps.getD (p + ((x.cps.toList.drop p).takeWhile pl).length) 0 = c := by
        have := drop_cons hlen
        rw [hdr] at this
        exact (List.cons.inj this).1.symm
      have hnp : pl c = false := by
        exact dw_head hd
      have hmat : dig c = true ∨ (dig c = false ∧ inCls c = true) := by
        unfold pl at hnp
        cases h1 : dig c with
        | true => exact .inl rfl
        | false =>
          right
          rw [h1] at hnp
          simpa using hnp
      obtain ⟨n, hn, hF⟩ := search_yes hz' _ p true #[none, none] (({} : Sre.Seen).add 14) (p + ((x.cps.toList.drop p).takeWhile pl).length) rfl (by omega) hlen rfl (fun j h1 h2 => plain_iff (take_at h1 h2)) (by rw [hc]; exact hmat)
      with_reducible refine run_end (n := n) ?_ ?_ ?_
      · omega
      · rw [hF.outcome]; rfl
      · rw [hF.outcome]
        refine hyes _ c r hd ?_
        rw [hc, hdr] at hF
        cases hdc : dig c with
        | true => rw [hdc, if_pos rfl] at hF; rw [if_pos rfl]; exact hF
        | false => rw [hdc, if_neg Bool.false_ne_true] at hF; rw [if_neg Bool.false_ne_true]; exact hF
end
end Mine
end

section
namespace Mine
open PySem PySem.W PyProof.Rows PySem.Calls
open PySem.Sre PySem.Builtin.Re

abbrev txt (l : List Nat) : Str := ⟨l.toArray⟩

theorem strs_snoc {y : Str} {t : Tok} : ∀ {vs : List Value} {ys : List Str}, StrsAre vs ys → StrsAre (vs ++ [.str y t]) (ys ++ [y])
  | _, _, .nil => .cons _ _ .nil
  | _, _, .cons a u r => .cons a u (strs_snoc r)

theorem reSplit_nil {f : Nat} {l : List Nat} (h : l.dropWhile pl = []) : reSplit f l = [l] := by
  cases f with
  | zero => rfl
  | succ f => unfold reSplit; rw [h]
theorem reSplit_cons {f : Nat} {l : List Nat} {c : Nat} {r : List Nat} (h : l.dropWhile pl = c :: r) : reSplit (f + 1) l =
    if dig c = true then l.takeWhile pl :: (c :: r).takeWhile dig :: reSplit f ((c :: r).dropWhile dig) else l.takeWhile pl :: [c] :: reSplit f r := by
  rw [reSplit, h]

theorem reSplit_length : ∀ (f : Nat) (l : List Nat), (reSplit f l).length ≤ 2 * f + 1
  | 0, l => by simp [reSplit]
  | f + 1, l => by
    cases h : l.dropWhile pl with
    | nil => rw [reSplit_nil h]; simp
    | cons c r =>
      rw [reSplit_cons h]
      cases dig c with
      | true => rw [if_pos rfl]; have := reSplit_length f ((c :: r).dropWhile dig); simp only [List.length_cons]; omega
      | false => rw [if_neg Bool.false_ne_true]; have := reSplit_length f r; simp only [List.length_cons]; omega

theorem strs_len : ∀ {vs : List Value} {ys : List Str}, StrsAre vs ys → vs.length = ys.length
  | _, _, .nil => rfl
  | _, _, .cons _ _ r => congrArg (· + 1) (strs_len r)

theorem extract_take {text : Array Nat} {p n : Nat} : text.extract p (p + n) = ((text.toList.drop p).take n).toArray := by
  apply Array.ext'
  simp [Array.toList_extract, List.extract_eq_take_drop]

section
variable {prog : Program} {w : World} {A : Around} {E : Value → Shared → Prop} {s : Shared}

/-- the loop's state -/
abbrev SpSt := Array Value × Nat × Nat × Bool × Int × Bool

def SpInv (x : Str) (s : Shared) (rest : List Nat) (b : SpSt) (s' : Shared) : Prop :=
  (∃ tk, s' = { s with toks := tk }) ∧ b.2.2.2.1 = false ∧ b.2.1 = b.2.2.1 ∧ b.2.1 ≤ x.cps.size ∧ ∃ outs : List (List Nat), StrsAre b.1.toList (outs.map txt) ∧
    ((b.2.2.2.2.2 = false ∧ x.cps.size - b.2.1 + 1 ≤ rest.length ∧ ∃ f, x.cps.size - b.2.1 + 1 ≤ f ∧ outs ++ reSplit f (x.cps.toList.drop b.2.1) = reSplit (x.cps.size + 1) x.cps.toList) ∨
     (b.2.2.2.2.2 = true ∧ outs ++ [x.cps.toList.drop b.2.1] = reSplit (x.cps.size + 1) x.cps.toList))

set_option maxHeartbeats 1000000 in
theorem split_wp {x : Str} {t : Tok} {Q : Value → Shared → Prop} (g : Gr w s.heap) (hz : x.cps.size ≤ 1000)
    (hQ : ∀ vs tk, StrsAre vs ((reSplit (x.cps.size + 1) x.cps.toList).map txt) → vs.length ≤ 4096 → Q (.ref s.heap.objs.size) { s with heap := s.heap.push { cls := .type "list", data := .seq vs.toArray }, toks := tk }) :
    wpAny (model prog w) A (call (.builtin "re.Pattern.split") [.ref 36, .str x t]) Q E s := by
  refine wpAny_call_entry slot_re_split ⟨_, g.k 36 _ rfl, rfl⟩ entry_re_split ?_ (args_re_split _ _)
  unfold Builtin.«re.Pattern.split»
  refine wpAny_bind (named ?_)
  refine wpAny_bind (wpAny_pure ?_)
  refine wpAny_bind (whole g ?_)
  refine wpAny_bind (wpAny_forIn_list _ (SpInv x s) _ ?_ ?_ _ _ ?_)
  · rintro i rest ⟨out, start, last, must, n, over⟩ s' ⟨⟨tk, rfl⟩, hm, hsl, hle, outs, ho, hc⟩
    dsimp only at hm hsl hle ho hc
    subst hm hsl
    rcases hc with ⟨hov, hrl, f, hf, he⟩ | ⟨hov, he⟩
    · subst hov
      rw [if_pos (by rfl)]
      refine wpAny_bind (wpAny_ite_false (by rfl) ?_)
      refine next_of (by omega) hle ?_ ?_
      · intro hd
        refine wpAny_pure ⟨⟨_, rfl⟩, rfl, rfl, hle, outs, ho, .inr ⟨rfl, ?_⟩⟩
        rw [reSplit_nil hd] at he
        exact he
      · intro m c r hd hF
        obtain ⟨f', rfl⟩ : ∃ f', f = f' + 1 := ⟨f - 1, by omega⟩
        rw [reSplit_cons hd] at he
        generalize ha : ((x.cps.toList.drop start).takeWhile pl).length = a at hF
        have hdr : x.cps.toList.drop (start + a) = c :: r := by rw [← List.drop_drop, ← ha, drop_tw, hd]
        have hlen : start + a + (r.length + 1) = x.cps.size := by
          have h1 := congrArg List.length hdr
          rw [List.length_drop, List.length_cons] at h1
          simp at h1
          omega
        generalize hk : (if dig c = true then ((c :: r).takeWhile dig).length else 1) = k at hF
        have hk1 : 1 ≤ k ∧ k ≤ r.length + 1 := by
          rw [← hk]
          cases hdc : dig c with
          | true =>
            rw [if_pos rfl]
            have := (List.takeWhile_prefix (l := c :: r) dig).length_le
            rw [List.takeWhile_cons, hdc] at this ⊢
            simp at this ⊢
            omega
          | false => simp
        have e1 : Str.mk (x.cps.extract start m.start) = txt ((x.cps.toList.drop start).takeWhile pl) := by
          rw [hF.start, extract_take, ← ha]
          congr 1
          congr 1
          exact (List.prefix_iff_eq_take.mp (List.takeWhile_prefix pl)).symm
        refine wpAny_bind (slice_str (by show x.cps.size ≤ _; omega) fun t₁ tk₁ => ?_)
        show wpAny _ _ (forIn [0] _ _ >>= _) _ _ _
        rw [List.forIn_cons]
        refine wpAny_bind (wpAny_bind (wpAny_bind (group1 hF (by omega) (by omega) fun t₂ tk₂ => wpAny_pure ?_)))
        dsimp only
        rw [List.forIn_nil]
        refine wpAny_pure (wpAny_pure ?_)
        have e2 : Str.mk (x.cps.extract (start + a) (start + a + k)) = txt (if dig c = true then (c :: r).takeWhile dig else [c]) := by
          rw [extract_take, hdr, ← hk]
          cases hdc : dig c with
          | true =>
            simp only [if_true]
            congr 1
            congr 1
            exact (List.prefix_iff_eq_take.mp (List.takeWhile_prefix dig)).symm
          | false => simp
        have e3 : x.cps.toList.drop (start + a + k) = if dig c = true then (c :: r).dropWhile dig else r := by
          rw [← List.drop_drop, hdr, ← hk]
          cases hdc : dig c with
          | true => simp only [if_true]; exact drop_tw dig _
          | false => simp
        refine ⟨⟨_, rfl⟩, ?_, rfl, ?_, outs ++ [(x.cps.toList.drop start).takeWhile pl] ++ [if dig c = true then (c :: r).takeWhile dig else [c]], ?_, .inl ⟨rfl, ?_, f', ?_, ?_⟩⟩
        · show (m.handed == m.start) = false
          rw [hF.handed, hF.start]
          simpa using (by omega : ¬ (start + a + k = start + a))
        · show m.handed ≤ x.cps.size
          rw [hF.handed]; show start + a + k ≤ _; omega
        · show StrsAre ((out.push _).push _).toList _
          rw [Array.toList_push, Array.toList_push, List.map_append, List.map_append, e1, e2]
          exact strs_snoc (strs_snoc ho)
        · show x.cps.size - m.handed + 1 ≤ rest.length
          rw [hF.handed]
          rw [List.length_cons] at hrl
          show x.cps.size - (start + a + k) + 1 ≤ _
          omega
        · show x.cps.size - m.handed + 1 ≤ f'
          rw [hF.handed]; show x.cps.size - (start + a + k) + 1 ≤ _; omega
        · show _ ++ reSplit f' (x.cps.toList.drop m.handed) = _
          rw [hF.handed, e3, ← he]
          cases hdc : dig c with
          | true => simp
          | false => simp
    · subst hov
      rw [if_neg (by intro h; cases h)]
      exact wpAny_pure ⟨⟨_, rfl⟩, rfl, rfl, hle, outs, ho, .inr ⟨rfl, he⟩⟩
  · rintro ⟨out, start, last, must, n, over⟩ s' ⟨⟨tk, rfl⟩, hm, hsl, hle, outs, ho, hc⟩
    dsimp only at hm hsl hle ho hc
    rcases hc with ⟨_, hrl, _⟩ | ⟨hov, he⟩
    · simp at hrl
    · subst hov hsl
      rw [if_neg (by intro h; cases h)]
      refine wpAny_bind (slice_str (by show x.cps.size ≤ _; omega) fun t₁ tk₁ => ?_)
      have e1 : Str.mk (x.cps.extract start x.cps.size) = txt (x.cps.toList.drop start) := by
        have := @extract_take x.cps start (x.cps.size - start)
        rw [show start + (x.cps.size - start) = x.cps.size by omega, List.take_of_length_le (by simp)] at this
        rw [this]
      have hs : StrsAre (out.push (.str ⟨x.cps.extract start x.cps.size⟩ t₁)).toList ((reSplit (x.cps.size + 1) x.cps.toList).map txt) := by
        rw [Array.toList_push, ← he, List.map_append, e1]
        exact strs_snoc ho
      have hl := strs_len hs
      have hl2 := reSplit_length (x.cps.size + 1) x.cps.toList
      rw [List.length_map] at hl
      generalize out.push (.str ⟨x.cps.extract start x.cps.size⟩ t₁) = o at hs hl
      dsimp only
      refine wpAny_bind (wpAny_newList ?_ ?_)
      · exact wpAny_pure ⟨_, rfl, hQ _ _ hs (by omega)⟩
      · rw [sizeLine_eq]; omega
  · refine ⟨⟨s.toks, rfl⟩, rfl, rfl, Nat.zero_le _, [], .nil, .inl ⟨rfl, ?_, x.cps.size + 1, by omega, rfl⟩⟩
    rw [List.length_range]
    show x.cps.size - 0 + 1 ≤ 2 * x.cps.size + 3
    omega
end
end Mine
end

section
namespace Mine
open PySem PySem.W PyProof.Rows PySem.Calls
open Sem (wp)

/-- the heap without the object at a -/
def rid (h : Heap) (a : Addr) : Heap := h.update a fun o => { o with data := .freed }
theorem rid_self (h : Heap) (a : Addr) : (rid h a).get? a = none := by
  cases e : (rid h a).get? a with
  | none => rfl
  | some o =>
    exfalso
    obtain ⟨h1, h2⟩ := Heap.get?_some_iff.mp e
    unfold rid Heap.update at h1
    rw [Array.getElem?_modify, if_pos rfl] at h1
    cases q : h.objs[a]? with
    | none => rw [q] at h1; cases h1
    | some z => rw [q] at h1; have := Option.some.inj h1; rw [← this] at h2; cases h2
theorem rid_other {h : Heap} {a b : Addr} (hb : b ≠ a) : (rid h a).get? b = h.get? b := Heap.get?_update_other _ _ (Ne.symm hb)
theorem rid_in {h : Heap} {a b : Addr} {o : Obj} (e : (rid h a).get? b = some o) : b ≠ a ∧ h.get? b = some o := by
  by_cases hb : b = a
  · subst hb; rw [rid_self] at e; cases e
  · exact ⟨hb, by rw [← rid_other hb]; exact e⟩

section
variable {prog : Program} {w : World} {A : Around} {E : Value → Shared → Prop} {s : Shared} {env envF : Env} {L F : Addr} {ns : List (Str × NameKind)}

/-- a ValueError is caught in the frame L, called from the frame F -/
theorem caught {h₀ : Heap} {e : Addr} {oL oF : Obj} {np pos : Pos} {b₀ : Stmt} {suite : List Stmt} {Q : Flow → Shared → Prop} (ev : Ev env L ns)
    (hfr : A.frames = some [env, envF]) (hf : env.frame = some L) (hfF : envF.frame = some F) (hkF : envF.scope.kind ≠ .module) (hLF : L ≠ F)
    (hL : h₀.get? L = some oL) (hLd : ∀ vs, oL.data ≠ .fields vs) (hF : h₀.get? F = some oF) (hFd : ∀ vs, oF.data ≠ .fields vs) (hx : Heap.NewExc h₀ s.heap e "ValueError")
    (hg : Gr w (rid (rid h₀ L) F)) (hl : ns.lookup (Str.ofString "ValueError") = some .globalImplicit)
    (h : ∀ h', (∀ b o, b ≠ L → b ≠ F → h₀.get? b = some o → h'.get? b = some o) → (∃ sl, h'.get? L = some { oL with slots := sl }) → (∃ sl, h'.get? F = some { oF with slots := sl }) →
      wpAny (model prog w) (A.mark (some (.ref e))) (execs (b₀ :: suite) env) Q (fun _ _ => False) { s with heap := h' }) :
    wpAny (model prog w) A (noteFrame (.ref e) env) (fun _ s₂ => wpAny (model prog w) A (setFlight (.ref e) none) (fun _ s₃ =>
      wpAny (model prog w) A (handleBy (.ref e) env [.ExceptHandler (some (.Name (Str.ofString "ValueError") np)) none (b₀ :: suite) pos]) Q E s₃) E s₂) E s := by
  have hbase : ∀ b, b ≠ L → b ≠ F → (rid (rid h₀ L) F).get? b = h₀.get? b := fun b h1 h2 => (rid_other h2).trans (rid_other h1)
  have bL : (rid (rid h₀ L) F).get? L = none := (rid_other hLF).trans (rid_self _ _)
  have bF : (rid (rid h₀ L) F).get? F = none := rid_self _ _
  have be : (rid (rid h₀ L) F).get? e = none := by
    cases q : (rid (rid h₀ L) F).get? e with
    | none => rfl
    | some o => have := (rid_in (rid_in q).2).2; rw [hx.new] at this; cases this
  have stay : (rid (rid h₀ L) F).StaysIn s.heap := fun b o q => hx.keeps b o (rid_in (rid_in q).2).2
  have hff : s.heap.FunFrames (rid (rid h₀ L) F) [env, envF] :=
    ⟨by rw [ev.kind]; decide, ⟨L, oL, hf, bL, hx.keeps _ _ hL, hLd⟩, hkF, ⟨F, oF, hfF, bF, hx.keeps _ _ hF, hFd⟩, trivial⟩
  obtain ⟨ob, t, he, hcls, hd⟩ := hx.there
  have fin : ∀ h', (rid (rid h₀ L) F).StaysIn h' → s.heap.UpToSlots h' → ∀ b o, b ≠ L → b ≠ F → h₀.get? b = some o → h'.get? b = some o := fun h' k _ b o h1 h2 q => k b o ((hbase b h1 h2).trans q)
  generalize rid (rid h₀ L) F = base at *
  unfold noteFrame
  simp only [hf]
  refine wpAny_bind (wpAny_field he hd rfl ?_)
  rw [if_neg (by exact (by decide : ¬ ((Value.none != Value.none) = true)))]
  refine wpAny_entryW hfr hff hf he stay be hd (by simp) rfl fun h₁ N₁ => ?_
  obtain ⟨k1, k2, k3, k4⟩ := N₁
  refine wpAny_setFlight_noneW k1 k2 k3 fun h₂ m1 m2 m3 m4 => ?_
  dsimp only at m4 ⊢
  have up : s.heap.UpToSlots h₂ := fun b o q hn => let ⟨sl, z⟩ := k4 b o q hn; ⟨sl, m4 b _ z hn⟩
  have hTI : ({ s with heap := h₂ } : Shared).TypeIs (.ref e) "ValueError" := by
    obtain ⟨oe, vs, T, oT, ts, z, hc, _⟩ := m3
    exact ⟨oe, z, hc.1.trans hcls⟩
  refine wpAny_handleBy_builtin (X := "ValueError") (T := "ValueError") (b := true) (isSubtype_of_subB (by decide +kernel)) (isSubtype_of_subB (by decide +kernel)) (isSubtype_of_subB (by decide +kernel)) ?_
  have g₂ : Gr w h₂ := hg.keeps m1
  refine ldb (s := { s with heap := h₂ }) ev g₂ (v := .type "ValueError") (by decide +kernel) ⟨rfl, hTI, ?_⟩ hl
  rw [if_pos rfl]
  refine wpAny_setFlight_noneW m1 m2 m3 fun h₃ n1 n2 n3 n4 => ?_
  have up3 : s.heap.UpToSlots h₃ := fun b o q hn => let ⟨sl, z⟩ := up b o q hn; ⟨sl, n4 b _ z hn⟩
  exact wpAny_mono (h h₃ (fin h₃ n1 up3) (up3 L oL (hx.keeps _ _ hL) hLd) (up3 F oF (hx.keeps _ _ hF) hFd)) (fun _ _ z => z) fun _ _ z => z.elim
end

section
variable {prog : Program} {w : World} {A : Around} {E : Value → Shared → Prop} {s₀ s : Shared} {env : Env} {L ax : Addr} {ns : List (Str × NameKind)} {l : List (Str × Value)} {x : Str}

theorem R.forList {R : Result → Shared → Prop} {px : Pos} {body : List Stmt} {items : List Value} (W : List Addr) (J : Nat → List (Str × Value) → Heap → Prop)
    (e : Ev env L ns) (hh : A.handled = none) (hx : ns.lookup x = some .local) (hl : s.heap.IsList ax items.toArray) (hax : ax ≠ L) (hW : ax ∉ W) (hWs : ∀ a ∈ W, a < s.heap.objs.size)
    (o : Ok w s₀ s) (hL : s₀.heap.get? L = none) (hn : s.heap.Ns L (mp l)) (h0 : J 0 l s.heap)
    (hJ : ∀ i l h h' It, s.heap.objs.size = It → J i l h → (∀ b o, b ≠ L → b ≠ It → h.get? b = some o → h'.get? b = some o) → J i l h')
    (turn : ∀ i l v s₁, items[i]? = some v → J i l s₁.heap → Ok w s₀ s₁ → s₁.heap.Ns L (mp ((x, v) :: l)) → s₁.gens = s.gens → But L W s.heap s₁.heap →
      wpR (model prog w) A (PySem.execs body env) (fun f s₂ => match f with
        | .next | .cont => ∃ l', s₂.heap.Ns L (mp l') ∧ J (i + 1) l' s₂.heap ∧ Ok w s₀ s₂ ∧ s₂.gens = s.gens ∧ But L W s₁.heap s₂.heap
        | .brk => R (.ok .next) s₂
        | .ret v => R (.ok (.ret v)) s₂) (fun _ _ => False) s₁)
    (fin : ∀ l' s', J items.length l' s'.heap → Ok w s₀ s' → s'.heap.Ns L (mp l') → s'.gens = s.gens → But L W s.heap s'.heap → R (.ok .next) s') :
    wpAny (model prog w) A (pyIter (.ref ax)) (fun it s₂ => codeR (model prog w) A (.forLoop (.Name x px) it body [] env) R s₂) E s := by
  refine wpAny_pyIter_list hl ?_
  have hLl : L < s.heap.objs.size := hn.lt
  generalize hI : s.heap.objs.size = I at *
  have hIL : I ≠ L := Nat.ne_of_gt hLl
  have hIW : I ∉ W := fun q => Nat.lt_irrefl _ (hWs I q)
  have haxl : ax < I := by obtain ⟨_, q, _⟩ := hl; rw [← hI]; exact Heap.lt_size q
  have hIax : ax ≠ I := Nat.ne_of_lt haxl
  have up : ∀ b o, s.heap.get? b = some o → (s.heap.push { cls := .type "list_iterator", data := .fields #[.ref ax, .int 0 0] }).get? b = some o := fun b o e => Heap.get?_push_of_some _ e
  have hI0 : s₀.heap.get? I = none := hI ▸ o.fresh
  refine Mine.R.forLoop (fun k s' => ∃ i l', i ≤ items.length ∧ k = items.length + 1 - i ∧ J i l' s'.heap ∧ Ok w s₀ s' ∧ s'.heap.Ns L (mp l') ∧ s'.heap.IsListIter I ax i ∧ s'.gens = s.gens ∧ But L W s.heap s'.heap) ?_ (items.length + 1)
    ⟨0, l, Nat.zero_le _, rfl, hJ 0 l _ _ I rfl h0 (fun b o _ _ e => up b o e), o.push _, hn.keeps up, ⟨_, by rw [← hI]; exact Heap.get?_push_size _ rfl, rfl, rfl⟩, rfl, But.keep up⟩ (fun _ => rfl)
  rintro k s₁ ⟨i, l₁, hi, rfl, hj, o₁, hn₁, hit, hg, hb⟩
  have hl₁ : s₁.heap.IsList ax items.toArray := hl.at fun ob q => hb ax ob hax hW q
  by_cases hlt : i < items.length
  · obtain ⟨v, hv⟩ : ∃ v, items[i]? = some v := ⟨items[i], List.getElem?_eq_getElem hlt⟩
    refine wpAny_pyNext_list_item hit hl₁ (by simpa using hv) fun h₂ hit₂ hs₂ => ?_
    dsimp only
    have b₂ : ∀ b o, b ≠ I → s₁.heap.get? b = some o → h₂.get? b = some o := fun b o hb e => hs₂.extBut b o hb e
    refine wpAny_assign_Name (st (l := l₁) e (ns_at hn₁ fun o q => b₂ L o (Ne.symm hIL) q) (fun h₃ hn₃ hs₃ => ?_) hx)
    have b₃ : ∀ b o, b ≠ L → b ≠ I → s₁.heap.get? b = some o → h₃.get? b = some o := fun b o h1 h2 q => hs₃.extBut b o h1 (b₂ b o h2 q)
    have o₃ : Ok w s₀ { s₁ with heap := h₃, toks := s₁.toks + 1 } := (o₁.upd (t := s₁.toks) hs₂.extBut hI0).upd hs₃.extBut hL
    have bb : But L W s.heap h₃ := fun b ob h1 h2 q => b₃ b ob h1 (fun z => by have := Heap.lt_size q; rw [hI] at this; exact Nat.ne_of_lt this z) (hb b ob h1 h2 q)
    refine Mine.R.mono (turn i l₁ v _ hv (hJ i l₁ _ _ I rfl hj b₃) o₃ hn₃ hg bb) (fun f s₄ q => ?_) (fun _ _ z => z.elim)
    have go : (∃ l', s₄.heap.Ns L (mp l') ∧ J (i + 1) l' s₄.heap ∧ Ok w s₀ s₄ ∧ s₄.gens = s.gens ∧ But L W h₃ s₄.heap) → ∃ m, m < items.length + 1 - i ∧ ∃ i l', i ≤ items.length ∧ m = items.length + 1 - i ∧ J i l' s₄.heap ∧ Ok w s₀ s₄ ∧ s₄.heap.Ns L (mp l') ∧ s₄.heap.IsListIter I ax i ∧ s₄.gens = s.gens ∧ But L W s.heap s₄.heap := by
      rintro ⟨l', hn₄, hj₄, o₄, hg₄, b₄⟩
      refine ⟨items.length + 1 - (i + 1), by omega, i + 1, l', hlt, rfl, hj₄, o₄, hn₄, (hit₂.at fun ob z => hs₃.extBut I ob hIL z).at (fun ob z => b₄ I ob hIL hIW z), hg₄, bb.trans b₄⟩
    cases f with
    | next => exact go q
    | cont => exact go q
    | brk => exact q
    | ret v => exact q
  · obtain rfl : i = items.length := Nat.le_antisymm hi (Nat.not_lt.mp hlt)
    refine wpAny_pyNext_list_end hh hit hl₁ (by simp) fun h₂ hs₂ => ?_
    dsimp only
    refine wpAny_execs_nil ?_
    exact fin l₁ _ (hJ _ _ _ _ I rfl hj fun b o _ hb q => hs₂ b o hb q) (o₁.upd hs₂ hI0) (ns_at hn₁ fun o q => hs₂ L o (Ne.symm hIL) q) hg
      (fun b ob h1 h2 q => hs₂ b ob (fun z => by have := Heap.lt_size q; rw [hI] at this; exact Nat.ne_of_lt this z) (hb b ob h1 h2 q))
end

/-- into a def's body, on the path -/
theorem R.callIn {prog : Program} {w : World} {A : Around} {s : Shared} {E : Value → Shared → Prop} {Q : Value → Shared → Prop} {f : Addr} {args : List Value} {fd : FuncData} {body : List Stmt}
    {binds : List (Str × Value)} {oc : Value} {od : Option Addr} {osl : Array (Option Value)}
    (g : Gr w s.heap) (ho : (KK w).lookup f = some ⟨oc, od, .func fd, osl⟩) (hcd : codeIn (KK w) fd.code fd.qualname = true) (hroom : A.depth < recursionLimit)
    (hbody : fd.body = .stmts body) (hbind : BindsTo s fd ⟨args, []⟩ binds)
    (hcell : ∀ x ∈ fd.scope.names, x.2 ≠ .cell) (hloc : ∀ x ∈ binds, fd.scope.names.lookup x.1 = some .local) (hg : fd.globals = mainGlobals) (hb : fd.builtins = builtinsNs)
    (hco : fd.scope.isCoroutine = false) (hgen : fd.scope.isGenerator = false) (hk : fd.scope.kind = .function)
    (h : ∀ h₀ L env A', Ev env L fd.scope.names → In A A' → A'.frames = A.frames.map (env :: ·) → env.frame = some L → L = s.heap.objs.size → h₀.Ns L (mp binds.reverse) → (∀ b o, s.heap.get? b = some o → h₀.get? b = some o) → Gr w h₀ →
      wpR (model prog w) A' (PySem.execs body env) (fun fl s' => Q (match fl with | .ret v => v | _ => .none) s')
        (fun _ _ => False) { s with heap := h₀, toks := s.toks + binds.length }) :
    wpR (model prog w) A (PySem.call (.ref f) args) Q E s := by
  refine R.call (R.def (fd := fd) (body := body) (binds := binds) hroom (g.k _ _ ho) rfl g.lim (codeRec_of g.k hcd) hbody hbind hcell hloc (fun h₀ hn hk₀ => ?_) hco hgen hk)
  exact R.mono (h h₀ _ _ _ ⟨rfl, hg, hb, hk, fun _ => rfl⟩ ⟨rfl, rfl, rfl⟩ rfl rfl rfl hn hk₀ (g.keeps hk₀)) (fun fl s' q => q) (fun _ _ x => x.elim)
end Mine
end

section
namespace Mine
open PySem PySem.W PyProof.Rows PySem.Calls PySem.NumText
open Sem (wp)

/-- an item of a version's key -/
inductive Cel where
  | num (n : Int)
  | txt (x : Str)

inductive CelsAre : List Value → List Cel → Prop
  | nil : CelsAre [] []
  | num (n : Int) (t : Tok) {vs : List Value} {cs : List Cel} : CelsAre vs cs → CelsAre (.int n t :: vs) (.num n :: cs)
  | txt (x : Str) (t : Tok) {vs : List Value} {cs : List Cel} : CelsAre vs cs → CelsAre (.str x t :: vs) (.txt x :: cs)

theorem CelsAre.append : ∀ {vs : List Value} {cs : List Cel} {us : List Value} {ds : List Cel}, CelsAre vs cs → CelsAre us ds → CelsAre (vs ++ us) (cs ++ ds)
  | _, _, _, _, .nil, h => h
  | _, _, _, _, .num n t r, h => .num n t (r.append h)
  | _, _, _, _, .txt x t r, h => .txt x t (r.append h)
theorem CelsAre.length : ∀ {vs : List Value} {cs : List Cel}, CelsAre vs cs → vs.length = cs.length
  | _, _, .nil => rfl
  | _, _, .num _ _ r => congrArg (· + 1) r.length
  | _, _, .txt _ _ r => congrArg (· + 1) r.length

/-- does it lie in the separators' text -/
def occ (x : Str) : Bool := !(Builtin.Str.occurrences (Str.ofString "._+-") x 0 (Str.ofString "._+-").length 1).isEmpty

/-- a text that int refuses and that names no stage -/
structure Bad (x : Str) : Prop where
  len : (numSeenOf x).length ≤ 640
  inv : (int_private% "readNumeral") 0 10 (numSeenOf x) = int_private% "Numeral.invalid"
  rep : (reprText x).length ≤ sizeLine
  stage : ∀ y ∈ ["dev", "alpha", "a", "beta", "b", "c", "RC", "rc", "pl", "p"], x ≠ Str.ofString y

inductive Piece : List Nat → List Cel → Prop
  | skip {p : List Nat} : occ (txt p) = true → Piece p []
  | num {p : List Nat} : occ (txt p) = false → AllDigits p → p ≠ [] → p.length ≤ 640 → Piece p [.num 100, .num (digitsVal p)]
  | bad {p : List Nat} : occ (txt p) = false → Bad (txt p) → Piece p [.num 0, .txt (txt p)]

inductive Pieces : List (List Nat) → List Cel → Prop
  | nil : Pieces [] []
  | cons {p : List Nat} {c : List Cel} {r : List (List Nat)} {d : List Cel} : Piece p c → Pieces r d → Pieces (p :: r) (c ++ d)

theorem bads : ∀ x ∈ [[40], [41, 40], [41, 41, 40], [41], [41, 41], [41, 41, 41], [34, 40, 34], [92, 40]], occ (txt x) = false ∧ Bad (txt x) := by
  intro x hx
  simp only [List.mem_cons, List.not_mem_nil, or_false] at hx
  rcases hx with rfl | rfl | rfl | rfl | rfl | rfl | rfl | rfl <;>
  exact ⟨by decide +kernel, ⟨by decide +kernel, by kernel_rfl, by rw [sizeLine_eq]; decide +kernel, by decide +kernel⟩⟩

section
variable {prog : Program} {w : World} {A : Around} {E : Value → Shared → Prop} {s : Shared}
theorem fb_none {prog : Program} {w : World} {es : Array DictEntry} {x : Str} (h : ∀ e ∈ es, (PySem.strKind prog w).is x e.key = false) : findBy (PySem.strKind prog w).is es x = none := by
  unfold findBy
  rw [Option.map_eq_none_iff, Array.find?_eq_none]
  intro e he z
  exact Bool.false_ne_true ((h e he).symm.trans z)
theorem stage0 {x : Str} {t u : Tok} {Q : Value → Shared → Prop} (g : Gr w s.heap) (hb : Bad x) (h : ∀ tk, Q (.int 0 u) { s with toks := tk }) :
    wpAny (model prog w) A (call (.builtin "dict.get") [.ref 37, .str x t, .int 0 u]) Q E s := by
  have ho := g.k 37 _ rfl
  have hm : s.heap.MapOf (PySem.strKind prog w) 37 _ := ⟨_, _, _, ho, ⟨rfl, rfl, rfl⟩, rfl, by
    intro e he
    simp only [List.mem_toArray, List.mem_cons, List.not_mem_nil, or_false] at he
    rcases he with rfl | rfl | rfl | rfl | rfl | rfl | rfl | rfl | rfl | rfl <;> exact ⟨_, by first | exact decide_eq_true rfl | exact beq_self_eq_true _ | (simp [PySem.strKind, Value.isStrOf]; rfl), rfl⟩, fun _ => rfl⟩
  refine call_meetsIn F.slot_dict_get hm.typeIs F.entry_dict_get (F.args_dict_get_3 _ _ _) (meets_dict_get_default (PySem.strKind prog w) 37 (k := x) (by exact beq_self_eq_true x) (by decide +kernel) _) ⟨_, hm, ?_⟩
  have hno : ∀ y ∈ ["dev", "alpha", "a", "beta", "b", "c", "RC", "rc", "pl", "p"], (Str.ofString y == x) = false := fun y hy => by simpa using Ne.symm (hb.stage y hy)
  rw [fb_none]
  · exact h _
  · intro e he
    simp only [List.mem_toArray, List.mem_cons, List.not_mem_nil, or_false] at he
    rcases he with rfl | rfl | rfl | rfl | rfl | rfl | rfl | rfl | rfl | rfl <;> exact hno _ (by decide)
end
end Mine
end

section
namespace Mine
open PySem PySem.W PyProof.Rows PySem.Calls PySem.NumText
open Sem (wp)

theorem mapSeq_app (its its2 : Array Value) (n : Nat) : ∃ n', Obj.mapSeq (· ++ its2) { cls := .type "list", data := .seq its n } = { cls := .type "list", data := .seq (its ++ its2) n' } := ⟨_, rfl⟩

section
variable {prog : Program} {w : World} {A : Around} {E : Value → Shared → Prop} {s : Shared}

/-- r.extend((x, y)) -/
theorem extend2 {r b : Addr} {its its2 : Array Value} {Q : Value → Shared → Prop} (hr : s.heap.PlainList r its) (hb : s.heap.get? b = some { cls := .type "tuple", data := .seq its2 }) (hz : its.size ≤ 10000) (hz2 : its2.size ≤ 10000)
    (h : ∀ h', Heap.SameBut r s.heap h' → h'.PlainList r (its ++ its2) → Q .none { s with heap := h' }) :
    wpAny (model prog w) A (call (.builtin "list.extend") [.ref r, .ref b]) Q E s := by
  obtain ⟨n, hr⟩ := hr
  refine call_meets PySem.F.slot_list_extend ⟨_, hr, rfl⟩ PySem.F.entry_list_extend (PySem.F.args_list_extend_2 _ _) (PySem.AutoSeq1.list_extend_list_tuple_0 r its n b its2 0 ?_ ?_ ?_) ⟨hr, hb, h _ (Heap.SameBut.update ..) ?_⟩
  · unfold Builtin.List.listTooLong
    have : ¬ (its.size + its2.size > sizeLine) := by rw [sizeLine_eq]; omega
    simp [this]
  · rw [sizeLine_eq]; omega
  · rw [sizeLine_eq]; omega
  · obtain ⟨n', e⟩ := mapSeq_app its its2 n
    exact ⟨n', by rw [Heap.get?_update_self _ hr (by rw [e]; rfl), e]⟩

theorem ns_slots {h h' : Heap} {L : Addr} {m : Str → Option Value} {o : Obj} {sl : Array (Option Value)} (x : h.Ns L m) (ho : h.get? L = some o) (h2 : h'.get? L = some { o with slots := sl }) : h'.Ns L m := by
  obtain ⟨o', es, ep, e, hd, r⟩ := x
  rw [ho] at e
  cases e
  exact ⟨_, es, ep, h2, hd, r⟩

theorem piece_at : ∀ {ps : List (List Nat)} {cs : List Cel} {i : Nat} {p : List Nat}, Pieces (ps.drop i) cs → ps[i]? = some p → ∃ c d, Piece p c ∧ Pieces (ps.drop (i + 1)) d ∧ cs = c ++ d := by
  intro ps cs i p hp hi
  have hlt : i < ps.length := by
    rcases Nat.lt_or_ge i ps.length with h | h
    · exact h
    · rw [List.getElem?_eq_none h] at hi; cases hi
  rw [List.drop_eq_getElem_cons hlt] at hp
  rw [List.getElem?_eq_getElem hlt] at hi
  cases hi
  cases hp with
  | cons h1 h2 => exact ⟨_, _, h1, h2, rfl⟩

theorem strs_at : ∀ {vs : List Value} {xs : List Str} {i : Nat} {v : Value}, StrsAre vs xs → vs[i]? = some v → ∃ x t, v = .str x t ∧ xs[i]? = some x
  | _, _, i, _, .nil, h => by simp at h
  | _, _, 0, _, .cons x t _, h => by simp at h; exact ⟨x, t, h.symm, rfl⟩
  | _, _, i + 1, _, .cons x t r, h => by
    simp only [List.getElem?_cons_succ] at h ⊢
    exact strs_at r h


set_option maxHeartbeats 4000000 in
/-- _comparable_version of a text whose pieces are known -/
theorem cmpv {x : Str} {t : Tok} {cs : List Cel} {F : Addr} {oF : Obj} {envF : Env} {Q : Value → Shared → Prop} (gF : Gr w (rid s.heap F)) (g : Gr w s.heap) (hh : A.handled = none) (hroom : A.depth + 1 < recursionLimit)
    (hfr : A.frames = some [envF]) (hfF : envF.frame = some F) (hkF : envF.scope.kind ≠ .module) (hF : s.heap.get? F = some oF) (hFd : ∀ vs, oF.data ≠ .fields vs) (hz : x.cps.size ≤ 1000)
    (hp : Pieces (reSplit (x.cps.size + 1) x.cps.toList) cs)
    (hQ : ∀ s' r vs, Ok w { s with heap := rid s.heap F } s' → (∃ sl, s'.heap.get? F = some { oF with slots := sl }) → s.heap.get? r = none → s'.heap.PlainList r vs.toArray → CelsAre vs cs → s'.gens = s.gens → Q (.ref r) s') :
    wpR (model prog w) A (PySem.call (.ref 44) [.str x t]) Q E s := by
  refine R.callIn (binds := [(Str.ofString "version", .str x t)]) g rfl rfl (by omega) rfl (BindsTo.of_eq rfl) (by decide) (locs rfl) rfl rfl rfl rfl rfl (fun h₀ L env A' e hA hAf hEf hL hn hk g₀ => ?_)
  have hL0 : s.heap.get? L = none := hL ▸ get_size _
  have hLF : L ≠ F := fun z => by rw [z, hF] at hL0; cases hL0
  have hL1 : (rid s.heap F).get? L = none := (rid_other hLF).trans hL0
  have hF1 : (rid s.heap F).get? F = none := rid_self _ _
  have hfr' : A'.frames = some [env, envF] := by rw [hAf, hfr]; rfl
  have hh' : A'.handled = none := hA.handled.trans hh
  generalize hS : ({ s with heap := rid s.heap F } : Shared) = S at hQ
  have hSh : S.heap = rid s.heap F := by rw [← hS]
  have oS : Ok w S { s with heap := h₀ } := by
    subst hS
    exact (Ok.refl (s := { s with heap := rid s.heap F }) gF).keep (fun b o q => hk b o (rid_in q).2)
  refine R.next (wpAny_Assign_Name (ldg (v := .ref 36) e g₀ rfl (st e hn fun h₁ hn₁ hs₁ => ?_)))
  dsimp only at hs₁ ⊢
  refine R.next (wpAny_Assign_Name (wpAny_List (wpAny_items_nil ⟨by decide, st e (hn₁.push _) fun h₂ hn₂ hs₂ => ?_⟩)))
  dsimp only at hs₂ hn₂ ⊢
  have hLl : L < h₁.objs.size := hn₁.lt
  have hr₂ : h₂.get? h₁.objs.size = some { cls := .type "list", data := .seq #[] } := hs₂.extBut _ _ (Nat.ne_of_gt hLl) (Heap.get?_push_size _ rfl)
  generalize hR : h₁.objs.size = r at *
  have o₁ : Ok w S { s with heap := h₁ } := oS.upd hs₁.extBut (hSh ▸ hL1)
  have o₂ : Ok w S { s with heap := h₂ } := (o₁.push (t := s.toks) _).upd hs₂.extBut (hSh ▸ hL1)
  have hr0 : S.heap.get? r = none := hR ▸ o₁.fresh
  have hrL : r ≠ L := Nat.ne_of_gt hLl
  have hF₂ : h₂.get? F = some oF := hs₂.extBut F _ (Ne.symm hLF) (Heap.get?_push_of_some _ (hs₁.extBut F _ (Ne.symm hLF) (hk F _ hF)))
  have hrF : r ≠ F := fun z => by
    have : h₁.get? F = some oF := hs₁.extBut F _ (Ne.symm hLF) (hk F _ hF)
    have := Heap.lt_size this
    rw [hR, z] at this; exact Nat.lt_irrefl _ this
  refine R.execs (R.For ?_)
  with_reducible refine meth1 ?h1 ?h2 ?h3 pa_re slot_re_split type_re_split ?_
  case h1 => rfl
  case h2 => rfl
  case h3 => rfl
  refine ld e hn₂ rfl ⟨⟨_, o₂.gr.k 36 _ rfl, rfl⟩, fun a ha => ⟨_, (by cases ha; exact o₂.gr.k 36 _ rfl), rfl⟩, ld e hn₂ rfl (split_wp o₂.gr hz fun vs tk hvs hvl => ?_)⟩
  dsimp only
  generalize hps : reSplit (x.cps.size + 1) x.cps.toList = ps at *
  have hlen : vs.length = ps.length := by rw [strs_len hvs, List.length_map]
  have hcl : ∀ {p c}, Piece p c → c.length ≤ 2 := fun h => by cases h <;> simp
  have hcs : ∀ {ps : List (List Nat)} {cs : List Cel}, Pieces ps cs → cs.length ≤ 2 * ps.length := by
    intro ps cs h
    induction h with
    | nil => simp
    | cons h1 _ ih => have := hcl h1; simp; omega
  have hcl2 := hcs hp
  have hcl3 : cs.length ≤ 8192 := by omega
  have hVl : h₂.objs.size < (h₂.push { cls := .type "list", data := .seq vs.toArray }).objs.size := by rw [Heap.size_push]; exact Nat.lt_succ_self _
  have up : ∀ b o, h₂.get? b = some o → (h₂.push { cls := .type "list", data := .seq vs.toArray }).get? b = some o := fun b o q => Heap.get?_push_of_some _ q
  have hrl : r < h₂.objs.size := Heap.lt_size hr₂
  have hFl : F < h₂.objs.size := Heap.lt_size hF₂
  have hLl₂ : L < h₂.objs.size := hn₂.lt
  refine R.forList (s₀ := S) [r, F] (fun i l h => l.lookup (Str.ofString "result") = some (.ref r) ∧ (∃ sl, h.get? F = some { oF with slots := sl }) ∧ ∃ us c d, h.PlainList r us.toArray ∧ CelsAre us c ∧ Pieces (ps.drop i) d ∧ c ++ d = cs)
    e hh' rfl (ax := h₂.objs.size) (items := vs) ⟨_, Heap.get?_push_size _ rfl, rfl, _, rfl⟩ (Nat.ne_of_gt hLl₂) ?_ ?_ (o₂.push (t := tk) _) (hSh ▸ hL1) (hn₂.push _)
    ⟨rfl, ⟨oF.slots, up F _ hF₂⟩, [], [], cs, ⟨0, up r _ hr₂⟩, .nil, hp, rfl⟩ ?_ ?_ ?_
  · intro hm
    simp only [List.mem_cons, List.not_mem_nil, or_false] at hm
    rcases hm with hm | hm
    · rw [hm] at hrl; exact Nat.lt_irrefl _ hrl
    · rw [hm] at hFl; exact Nat.lt_irrefl _ hFl
  · intro a ha
    simp only [List.mem_cons, List.not_mem_nil, or_false] at ha
    rcases ha with rfl | rfl
    · exact Nat.lt_trans hrl hVl
    · exact Nat.lt_trans hFl hVl
  · rintro i l h h' It hIt ⟨h1, ⟨sl, h2⟩, us, c, d, h3, h4⟩ hkp
    have hne : ∀ b, b < h₂.objs.size → b ≠ It := fun b hb => by
      rw [← hIt]
      exact Nat.ne_of_lt (Nat.lt_trans hb hVl)
    exact ⟨h1, ⟨sl, hkp F _ (Ne.symm hLF) (hne F hFl) h2⟩, us, c, d, h3.at fun o q => hkp r o hrL (hne r hrl) q, h4⟩
  · rintro i l v s₁ hv ⟨hl1, ⟨sl, hF₃⟩, us, c, d, hr₃, huc, hpd, hcd⟩ oo hn₃ hg hb
    obtain ⟨y, ty, rfl, hy⟩ := strs_at hvs hv
    rw [List.getElem?_map] at hy
    obtain ⟨p, hpi, rfl⟩ := Option.map_eq_some_iff.mp hy
    obtain ⟨c₁, d₁, hpc, hpd₁, hdd⟩ := piece_at hpd hpi
    refine R.execs (R.If (R.of (wpAny_isTrue_Compare1 (ld e hn₃ rfl (wpAny_Constant_str (P.notIn_str (wpAny_truthy_bool ?_)))))))
    show if (!occ (txt p)) = true then _ else _
    -- the statement behind the try
    have tail : ∀ (s₂ : Shared) (l₂ : List (Str × Value)) (tv vv : Value), s₂.heap.Ns L (mp l₂) → l₂.lookup (Str.ofString "result") = some (.ref r) → l₂.lookup (Str.ofString "t") = some tv → l₂.lookup (Str.ofString "v") = some vv →
        CelsAre [tv, vv] c₁ → (∃ sl, s₂.heap.get? F = some { oF with slots := sl }) → s₂.heap.PlainList r us.toArray → Ok w S s₂ → s₂.gens = s.gens → But L [r, F] s₁.heap s₂.heap →
        wpR (model prog w) A' (PySem.execs [Stmt.Expr (Expr.Call (Expr.Attribute (Expr.Name (Str.ofString "result") ⟨15, 12, 15, 18⟩) (Str.ofString "extend") ⟨15, 12, 15, 25⟩) [Expr.Tuple [Expr.Name (Str.ofString "t") ⟨15, 27, 15, 28⟩, Expr.Name (Str.ofString "v") ⟨15, 30, 15, 31⟩] 0 ⟨15, 26, 15, 32⟩] [] ⟨15, 12, 15, 33⟩) ⟨15, 12, 15, 33⟩] env)
          (fun f s₃ => f = .next ∧ ∃ l', s₃.heap.Ns L (mp l') ∧ (l'.lookup (Str.ofString "result") = some (.ref r) ∧ (∃ sl, s₃.heap.get? F = some { oF with slots := sl }) ∧ ∃ us c d, s₃.heap.PlainList r us.toArray ∧ CelsAre us c ∧ Pieces (ps.drop (i + 1)) d ∧ c ++ d = cs) ∧ Ok w S s₃ ∧ s₃.gens = s.gens ∧ But L [r, F] s₁.heap s₃.heap)
          (fun _ _ => False) s₂ := by
      intro s₂ l₂ tv vv hn₄ hl2 htv hvv hcv ⟨sl₂, hF₄⟩ hr₄ oo₂ hg₂ hb₂
      refine R.of (wpAny_execs_cons (wpAny_Expr_any (meth1 rfl rfl rfl PySem.F.plainAttrs_list PySem.F.slot_list_extend PySem.F.type_list_extend (ld e hn₄ hl2 ⟨hr₄.isList.typeIs, fun a ha => ?_, ?_⟩)) e.inter rfl))
      · cases ha
        obtain ⟨n, q⟩ := hr₄
        exact ⟨_, q, rfl⟩
      · refine wpAny_Tuple (wpAny_items_cons (ld e hn₄ htv (wpAny_items_cons (ld e hn₄ hvv (wpAny_items_nil ⟨by rw [sizeLine_eq]; show 2 ≤ 16777216; decide, ?_⟩)))))
        refine extend2 (hr₄.at fun o q => Heap.get?_push_of_some _ q) (Heap.get?_push_size _ rfl) ?_ (by show 2 ≤ 10000; decide) fun h₅ hs₅ hr₅ => ?_
        · have h1 := huc.length
          have h2 : c.length ≤ cs.length := by rw [← hcd]; simp
          rw [List.size_toArray]
          have h3 : c.length + d.length = cs.length := by rw [← hcd]; simp
          omega
        · refine wpAny_execs_nil ⟨rfl, l₂, ns_at (hn₄.push _) fun o q => hs₅.extBut L o (Ne.symm hrL) q, ⟨hl2, ⟨sl₂, hs₅.extBut F _ (Ne.symm hrF) (Heap.get?_push_of_some _ hF₄)⟩, us ++ [tv, vv], c ++ c₁, d₁, ?_, huc.append hcv, hpd₁, ?_⟩,
            oo₂.heap fun b o hb q => hs₅.extBut b o (fun z => hb (z ▸ hr0)) (Heap.get?_push_of_some _ q), hg₂, fun b o h1 h2 q => hs₅.extBut b o (fun z => h2 (by rw [z]; exact .head _)) (Heap.get?_push_of_some _ (hb₂ b o h1 h2 q))⟩
          · rw [← List.toArray_appendList] at *
            simpa using hr₅
          · rw [List.append_assoc, ← hdd, hcd]
    cases hpc with
    | skip ho =>
      rw [ho, if_neg (by decide)]
      refine R.of (wpAny_execs_nil (R.of (wpAny_execs_nil ?_)))
      exact ⟨_, hn₃, ⟨hl1, ⟨sl, hF₃⟩, us, c, d₁, hr₃, huc, hpd₁, by rw [← hcd, hdd]; rfl⟩, oo.tok, hg, But.refl⟩
    | num ho hd hne hl =>
      rw [ho, if_pos (by decide)]
      refine R.execs (R.Try (R.execs (R.Assign (R.callT2 e oo.gr rfl rfl rfl rfl (by decide) (by decide) (ld e hn₃ rfl (wpAny_Constant_int (R.of (int_read (n := (digitsVal p : Int)) ?_ ?_ ?_))))))))
      · show p.toArray.size ≤ 640
        simpa using hl
      · exact intText_digits (x := txt p) hd hne (by show p.toArray.size ≤ 4300; simp; omega)
      refine st e hn₃ fun h₄ hn₄ hs₄ => ?_
      refine R.next (wpAny_Assign_Name (wpAny_Constant_int (st e hn₄ fun h₅ hn₅ hs₅ => ?_)))
      refine R.of (wpAny_execs_nil (wpAny_execs_nil ?_))
      have kk : ∀ b o, b ≠ L → s₁.heap.get? b = some o → h₅.get? b = some o := fun b o hb q => hs₅.extBut b o hb (hs₄.extBut b o hb q)
      refine R.mono (tail _ _ _ _ hn₅ hl1 rfl rfl (.num 100 _ (.num _ _ .nil)) ⟨sl, kk F _ (Ne.symm hLF) hF₃⟩ (hr₃.at fun o q => kk r o hrL q) ((oo.upd (t := s₁.toks) hs₄.extBut (hSh ▸ hL1)).upd hs₅.extBut (hSh ▸ hL1)) hg
        (fun b o h1 _ q => kk b o h1 q)) (fun f s₃ q => ?_) (fun _ _ z => z)
      obtain ⟨rfl, q⟩ := q
      exact R.of (wpAny_execs_nil q)
    | bad ho hb' =>
      rw [ho, if_pos (by decide)]
      refine R.execs (R.Try (R.execs (R.Assign (R.callT2 e oo.gr rfl rfl rfl rfl (by decide) (by decide) (ld e hn₃ rfl (wpAny_Constant_int (int_refused hb'.len hb'.inv hh' hb'.rep fun h₄ ex tk₄ hx => ?_)))))))
      obtain ⟨oL, es, ep, hoL, hLd, hLr⟩ := id hn₃
      refine caught (oL := oL) (oF := { oF with slots := sl }) e hfr' hEf hfF hkF hLF hoL (fun vs z => by rw [hLd] at z; cases z) hF₃ hFd hx ?_ rfl fun h₅ hk₅ hL₅ hF₅ => ?_
      · refine oo.g₀.on oo.gr fun b o hb q => ?_
        have hbF : b ≠ F := fun z => hb (by rw [z, hSh]; exact hF1)
        have hbL : b ≠ L := fun z => hb (by rw [z, hSh]; exact hL1)
        exact (rid_other hbF).trans ((rid_other hbL).trans q)
      · obtain ⟨sL, hL₅⟩ := hL₅
        obtain ⟨sF, hF₅⟩ := hF₅
        have hn₅ : h₅.Ns L (mp _) := ns_slots hn₃ hoL hL₅
        have oo₅ : Ok w S { s₁ with heap := h₅, toks := tk₄ } := oo.heap fun b o hb q => hk₅ b o (fun z => hb (by rw [z, hSh]; exact hL1)) (fun z => hb (by rw [z, hSh]; exact hF1)) q
        refine wpAny_execs_cons (wpAny_Assign_Name ?_)
        with_reducible refine meth2 ?h1 ?h2 ?h3 PySem.F.plainAttrs_dict PySem.F.slot_dict_get PySem.F.type_dict_get ?_
        case h1 => rfl
        case h2 => rfl
        case h3 => rfl
        refine ldg (v := .ref 37) e oo₅.gr rfl ⟨⟨_, oo₅.gr.k 37 _ rfl, rfl⟩, fun a ha => ⟨_, (by cases ha; exact oo₅.gr.k 37 _ rfl), rfl⟩, ld e hn₅ rfl (wpAny_Constant_int (stage0 oo₅.gr hb' fun tk₆ => st e hn₅ fun h₆ hn₆ hs₆ => ?_))⟩
        refine wpAny_execs_nil ?_
        refine R.mono (tail _ _ _ _ hn₆ hl1 rfl rfl (.num 0 _ (.txt _ _ .nil)) ⟨sF, hs₆.extBut F _ (Ne.symm hLF) hF₅⟩ (hr₃.at fun o q => hs₆.extBut r o hrL (hk₅ r o hrL hrF q)) (oo₅.upd hs₆.extBut (hSh ▸ hL1)) hg
          (fun b o h1 h2 q => hs₆.extBut b o h1 (hk₅ b o h1 (fun z => h2 (by rw [z]; simp)) q))) (fun f s₃ q => ?_) (fun _ _ z => z)
        obtain ⟨rfl, q⟩ := q
        exact R.of (wpAny_execs_nil q)
  · rintro l' s' ⟨hl1, hF₃, us, c, d, hr₃, huc, hpd, hcd⟩ oo hn₃ hg hb
    rw [hlen, List.drop_length] at hpd
    cases hpd
    rw [List.append_nil] at hcd
    subst hcd
    refine R.of (wpAny_execs_cons (wpAny_Return_some (ld e hn₃ hl1 ?_)))
    refine hQ _ r us oo hF₃ ?_ hr₃ huc hg
    rw [← rid_other hrF, ← hSh]; exact hr0
end
end Mine
end

section
namespace Mine
open PySem PySem.W PyProof.Rows PySem.Calls
open Sem (wp)

/-! what a value is: flags, numbers, texts, lists of such -/
mutual
inductive Rd (h : Heap) : Value → PyData → List Addr → Prop
  | bool (b) : Rd h (.bool b) (.bool b) []
  | int (i t) : Rd h (.int i t) (.int i) []
  | str (x t) : Rd h (.str x t) (.str x) []
  | list {a vs xs as} : h.PlainList a vs.toArray → RdAll h vs xs as → Rd h (.ref a) (.list xs) (a :: as)
inductive RdAll (h : Heap) : List Value → List PyData → List Addr → Prop
  | nil : RdAll h [] [] []
  | cons {v vs d ds as bs} : Rd h v d as → RdAll h vs ds bs → RdAll h (v :: vs) (d :: ds) (as ++ bs)
end

mutual
theorem Rd.keep {h h' : Heap} : ∀ {v : Value} {d : PyData} {as : List Addr}, Rd h v d as → (∀ a ∈ as, ∀ o, h.get? a = some o → h'.get? a = some o) → Rd h' v d as
  | _, _, _, .bool b, _ => .bool b
  | _, _, _, .int i t, _ => .int i t
  | _, _, _, .str x t, _ => .str x t
  | _, _, _, .list hl r, hk => .list (hl.at fun o q => hk _ (List.mem_cons_self ..) o q) (RdAll.keep r fun a ha => hk a (List.mem_cons_of_mem _ ha))
theorem RdAll.keep {h h' : Heap} : ∀ {vs : List Value} {ds : List PyData} {as : List Addr}, RdAll h vs ds as → (∀ a ∈ as, ∀ o, h.get? a = some o → h'.get? a = some o) → RdAll h' vs ds as
  | _, _, _, .nil, _ => .nil
  | _, _, _, .cons x r, hk => .cons (Rd.keep x fun a ha => hk a (List.mem_append_left _ ha)) (RdAll.keep r fun a ha => hk a (List.mem_append_right _ ha))
end
mutual
theorem Rd.reads {h : Heap} : ∀ {v : Value} {d : PyData} {as : List Addr}, Rd h v d as → Reads h v d as
  | _, _, _, .bool b => .bool b
  | _, _, _, .int i t => .int i t
  | _, _, _, .str x t => .str x t
  | _, _, _, .list ⟨_, e⟩ r => .list e rfl rfl (RdAll.reads r)
theorem RdAll.reads {h : Heap} : ∀ {vs : List Value} {ds : List PyData} {as : List Addr}, RdAll h vs ds as → ReadsAll h vs ds as
  | _, _, _, .nil => .nil
  | _, _, _, .cons x r => .cons (Rd.reads x) (RdAll.reads r)
end
theorem RdAll.snoc {h : Heap} : ∀ {vs : List Value} {ds : List PyData} {as : List Addr} {v : Value} {d : PyData} {bs : List Addr}, RdAll h vs ds as → Rd h v d bs → RdAll h (vs ++ [v]) (ds ++ [d]) (as ++ bs)
  | _, _, _, _, _, bs, .nil, y => by
    have := RdAll.cons y (.nil (h := h))
    simpa using this
  | _, _, _, _, _, _, .cons x r, y => by
    have := RdAll.cons x (RdAll.snoc r y)
    simpa using this
mutual
theorem Rd.lives {h : Heap} : ∀ {v : Value} {d : PyData} {as : List Addr}, Rd h v d as → ∀ a ∈ as, h.get? a ≠ none
  | _, _, _, .bool _, a, ha => by simp at ha
  | _, _, _, .int _ _, a, ha => by simp at ha
  | _, _, _, .str _ _, a, ha => by simp at ha
  | _, _, _, .list ⟨n, e⟩ r, a, ha => by
    rcases List.mem_cons.mp ha with rfl | ha
    · rw [e]; simp
    · exact RdAll.lives r a ha
theorem RdAll.lives {h : Heap} : ∀ {vs : List Value} {ds : List PyData} {as : List Addr}, RdAll h vs ds as → ∀ a ∈ as, h.get? a ≠ none
  | _, _, _, .nil, a, ha => by simp at ha
  | _, _, _, .cons x r, a, ha => by
    rcases List.mem_append.mp ha with ha | ha
    · exact Rd.lives x a ha
    · exact RdAll.lives r a ha
end
theorem RdAll.length {h : Heap} : ∀ {vs : List Value} {ds : List PyData} {as : List Addr}, RdAll h vs ds as → vs.length = ds.length
  | _, _, _, .nil => rfl
  | _, _, _, .cons _ r => congrArg (· + 1) (RdAll.length r)
theorem RdAll.at {h : Heap} : ∀ {vs : List Value} {ds : List PyData} {as : List Addr}, RdAll h vs ds as → ∀ {i : Nat} {d : PyData}, ds[i]? = some d → ∃ v bs, vs[i]? = some v ∧ Rd h v d bs ∧ ∀ b ∈ bs, b ∈ as
  | _, _, _, .nil, i, d, hd => by simp at hd
  | _, _, _, .cons x r, 0, d, hd => by
    simp at hd; subst hd
    exact ⟨_, _, rfl, x, fun b hb => List.mem_append_left _ hb⟩
  | _, _, _, .cons x r, i + 1, d, hd => by
    obtain ⟨v, bs, h1, h2, h3⟩ := RdAll.at r (i := i) (by simpa using hd)
    exact ⟨v, bs, by simpa using h1, h2, fun b hb => List.mem_append_right _ (h3 b hb)⟩

/-- known, off the things that turn -/
def Kn (X : List Addr) (h : Heap) (v : Value) (d : PyData) : Prop := ∃ as, Rd h v d as ∧ ∀ a ∈ as, a ∉ X
theorem Kn.keep {X : List Addr} {h h' : Heap} {v : Value} {d : PyData} (k : Kn X h v d) (hk : ∀ b o, b ∉ X → h.get? b = some o → h'.get? b = some o) : Kn X h' v d :=
  let ⟨as, r, ha⟩ := k; ⟨as, r.keep fun a hm o q => hk a o (ha a hm) q, ha⟩

/-- what a step in the law's frame F may do -/
structure Lt (w : World) (F : Addr) (s s' : Shared) : Prop where
  ext : ∀ b o, b ≠ 46 → b ≠ F → s.heap.get? b = some o → s'.heap.get? b = some o
  fr : ∀ o, s.heap.get? F = some o → ∃ sl, s'.heap.get? F = some { o with slots := sl }
  g₀ : Gr w (rid s.heap F)
  gr : Gr w (rid s'.heap F)
  os : s'.os = s.os
  bare : AllBare s.gens → AllBare s'.gens

section
variable {w : World} {F : Addr} {s s' s'' : Shared}
theorem Lt.refl (g : Gr w (rid s.heap F)) : Lt w F s s := ⟨fun _ _ _ _ e => e, fun o e => ⟨o.slots, e⟩, g, g, rfl, id⟩
theorem Lt.trans (x : Lt w F s s') (y : Lt w F s' s'') : Lt w F s s'' :=
  ⟨fun b o h1 h2 e => y.ext b o h1 h2 (x.ext b o h1 h2 e), fun o e => let ⟨sl, e1⟩ := x.fr o e; let ⟨sl', e2⟩ := y.fr _ e1; ⟨sl', e2⟩, x.g₀, y.gr, y.os.trans x.os, fun b => y.bare (x.bare b)⟩
theorem rid_keeps {h h' : Heap} {b : Addr} {o : Obj} (e : (rid h F).get? b = some o) (hk : h'.get? b = some o) : (rid h' F).get? b = some o := (rid_other (rid_in e).1).trans hk
theorem Gr.unrid {h : Heap} (g : Gr w (rid h F)) : Gr w h := g.keeps fun b o e => (rid_in e).2
theorem Gr.rid_on {h h' : Heap} (g : Gr w (rid h F)) (g' : Gr w h') : Gr w (rid h' F) :=
  g.on g' fun b o hb e => (rid_other (fun z => hb (by rw [z]; exact rid_self _ _))).trans e
theorem Lt.of_ok (o : Ok w s s') (g : Gr w (rid s.heap F)) (hF : F ≠ 46) : Lt w F s s' :=
  ⟨fun b ob h1 _ e => o.ext b ob h1 e, fun ob e => ⟨ob.slots, o.ext F ob hF e⟩, g, g.rid_on o.gr, o.os, o.bare⟩
/-- nothing but new things -/
theorem Lt.up {h' : Heap} {t : Nat} (g : Gr w (rid s.heap F)) (hk : ∀ b o, s.heap.get? b = some o → h'.get? b = some o) : Lt w F s { s with heap := h', toks := t } :=
  ⟨fun b o _ _ e => hk b o e, fun o e => ⟨o.slots, hk F o e⟩, g, g.keeps fun b o e => rid_keeps e (hk b o (rid_in e).2), rfl, id⟩
/-- a thing that was not there turns -/
theorem Lt.set {h' : Heap} {t : Nat} (x : Lt w F s s') (hk : ∀ b o, s.heap.get? b ≠ none → s'.heap.get? b = some o → h'.get? b = some o) (hF : s.heap.get? F ≠ none) : Lt w F s { s' with heap := h', toks := t } where
  ext := fun b o h1 h2 e => hk b o (by rw [e]; simp) (x.ext b o h1 h2 e)
  fr := fun o e => let ⟨sl, e1⟩ := x.fr o e; ⟨sl, hk F _ hF e1⟩
  g₀ := x.g₀
  gr := x.g₀.on x.gr fun b o hb e => by
    have h1 : s.heap.get? b ≠ none := fun z => hb (by
      by_cases q : b = F
      · rw [q]; exact rid_self _ _
      · rw [rid_other q]; exact z)
    exact rid_keeps e (hk b o h1 (rid_in e).2)
  os := x.os
  bare := x.bare
theorem Lt.ns {l : List (Str × Value)} (x : Lt w F s s') (hn : s.heap.Ns F (mp l)) : s'.heap.Ns F (mp l) := by
  obtain ⟨o, es, ep, e, hd, r⟩ := id hn
  obtain ⟨sl, e'⟩ := x.fr o e
  exact ns_slots hn e e'
theorem Lt.ns_at {L : Addr} {m : Str → Option Value} (x : Lt w F s s') (h1 : L ≠ 46) (h2 : L ≠ F) (hn : s.heap.Ns L m) : s'.heap.Ns L m := Mine.ns_at hn fun o q => x.ext L o h1 h2 q
theorem Lt.gone {a : Addr} (x : Lt w F s s') (h : s'.heap.get? a = none) : s.heap.get? a = none := by
  cases e : s.heap.get? a with
  | none => rfl
  | some o =>
    by_cases h46 : a = 46
    · subst h46
      obtain ⟨_, _, ⟨_, t⟩, _⟩ := x.gr.unrid.tab
      rw [h] at t; cases t
    · by_cases hF : a = F
      · subst hF
        obtain ⟨sl, e1⟩ := x.fr o e
        rw [h] at e1; cases e1
      · have := x.ext a o h46 hF e
        rw [h] at this; cases this
theorem Lt.kn {X : List Addr} {v : Value} {d : PyData} (x : Lt w F s s') (h1 : 46 ∈ X) (h2 : F ∈ X) (k : Kn X s.heap v d) : Kn X s'.heap v d :=
  k.keep fun b o hb e => x.ext b o (fun z => hb (z ▸ h1)) (fun z => hb (z ▸ h2)) e
end
end Mine
end

section
namespace Mine
open PySem PySem.W PyProof.Rows PySem.Calls
open Sem (wp)

/-- where a loop's items come from -/
def Src (prog : Program) (w : World) (A : Around) (target : PySem.Expr) (F : Addr) (s s₂ : Shared) (I : Addr) (n : Nat) (P : Nat → Value → Heap → Prop) : Prop :=
  ∃ (fp wr : List Addr) (Md : Nat → Value → Heap → Prop) (St : Nat → Heap → Prop), KTurns prog w A target I fp wr n P Md St ∧ St 0 s₂.heap ∧ (∀ b ∈ wr, s.heap.get? b = none) ∧ (∀ i h, St i h → ∀ b ∈ fp, h.get? b ≠ none) ∧
    (∀ b ∈ fp, b ≠ F ∧ b ≠ 46) ∧ (∀ (s' : Shared) (Q : Value → Shared → Prop), St 0 s'.heap → Q (.ref I) s' → wpAny (model prog w) A (pyIter (.ref I)) Q (fun _ _ => False) s')

section
variable {prog : Program} {w : World} {A : Around} {E : Value → Shared → Prop} {s s₂ : Shared} {env : Env} {F : Addr}

set_option maxHeartbeats 1000000 in
theorem R.compCore {elt target iter : PySem.Expr} {ifs : List PySem.Expr} {scope : Scope} {cl : List (Str × Addr)} {pos : Pos} {I : Addr} {n : Nat} {P : Nat → Value → Heap → Prop} {f : Nat → Option PyData} {RR : Value → Addr → Result → Shared → Prop}
    (hsrc : Src prog w A target F s s₂ I n P) (lt₂ : Lt w F s s₂) (hF0 : s.heap.get? F ≠ none) (hF46 : F ≠ 46) (hn : n ≤ 1000)
    (hcell : ∀ y ∈ scope.names, y.2 ≠ .cell) (hkind : scope.kind = .function)
    (B : Nat → List (Str × Value) → Prop)
    (hasg : ∀ C i v s₃ l, i < n → P i v s₃.heap → s₃.heap.Ns C (mp l) → wpAny (model prog w) A (assign target (compEnvC scope cl C env) v) (fun _ s₄ => (∀ b o, b ≠ C → s₃.heap.get? b = some o → s₄.heap.get? b = some o) ∧ s₄.gens = s₃.gens ∧ s₄.os = s₃.os ∧
      ∃ l', s₄.heap.Ns C (mp l') ∧ B i l') (fun _ _ => False) s₃)
    (turn : ∀ C i s₄ l, i < n → s.heap.get? C = none → Lt w F s s₄ → s₄.heap.Ns C (mp l) → B i l → wpR (model prog w) A (testsOf ifs (compEnvC scope cl C env)) (fun ok s₅ => ok = (f i).isSome ∧ Lt w F s₄ s₅ ∧
      ∀ d, f i = some d → wpR (model prog w) A (eval elt (compEnvC scope cl C env)) (fun y s₆ => Lt w F s₅ s₆ ∧ ∃ as, Rd s₆.heap y d as ∧ ∀ a ∈ as, s₅.heap.get? a = none) (fun _ _ => False) s₅) (fun _ _ => False) s₄)
    (hRR : ∀ D C s' ys as m, Lt w F s s' → s.heap.get? D = none → s.heap.get? C = none → D ≠ C → s'.heap.Ns C m → s'.heap.PlainList D ys.toArray → RdAll s'.heap ys ((List.range n).filterMap f) as →
      (∀ a ∈ as, s.heap.get? a = none ∧ a ≠ D ∧ a ≠ C) → RR (.ref D) C (.ok .next) s') :
    wpAny (model prog w) A (newList []) (fun acc s₃ => wpAny (model prog w) A (newFunctionEnv scope env.globals cl [] env.qual none .none (some env)) (fun cenv s₄ =>
      codeR (model prog w) A (.compStart (.ListComp elt [⟨target, iter, ifs, 0⟩] scope pos) 0 (.ref I) acc { cenv with scope := relabel scope env }) (RR acc cenv.locals) s₄) E s₃) E s₂ := by
  obtain ⟨fp, wr, Md, St, W, hst, hwr, hlive, hfp, hself⟩ := hsrc
  refine wpAny_newObj_type (wpAny_newFunctionEnv hcell (by intro y hy; simp at hy) (fun h₁ hns₁ hsb₁ => ?_) hkind)
  dsimp only at hns₁ hsb₁ ⊢
  have hH2s : (s₂.heap.push { cls := .type "list", dict := none, data := .seq ([] : List Value).toArray }).objs.size = s₂.heap.objs.size + 1 := Heap.size_push ..
  generalize hH2 : s₂.heap.push { cls := .type "list", dict := none, data := .seq ([] : List Value).toArray } = H2 at hns₁ hsb₁ hH2s ⊢
  rw [hH2s] at hns₁ hsb₁ ⊢
  generalize hD : s₂.heap.objs.size = D at *
  have hDC : D ≠ D + 1 := Nat.ne_of_lt (Nat.lt_succ_self _)
  have old : ∀ b o, s₂.heap.get? b = some o → h₁.get? b = some o := fun b o e => hsb₁.extBut b o (Nat.ne_of_lt (Nat.lt_succ_of_lt (hD ▸ Heap.lt_size e))) (by
    refine Heap.get?_push_of_some _ ?_
    rw [← hH2]; exact Heap.get?_push_of_some _ e)
  have hacc : h₁.PlainList D #[] := ⟨_, hsb₁.extBut _ _ hDC (Heap.get?_push_of_some _ (by rw [← hH2, ← hD]; exact Heap.get?_push_size _ rfl))⟩
  have goneD : ∀ b, D ≤ b → s₂.heap.get? b = none := fun b hb => by
    cases q : s₂.heap.get? b with
    | none => rfl
    | some ob => exact absurd (Nat.lt_of_lt_of_le (hD ▸ Heap.lt_size q) hb) (Nat.lt_irrefl _)
  have hD0 : s.heap.get? D = none := lt₂.gone (goneD D (Nat.le_refl _))
  have hC0 : s.heap.get? (D + 1) = none := lt₂.gone (goneD (D + 1) (Nat.le_succ _))
  have hfl : ∀ b ∈ fp, s₂.heap.get? b ≠ none := fun b hb => hlive 0 _ hst b hb
  have hDf : D ∉ fp := fun hm => hfl D hm (goneD D (Nat.le_refl _))
  have hCf : D + 1 ∉ fp := fun hm => hfl (D + 1) hm (goneD (D + 1) (Nat.le_succ _))
  have hFD : F ≠ D := fun z => hF0 (z ▸ hD0)
  have hFC : F ≠ D + 1 := fun z => hF0 (z ▸ hC0)
  have h46 : s.heap.get? 46 ≠ none := by
    obtain ⟨_, _, ⟨_, t⟩, _⟩ := lt₂.g₀.unrid.tab
    rw [t]; simp
  have hD46 : D ≠ 46 := fun z => h46 (z ▸ hD0)
  have hC46 : D + 1 ≠ 46 := fun z => h46 (z ▸ hC0)
  have lt₁ : Lt w F s { s₂ with heap := h₁, toks := s₂.toks + ([] : List (Str × Value)).length } := lt₂.set (fun b o _ e => old b o e) hF0
  refine R.startComp (g := ⟨target, iter, ifs, 0⟩) rfl rfl (fun Q hq => hself _ Q (W.frame _ _ _ hst fun b _ o e => old b o e) hq) ?_
  refine R.compTurns (env := compEnvC scope cl (D + 1) env) (turn_one _ _ _ _ _ _ _ _ _) W
    (fun i s' => Lt w F s s' ∧ (∃ l, s'.heap.Ns (D + 1) (mp l)) ∧ ∃ ys as, s'.heap.PlainList D ys.toArray ∧ RdAll s'.heap ys ((List.range i).filterMap f) as ∧ (∀ a ∈ as, s.heap.get? a = none ∧ a ≠ D ∧ a ≠ D + 1 ∧ a ∉ fp))
    (W.frame _ _ _ hst fun b _ o e => old b o e) ⟨lt₁, ⟨[], hns₁⟩, [], [], hacc, .nil, by simp⟩ ?_ ?_ ?_
  · rintro i s' h' tk hsti ⟨x, ⟨l, hl⟩, ys, as, h1, h2, h3⟩ hk
    refine ⟨x.set (fun b o hb e => hk b o (fun hm => hb (hwr b hm)) e) hF0, ⟨l, ns_at hl fun o q => hk _ o (fun hm => hCf (W.sub _ hm)) q⟩, ys, as, h1.at fun o q => hk _ o (fun hm => hDf (W.sub _ hm)) q, h2.keep fun a ha o q => hk a o (fun hm => (h3 a ha).2.2.2 (W.sub _ hm)) q, h3⟩
  · rintro i v s₃ hi hP ⟨x, ⟨l, hl⟩, ys, as, h1, h2, h3⟩ hst₃
    refine wpAny_mono (hasg (D + 1) i v s₃ l hi hP hl) (fun _ s₄ q => ?_) fun _ _ z => z
    obtain ⟨k₄, hg₄, ho₄, l', hn₄, hB⟩ := q
    have lt₄ : Lt w F s s₄ := by
      have := x.set (h' := s₄.heap) (t := s₄.toks) (fun b o hb e => k₄ b o (fun z => hb (z ▸ hC0)) e) hF0
      exact ⟨this.ext, this.fr, this.g₀, this.gr, ho₄.trans x.os, fun b => hg₄ ▸ x.bare b⟩
    refine R.mono (turn (D + 1) i s₄ l' hi hC0 lt₄ hn₄ hB) (fun ok s₅ q => ?_) fun _ _ z => z
    obtain ⟨rfl, lt₅, hel⟩ := q
    have k₅ : ∀ b o, b ≠ D + 1 → b ≠ F → b ≠ 46 → s₃.heap.get? b = some o → s₅.heap.get? b = some o := fun b o n1 n2 n3 e => lt₅.ext b o n3 n2 (k₄ b o n1 e)
    have aF : ∀ a ∈ as, a ≠ F ∧ a ≠ 46 := fun a ha => ⟨fun z => hF0 (z ▸ (h3 a ha).1), fun z => h46 (z ▸ (h3 a ha).1)⟩
    have fC : ∀ b ∈ fp, b ≠ D + 1 := fun b hb z => hCf (z ▸ hb)
    have hn₅ : s₅.heap.Ns (D + 1) (mp l') := lt₅.ns_at hC46 (Ne.symm hFC) hn₄
    have hd₅ : s₅.heap.PlainList D ys.toArray := h1.at fun o q => k₅ D o hDC (Ne.symm hFD) hD46 q
    have hr₅ : RdAll s₅.heap ys ((List.range i).filterMap f) as := h2.keep fun a ha o q => k₅ a o (h3 a ha).2.2.1 (aF a ha).1 (aF a ha).2 q
    have hf₅ : ∀ b ∈ fp, ∀ o, s₃.heap.get? b = some o → s₅.heap.get? b = some o := fun b hb o q => k₅ b o (fC b hb) (hfp b hb).1 (hfp b hb).2 q
    cases hfi : f i with
    | none =>
      rw [if_neg (by simp)]
      refine ⟨⟨lt₄.trans lt₅, ⟨l', hn₅⟩, ys, as, hd₅, ?_, h3⟩, hf₅⟩
      rw [List.range_succ, List.filterMap_append]
      simpa [hfi] using hr₅
    | some d =>
      rw [if_pos (by simp)]
      unfold emitOf
      simp only [bind_assoc]
      refine R.bind (R.mono (hel d hfi) (fun y s₆ q => ?_) fun _ _ z => z)
      obtain ⟨lt₆, bs, hy, hbs⟩ := q
      have hd₆ : s₆.heap.PlainList D ys.toArray := hd₅.at fun o q => lt₆.ext D o hD46 (Ne.symm hFD) q
      have hyl : ys.length ≤ 1000 := by
        have h1 := hr₅.length
        have h2 := List.length_filterMap_le f (List.range i)
        rw [List.length_range] at h2
        omega
      refine R.step (wpAny_list_append_plain hd₆ (fun h₇ hl₇ hs₇ => ?_) (by rw [sizeLine_eq, List.size_toArray]; omega))
      have live₅ : ∀ b ∈ bs, b ≠ D ∧ b ≠ D + 1 ∧ b ∉ fp ∧ s.heap.get? b = none := fun b hb => by
        have hb5 := hbs b hb
        refine ⟨?_, ?_, ?_, ?_⟩
        · rintro rfl; obtain ⟨_, q⟩ := hd₅; rw [hb5] at q; cases q
        · rintro rfl; exact ns_in hn₅ hb5
        · intro hm
          cases q : s₃.heap.get? b with
          | none => exact hlive _ _ hst₃ b hm q
          | some o => have := hf₅ b hm o q; rw [hb5] at this; cases this
        · exact (lt₄.trans lt₅).gone hb5
      refine R.pure ⟨rfl, ⟨(lt₄.trans (lt₅.trans lt₆)).set (fun b o hb e => hs₇.extBut b o (fun z => hb (z ▸ hD0)) e) hF0, ⟨l', ns_at (lt₆.ns_at hC46 (Ne.symm hFC) hn₅) fun o q => hs₇.extBut _ o (Ne.symm hDC) q⟩, ys ++ [y], as ++ bs, ?_, ?_, ?_⟩, ?_⟩
      · simpa using hl₇
      · rw [List.range_succ, List.filterMap_append]
        have : [i].filterMap f = [d] := by simp [hfi]
        rw [this]
        refine RdAll.snoc (hr₅.keep fun a ha o q => hs₇.extBut a o (h3 a ha).2.1 (lt₆.ext a o (aF a ha).2 (aF a ha).1 q)) (hy.keep fun a ha o q => hs₇.extBut a o (live₅ a ha).1 q)
      · intro a ha
        rcases List.mem_append.mp ha with ha | ha
        · exact h3 a ha
        · exact ⟨(live₅ a ha).2.2.2, (live₅ a ha).1, (live₅ a ha).2.1, (live₅ a ha).2.2.1⟩
      · intro b hb o q
        exact hs₇.extBut b o (fun z => hDf (z ▸ hb)) (lt₆.ext b o (hfp b hb).2 (hfp b hb).1 (hf₅ b hb o q))
  · rintro s' ⟨x, ⟨l, hl⟩, ys, as, h1, h2, h3⟩
    exact hRR D (D + 1) s' ys as _ x hD0 hC0 hDC hl h1 h2 fun a ha => ⟨(h3 a ha).1, (h3 a ha).2.1, (h3 a ha).2.2.1⟩
end
end Mine
end

section
namespace Mine
open PySem PySem.W PyProof.Rows PySem.Calls
open Sem (wp)

def clOf (cells : List (Str × Addr)) : List (Str × NameKind) → List (Str × Addr) → Option (List (Str × Addr))
  | [], acc => some acc
  | (n, k) :: r, acc => if (k == .free) = true then (match cells.lookup n with | some c => clOf cells r ((n, c) :: acc) | none => none) else clOf cells r acc

theorem clos_go {env : Env} : ∀ (names : List (Str × NameKind)) (acc cl : List (Str × Addr)), clOf env.cells names acc = some cl →
    (forIn names acc (fun (x : Str × NameKind) cs => if (x.2 == .free) = true then (do let a ← cellOf env x.1; pure (ForInStep.yield ((x.1, a) :: cs))) else pure (ForInStep.yield cs)) : Sem (List (Str × Addr))) = pure cl
  | [], acc, cl, h => by
    rw [List.forIn_nil]
    have : acc = cl := by simpa [clOf] using h
    rw [this]
  | (n, k) :: r, acc, cl, h => by
    rw [List.forIn_cons]
    unfold clOf at h
    by_cases hk : (k == .free) = true
    · rw [if_pos hk] at h
      cases hc : env.cells.lookup n with
      | none => rw [hc] at h; cases h
      | some c =>
        rw [hc] at h
        have e1 : cellOf env n = pure c := by unfold cellOf; rw [hc]
        dsimp only
        rw [if_pos hk, e1]
        simp only [pure_bind]
        exact clos_go r _ cl h
    · rw [if_neg hk] at h
      dsimp only
      rw [if_neg hk]
      simp only [pure_bind]
      exact clos_go r acc cl h
theorem clos_of {env : Env} {scope : Scope} {cl : List (Str × Addr)} (h : clOf env.cells scope.names [] = some cl) : closureFor scope env = pure cl := by
  have := clos_go scope.names [] cl h
  unfold closureFor
  simp only
  have e : (forIn scope.names [] (fun (x : Str × NameKind) cs => if (x.2 == .free) = true then (do let a ← cellOf env x.1; pure (ForInStep.yield ((x.1, a) :: cs))) else pure (ForInStep.yield cs)) : Sem (List (Str × Addr))) >>= (fun cs => (pure cs : Sem (List (Str × Addr)))) = pure cl := by rw [this]; rfl
  exact e

def relNames (ns names : List (Str × NameKind)) : List (Str × NameKind) := names.map fun (n, k) => if (k == .free && ns.lookup n == some .cell) then (n, .cell) else (n, k)
theorem rel_eq {env : Env} {F : Addr} {ns : List (Str × NameKind)} {scope : Scope} (e : Ev env F ns) : relabel scope env = { scope with names := relNames ns scope.names } := by
  unfold relabel relNames
  congr 1
  refine List.map_congr_left fun x _ => ?_
  obtain ⟨n, k⟩ := x
  have h1 : (env.scope.kind == ScopeKind.function) = true := by rw [e.kind]; rfl
  simp only [e.names n, h1, Bool.and_true]
/-- a comprehension's own frame -/
theorem Ev.comp {env : Env} {F C : Addr} {ns : List (Str × NameKind)} {scope : Scope} {cl : List (Str × Addr)} (e : Ev env F ns) (hk : scope.kind = .function) : Ev (compEnvC scope cl C env) C (relNames ns scope.names) := by
  refine ⟨rfl, e.globals, e.builtins, ?_, fun x => ?_⟩
  · show (relabel scope env).kind = _
    rw [rel_eq e]; exact hk
  · show (relabel scope env).names.lookup x = _
    rw [rel_eq e]

section
variable {prog : Program} {w : World} {A : Around} {E : Value → Shared → Prop} {s s₂ : Shared} {env : Env} {F : Addr} {ns : List (Str × NameKind)} {l : List (Str × Value)}

/-- a cell's name -/
theorem ldc {M : Model} {x : Str} {c : Addr} {v : Value} {pos : Pos} {Q : Value → Shared → Prop} (e : Ev env F ns) (hc : env.cells.lookup x = some c) (hv : s.heap.IsCell c (some v)) (h : Q v s)
    (hl : ns.lookup x = some .cell := by rfl) (hd : (x == ("__debug__" : Str)) = false := by decide) : wpAny M A (eval (.Name x pos) env) Q E s :=
  wpAny_Name (wpAny_loadName_cell e.kind ((e.names x).trans hl) hc hv h) hd

theorem Src.list {target : PySem.Expr} {ax : Addr} {vs : List Value} {Q : Value → Shared → Prop} (hh : A.handled = none) (g : Gr w (rid s.heap F)) (hF0 : s.heap.get? F ≠ none) (hl : s.heap.IsList ax vs.toArray) (hF : ax ≠ F) (h46 : ax ≠ 46)
    (htg : ∃ x px, target = .Name x px)
    (h : ∀ s₂ I, Src prog w A target F s s₂ I vs.length (fun i v _ => vs[i]? = some v) → Lt w F s s₂ → Q (.ref I) s₂) : wpAny (model prog w) A (pyIter (.ref ax)) Q E s := by
  obtain ⟨x, px, rfl⟩ := htg
  refine wpAny_pyIter_list hl ?_
  have hlt : ax < s.heap.objs.size := by obtain ⟨_, q, _⟩ := hl; exact Heap.lt_size q
  have hne : ax ≠ s.heap.objs.size := Nat.ne_of_lt hlt
  have up : ∀ b o, s.heap.get? b = some o → (s.heap.push { cls := .type "list_iterator", data := .fields #[.ref ax, .int 0 0] }).get? b = some o := fun b o e => Heap.get?_push_of_some _ e
  have hsz : vs.toArray.size = vs.length := List.size_toArray ..
  refine h _ _ ⟨[s.heap.objs.size, ax], [s.heap.objs.size], fun i v h => vs.toArray[i]? = some v ∧ (h.IsListIter s.heap.objs.size ax (i + 1) ∧ h.IsList ax vs.toArray), fun i h => h.IsListIter s.heap.objs.size ax i ∧ h.IsList ax vs.toArray, ?_, ⟨⟨_, Heap.get?_push_size _ rfl, rfl, rfl⟩, hl.push _⟩, ?_, ?_, ?_, ?_⟩ (Lt.up g up)
  · have W := KTurns.ofWalks (target := .Name x px) (Walks.list (prog := prog) (w := w) (A := A) hh s.heap.objs.size ax hne vs.toArray) (fun i v s Q E _ hQ => wpAny_pure hQ)
    rw [hsz] at W
    exact { sub := W.sub, frame := W.frame, item := W.item, done := W.done, go := fun i v s Q E hm hQ => W.go i v s Q E hm fun h' hP => hQ h' (by simpa using hP) }
  · intro b hb; rw [List.mem_singleton.mp hb]; exact get_size _
  · rintro i h ⟨⟨_, q1, _⟩, ⟨_, q2, _⟩⟩ b hb
    simp only [List.mem_cons, List.not_mem_nil, or_false] at hb
    rcases hb with rfl | rfl
    · rw [q1]; simp
    · rw [q2]; simp
  · intro b hb
    simp only [List.mem_cons, List.not_mem_nil, or_false] at hb
    rcases hb with rfl | rfl
    · refine ⟨fun z => hF0 (z ▸ get_size _), fun z => ?_⟩
      have := g.unrid.tab46
      rw [z] at this; exact Nat.lt_irrefl _ this
    · exact ⟨hF, h46⟩
  · exact fun s' Q st hQ => wpAny_pyIter_listiter st.1 hQ

theorem Src.range18 {target : PySem.Expr} {r : Addr} {t u v : Tok} {Q : Value → Shared → Prop} (hh : A.handled = none) (g : Gr w (rid s.heap F)) (hF0 : s.heap.get? F ≠ none) (hr : IsRange s.heap r 0 18 1 t u v)
    (htg : ∃ x px, target = .Name x px)
    (h : ∀ s₂ I, Src prog w A target F s s₂ I 18 (fun i v _ => ∃ t, v = .int i t) → Lt w F s s₂ → Q (.ref I) s₂) : wpAny (model prog w) A (pyIter (.ref r)) Q E s := by
  obtain ⟨x, px, rfl⟩ := htg
  refine wpAny_pyIter_range hr (by decide) ?_
  rw [show Builtin.Range.rangeSize 0 18 1 = 18 by decide]
  refine h _ _ ⟨[s.heap.objs.size], [s.heap.objs.size], fun i v h => (∃ t, v = .int (0 + (i : Int) * 1) t) ∧ IsRangeIter h s.heap.objs.size (0 + ((i + 1 : Nat) : Int) * 1) (((18 : Nat) : Int) - ((i + 1 : Nat) : Int)) 1, fun i h => IsRangeIter h s.heap.objs.size (0 + (i : Int) * 1) (((18 : Nat) : Int) - (i : Int)) 1, ?_, Heap.get?_push_size _ rfl, ?_, ?_, ?_, ?_⟩ (Lt.up g fun b o e => Heap.get?_push_of_some _ e)
  · have W := KTurns.ofWalks (target := .Name x px) (Walks.range (prog := prog) (w := w) (A := A) hh s.heap.objs.size 0 1 18) (fun i v s Q E _ hQ => wpAny_pure hQ)
    exact { sub := W.sub, frame := W.frame, item := W.item, done := W.done, go := fun i v s Q E hm hQ => W.go i v s Q E hm fun h' hP => hQ h' (by simpa using hP) }
  · intro b hb; rw [List.mem_singleton.mp hb]; exact get_size _
  · rintro i h q1 b hb
    rw [List.mem_singleton.mp hb, q1]; simp
  · intro b hb
    rw [List.mem_singleton.mp hb]
    refine ⟨fun z => hF0 (z ▸ get_size _), fun z => ?_⟩
    have := g.unrid.tab46
    rw [z] at this; exact Nat.lt_irrefl _ this
  · exact fun s' Q st hQ => wpAny_pyIter_rangeiter st hQ

/-- a name of the comprehension's takes an item -/
theorem asg1 {scope : Scope} {cl : List (Str × Addr)} {x : Str} {px : Pos} {P : Nat → Value → Prop} {n : Nat} (e : Ev env F ns) (hk : scope.kind = .function) (hx : (relNames ns scope.names).lookup x = some .local) :
    ∀ C i v (s₃ : Shared) l, i < n → (fun i v (_ : Heap) => P i v) i v s₃.heap → s₃.heap.Ns C (mp l) → wpAny (model prog w) A (assign (.Name x px) (compEnvC scope cl C env) v) (fun _ s₄ => (∀ b o, b ≠ C → s₃.heap.get? b = some o → s₄.heap.get? b = some o) ∧ s₄.gens = s₃.gens ∧ s₄.os = s₃.os ∧
      ∃ l', s₄.heap.Ns C (mp l') ∧ (fun i (l : List (Str × Value)) => ∃ v, l.lookup x = some v ∧ P i v) i l') (fun _ _ => False) s₃ := by
  intro C i v s₃ l _ hP hn
  refine wpAny_assign_Name (st (e.comp hk) hn (fun h' hn' hs' => ⟨fun b o hb q => hs'.extBut b o hb q, rfl, rfl, _, hn', v, ?_, hP⟩) hx)
  simp

/-- a list comprehension with one clause -/
theorem R.listComp {elt target iter : PySem.Expr} {ifs : List PySem.Expr} {scope : Scope} {cl : List (Str × Addr)} {pos : Pos} {Q : Value → Shared → Prop} (hclos : closureFor scope env = Pure.pure cl) (hF0 : s.heap.get? F ≠ none) (hF46 : F ≠ 46)
    (hcell : ∀ y ∈ scope.names, y.2 ≠ .cell) (hkind : scope.kind = .function) (hnames : ∀ x ∈ scope.names, x.2 = .local → scope.names.lookup x.1 = some .local)
    (h : wpR (model prog w) A (eval iter env) (fun xv s₁ => wpAny (model prog w) A (pyIter xv) (fun it s₂ => ∃ (I : Addr) (n : Nat) (P : Nat → Value → Heap → Prop) (f : Nat → Option PyData) (B : Nat → List (Str × Value) → Prop), it = .ref I ∧ Src prog w A target F s s₂ I n P ∧ Lt w F s s₂ ∧ n ≤ 1000 ∧
      (∀ C i v s₃ l, i < n → P i v s₃.heap → s₃.heap.Ns C (mp l) → wpAny (model prog w) A (assign target (compEnvC scope cl C env) v) (fun _ s₄ => (∀ b o, b ≠ C → s₃.heap.get? b = some o → s₄.heap.get? b = some o) ∧ s₄.gens = s₃.gens ∧ s₄.os = s₃.os ∧
        ∃ l', s₄.heap.Ns C (mp l') ∧ B i l') (fun _ _ => False) s₃) ∧
      (∀ C i s₄ l, i < n → s.heap.get? C = none → Lt w F s s₄ → s₄.heap.Ns C (mp l) → B i l → wpR (model prog w) A (testsOf ifs (compEnvC scope cl C env)) (fun ok s₅ => ok = (f i).isSome ∧ Lt w F s₄ s₅ ∧
        ∀ d, f i = some d → wpR (model prog w) A (eval elt (compEnvC scope cl C env)) (fun y s₆ => Lt w F s₅ s₆ ∧ ∃ as, Rd s₆.heap y d as ∧ ∀ a ∈ as, s₅.heap.get? a = none) (fun _ _ => False) s₅) (fun _ _ => False) s₄) ∧
      (∀ s' r as, Lt w F s s' → Rd s'.heap (.ref r) (.list ((List.range n).filterMap f)) as → (∀ a ∈ as, s.heap.get? a = none) → Q (.ref r) s')) E s₁) E s)
    (hs : ∀ x, foldedSetIterable iter env x = Pure.pure x := by intro _; rfl) :
    wpR (model prog w) A (eval (.ListComp elt [⟨target, iter, ifs, 0⟩] scope pos) env) Q E s := by
  rw [eval_ListComp]
  refine R.comprehension (use := none) rfl hs hclos hkind hnames (R.mono h (fun xv s₁ h₁ => wpAny_mono h₁ (fun it s₂ h₂ => ?_) fun _ _ e => e) fun _ _ e => e)
  obtain ⟨I, n, P, f, B, rfl, hsrc, lt₂, hn, hasg, turn, hQ⟩ := h₂
  refine wpAny_mono (R.compCore (E := E) (RR := fun acc C r s' => match r with
          | .ok _ => ∃ m, s'.heap.Ns C m ∧ ∀ h', Heap.SameBut C s'.heap h' → Q acc { s' with heap := h' }
          | .error _ => False) hsrc lt₂ hF0 hF46 hn hcell hkind B hasg turn ?_) (fun acc s₃ h₃ => h₃) fun _ _ e => e
  intro D C s' ys as m lt hD hC hDC hnC hl hr has
  refine ⟨m, hnC, fun h' hs' => hQ _ D (D :: as) (lt.set (fun b o hb e => hs'.extBut b o (fun z => hb (z ▸ hC)) e) hF0) (.list (hl.at fun o q => hs'.extBut D o hDC q) (hr.keep fun a ha o q => hs'.extBut a o (has a ha).2.2 q)) fun a ha => ?_⟩
  rcases List.mem_cons.mp ha with rfl | ha
  · exact hD
  · exact (has a ha).1

theorem tests_nil {env : Env} : testsOf [] env = Pure.pure true := by
  unfold testsOf
  simp only [List.forIn_nil, pure_bind]
theorem tests_one {c : PySem.Expr} {env : Env} : testsOf [c] env = PySem.isTrue c env (eval c env) := by
  unfold testsOf
  simp only [List.forIn_cons, List.forIn_nil, if_true, bind_assoc, pure_bind, bind_pure]
end
end Mine
end

section
namespace Mine
open PySem PySem.W PyProof.Rows PySem.Calls
open Sem (wp)

/-- the law's frame -/
structure LE (env : Env) (F : Addr) (ns : List (Str × NameKind)) : Prop where
  e : Ev env F ns
  apart : env.cells.Pairwise fun x y => x.2 ≠ y.2
  above : ∀ n c, (n, c) ∈ env.cells → F < c
  once : ∀ n c, (n, c) ∈ env.cells → env.cells.lookup n = some c
  big : 46 < F

/-- what turns -/
def XX (env : Env) (F : Addr) : List Addr := F :: 46 :: env.cells.map (·.2)

structure LS (w : World) (S : Shared) (env : Env) (F : Addr) (l cm : List (Str × Value)) (s : Shared) : Prop where
  g0 : Gr w S.heap
  gr : Gr w (rid s.heap F)
  ns : s.heap.Ns F (mp l)
  cell : ∀ n c, env.cells.lookup n = some c → s.heap.IsCell c (cm.lookup n)
  old : ∀ b o, b ≠ 46 → S.heap.get? b = some o → s.heap.get? b = some o
  os : s.os = S.os
  bare : AllBare s.gens
  new : S.heap.get? F = none
  newc : ∀ n c, (n, c) ∈ env.cells → S.heap.get? c = none

section
variable {prog : Program} {w : World} {A : Around} {E : Value → Shared → Prop} {S s s' : Shared} {env : Env} {F : Addr} {ns : List (Str × NameKind)} {l cm : List (Str × Value)}

theorem LE.c46 (L : LE env F ns) {n : Str} {c : Addr} (h : (n, c) ∈ env.cells) : c ≠ 46 := fun z => Nat.lt_asymm L.big (z ▸ L.above n c h)
theorem LE.cF (L : LE env F ns) {n : Str} {c : Addr} (h : (n, c) ∈ env.cells) : c ≠ F := fun z => Nat.lt_irrefl F (by have := L.above n c h; rw [z] at this; exact this)
theorem LE.F46 (L : LE env F ns) : F ≠ 46 := Nat.ne_of_gt L.big
theorem X46 : 46 ∈ XX env F := List.mem_cons_of_mem _ (List.mem_cons_self ..)
theorem XF : F ∈ XX env F := List.mem_cons_self ..
theorem Xc {n : Str} {c : Addr} (h : (n, c) ∈ env.cells) : c ∈ XX env F := List.mem_cons_of_mem _ (List.mem_cons_of_mem _ (List.mem_map.mpr ⟨_, h, rfl⟩))

theorem LS.F0 (x : LS w S env F l cm s) : s.heap.get? F ≠ none := ns_in x.ns
theorem LS.lives (x : LS w S env F l cm s) (L : LE env F ns) : ∀ a ∈ XX env F, s.heap.get? a ≠ none := by
  intro a ha
  rcases List.mem_cons.mp ha with rfl | ha
  · exact x.F0
  · rcases List.mem_cons.mp ha with rfl | ha
    · obtain ⟨_, _, ⟨_, t⟩, _⟩ := x.gr.unrid.tab
      rw [t]; simp
    · obtain ⟨⟨n, c⟩, hm, rfl⟩ := List.mem_map.mp ha
      obtain ⟨o, ho, _⟩ := x.cell n c (L.once n c hm)
      show s.heap.get? c ≠ none
      rw [ho]; simp
/-- what is new is known -/
theorem LS.learn {v : Value} {d : PyData} {as : List Addr} (x : LS w S env F l cm s) (L : LE env F ns) (r : Rd s'.heap v d as) (h : ∀ a ∈ as, s.heap.get? a = none) : Kn (XX env F) s'.heap v d :=
  ⟨as, r, fun a ha hm => x.lives L a hm (h a ha)⟩

theorem LS.lt (x : LS w S env F l cm s) (L : LE env F ns) (y : Lt w F s s') : LS w S env F l cm s' where
  g0 := x.g0
  gr := y.gr
  ns := y.ns x.ns
  cell := fun n c hc => let ⟨o, ho, hd⟩ := x.cell n c hc; ⟨o, y.ext c o (L.c46 (mem_of_lookup hc)) (L.cF (mem_of_lookup hc)) ho, hd⟩
  old := fun b o hb e => y.ext b o hb (fun z => by rw [z, x.new] at e; cases e) (x.old b o hb e)
  os := y.os.trans x.os
  bare := y.bare x.bare
  new := x.new
  newc := x.newc

theorem Lt.kn' {v : Value} {d : PyData} (y : Lt w F s s') (k : Kn (XX env F) s.heap v d) : Kn (XX env F) s'.heap v d := y.kn X46 XF k

/-- a name of the frame's own -/
theorem LS.st {M : Model} {x : Str} {v : Value} {Q : Unit → Shared → Prop} (y : LS w S env F l cm s) (L : LE env F ns) (hl : ns.lookup x = some .local)
    (h : ∀ s', LS w S env F ((x, v) :: l) cm s' → (∀ u d, Kn (XX env F) s.heap u d → Kn (XX env F) s'.heap u d) → Q () s') : wpAny M A (storeName env x v) Q E s := by
  refine Mine.st L.e y.ns (fun h' hn' hs' => h _ ⟨y.g0, y.gr.keeps fun b o e => rid_keeps e (hs'.extBut b o (rid_in e).1 (rid_in e).2), hn', ?_, fun b o hb e => hs'.extBut b o (fun z => by rw [z, y.new] at e; cases e) (y.old b o hb e), y.os, y.bare, y.new, y.newc⟩
    fun u d k => k.keep fun b o hb e => hs'.extBut b o (fun z => hb (z ▸ XF)) e) hl
  intro n c hc
  obtain ⟨o, ho, hd⟩ := y.cell n c hc
  exact ⟨o, hs'.extBut c o (L.cF (mem_of_lookup hc)) ho, hd⟩

/-- a name in a cell -/
theorem LS.stc {M : Model} {x : Str} {c : Addr} {v : Value} {Q : Unit → Shared → Prop} (y : LS w S env F l cm s) (L : LE env F ns) (hl : ns.lookup x = some .cell) (hc : env.cells.lookup x = some c)
    (h : ∀ s', LS w S env F l ((x, v) :: cm) s' → (∀ u d, Kn (XX env F) s.heap u d → Kn (XX env F) s'.heap u d) → Q () s') : wpAny M A (storeName env x v) Q E s := by
  have hm := mem_of_lookup hc
  refine wpAny_storeName_cell L.e.kind ((L.e.names x).trans hl) hc (y.cell x c hc) fun h' hc' hs' => h _ ⟨y.g0, ?_, ns_at y.ns fun o q => hs'.extBut F o (Ne.symm (L.cF hm)) q, ?_, fun b o hb e => hs'.extBut b o (fun z => by rw [z, y.newc x c hm] at e; cases e) (y.old b o hb e), y.os, y.bare, y.new, y.newc⟩
    fun u d k => k.keep fun b o hb e => hs'.extBut b o (fun z => hb (z ▸ Xc hm)) e
  · -- the ground does not hold the cell
    exact y.g0.on y.gr fun b o hb e => rid_keeps e (hs'.extBut b o (fun z => hb (z ▸ y.newc x c hm)) (rid_in e).2)
  · intro n c' hc''
    rw [List.lookup_cons]
    by_cases hn : n = x
    · subst hn
      rw [hc] at hc''; cases hc''
      simpa using hc'
    · rw [show (n == x) = false by simpa using hn]
      obtain ⟨o, ho, hd⟩ := y.cell n c' hc''
      refine ⟨o, hs'.extBut c' o (fun z => hn (name_of_addr L.apart (mem_of_lookup hc'') (z ▸ hm))) ho, hd⟩

/-- x = e, x in a cell -/
theorem R.setCell {x : Str} {c : Addr} {px pos : Pos} {value : PySem.Expr} {Q : Flow → Shared → Prop} (L : LE env F ns) (_ls : LS w S env F l cm s) (hl : ns.lookup x = some .cell) (hc : env.cells.lookup x = some c)
    (hs : swapsWith value (some (.Name x px)) pos.line env = Pure.pure false)
    (h : wpR (model prog w) A (eval value env) (fun v s₁ => LS w S env F l cm s₁ ∧ ∀ s₂, LS w S env F l ((x, v) :: cm) s₂ → (∀ u d, Kn (XX env F) s₁.heap u d → Kn (XX env F) s₂.heap u d) → Q .next s₂) E s) :
    wpR (model prog w) A (exec (.Assign [.Name x px] value pos) env) Q E s :=
  R.Assign (R.mono h (fun _ _ q => q.1.stc L hl hc fun s₂ a b => q.2 s₂ a b) fun _ _ z => z) hs
/-- x = e, x a name of the frame's own -/
theorem R.setName {x : Str} {px pos : Pos} {value : PySem.Expr} {Q : Flow → Shared → Prop} (L : LE env F ns) (_ls : LS w S env F l cm s) (hl : ns.lookup x = some .local)
    (hs : swapsWith value (some (.Name x px)) pos.line env = Pure.pure false)
    (h : wpR (model prog w) A (eval value env) (fun v s₁ => LS w S env F l cm s₁ ∧ ∀ s₂, LS w S env F ((x, v) :: l) cm s₂ → (∀ u d, Kn (XX env F) s₁.heap u d → Kn (XX env F) s₂.heap u d) → Q .next s₂) E s) :
    wpR (model prog w) A (exec (.Assign [.Name x px] value pos) env) Q E s :=
  R.Assign (R.mono h (fun _ _ q => q.1.st L hl fun s₂ a b => q.2 s₂ a b) fun _ _ z => z) hs
end
end Mine
end

section
namespace Mine
open PySem PySem.W PyProof.Rows PySem.Calls
open Sem (wp)

def lawNs : List (Str × NameKind) := [
                (PySem.Str.ofString "script", PySem.NameKind.cell),
                (PySem.Str.ofString "numbers", PySem.NameKind.cell),
                (PySem.Str.ofString "ways", PySem.NameKind.cell),
                (PySem.Str.ofString "aheads", PySem.NameKind.cell),
                (PySem.Str.ofString "texts", PySem.NameKind.cell),
                (PySem.Str.ofString "told", PySem.NameKind.local),
                (PySem.Str.ofString "trees", PySem.NameKind.cell),
                (PySem.Str.ofString "one", PySem.NameKind.local),
                (PySem.Str.ofString "two", PySem.NameKind.local),
                (PySem.Str.ofString "three", PySem.NameKind.local),
                (PySem.Str.ofString "four", PySem.NameKind.local),
                (PySem.Str.ofString "name", PySem.NameKind.cell),
                (PySem.Str.ofString "due", PySem.NameKind.local),
                (PySem.Str.ofString "laid", PySem.NameKind.local),
                (PySem.Str.ofString "enumerate", PySem.NameKind.globalImplicit),
                (PySem.Str.ofString "range", PySem.NameKind.globalImplicit),
                (PySem.Str.ofString "_platform", PySem.NameKind.globalImplicit),
                (PySem.Str.ofString "_comparable_version", PySem.NameKind.globalImplicit),
                (PySem.Str.ofString "sorted", PySem.NameKind.globalImplicit)]
def lawCells (F : Addr) : List (Str × Addr) := [(Str.ofString "name", F + 7), (Str.ofString "trees", F + 6), (Str.ofString "texts", F + 5), (Str.ofString "aheads", F + 4), (Str.ofString "ways", F + 3), (Str.ofString "numbers", F + 2), (Str.ofString "script", F + 1)]

/-- what the law's environment is -/
structure LV (env : Env) (F : Addr) : Prop where
  le : LE env F lawNs
  cells : env.cells = lawCells F
  frame : env.frame = some F
  block : env.blockKind = .function
  kind : env.scope.kind = .function

section
variable {prog : Program} {w : World} {A : Around} {E : Value → Shared → Prop} {S : Shared}

/-- into a def whose names lie in cells -/
theorem R.callCells {Q : Value → Shared → Prop} {f : Addr} {v : Value} {fd : FuncData} {body : List Stmt} {x : Str} {oc : Value} {od : Option Addr} {osl : Array (Option Value)}
    (g : Gr w S.heap) (ho : (KK w).lookup f = some ⟨oc, od, .func fd, osl⟩) (hcd : codeIn (KK w) fd.code fd.qualname = true) (hroom : A.depth < recursionLimit)
    (hbody : fd.body = .stmts body) (hbind : bindArgs fd ⟨[v], []⟩ = Pure.pure [(x, v)]) (hclo : fd.closure = [])
    (hk1 : fd.scope.names.lookup x = some .cell) (hk2 : ((cellsFrom (S.heap.objs.size + 1) fd.scope.names []).lookup x).isSome = true)
    (hco : fd.scope.isCoroutine = false) (hgen : fd.scope.isGenerator = false) (hk : fd.scope.kind = .function)
    (h : ∀ s₁ env, env = callEnvC fd S.heap.objs.size f → InCallC S env.locals (fun _ => none) env.cells (fun y => if y = x then some v else none) s₁ →
      wpR (model prog w) (A.deeper env) (PySem.execs body env) (fun fl s' => Q (match fl with | .ret v => v | _ => .none) s') (fun _ _ => False) s₁) :
    wpR (model prog w) A (PySem.call (.ref f) [v]) Q E S := by
  refine R.call (R.fn (fd := fd) (body := body) hroom (g.k _ _ ho) rfl hco hgen hbody (codeRec_of g.k hcd) ?_)
  rw [hbind, hclo]
  refine wpAny_pure (wpAny_newFunctionEnv_cells hk (by intro y hy; rw [List.mem_singleton.mp hy]; exact .inr ⟨hk1, hk2⟩) fun env he s' y => ?_)
  subst he
  refine ⟨g.lim.keeps y.toInCall.keep, R.func ?_⟩
  have hkind : (newEnv fd.scope S.heap.objs.size fd.globals (cellsFrom (S.heap.objs.size + 1) fd.scope.names []) (fd.qualname ++ ".<locals>.") (some f) fd.code none fd.builtins).kindOf x = some .cell := hk1
  have y' : InCallC S (callEnvC fd S.heap.objs.size f).locals (fun _ => none) (callEnvC fd S.heap.objs.size f).cells (fun y => if y = x then some v else none) s' := by
    have hn : ¬ (some NameKind.cell = some NameKind.local) := by decide
    unfold bindL bindC at y
    rw [hkind, if_neg hn, if_neg hn] at y
    exact y
  exact R.mono (h s' _ rfl y') (fun _ _ q => q) fun _ _ z => z.elim

/-- into the law -/
theorem R.lawIn {Q : Value → Shared → Prop} {v : Value} (g : Gr w S.heap) (hroom : A.depth < recursionLimit) (hb : AllBare S.gens)
    {fd : FuncData} {body : List Stmt} {oc : Value} {od : Option Addr} {osl : Array (Option Value)} (ho : (KK w).lookup 98 = some ⟨oc, od, .func fd, osl⟩) (hbody : fd.body = .stmts body)
    (hcd : codeIn (KK w) fd.code fd.qualname = true) (hfd : fd.scope.names = lawNs ∧ fd.scope.kind = .function ∧ fd.scope.isCoroutine = false ∧ fd.scope.isGenerator = false ∧ fd.closure = [] ∧ fd.globals = mainGlobals ∧ fd.builtins = builtinsNs)
    (hbind : bindArgs fd ⟨[v], []⟩ = Pure.pure [(Str.ofString "script", v)])
    (h : ∀ s₁ env F, LV env F → LS w S env F [] [(Str.ofString "script", v)] s₁ →
      wpR (model prog w) (A.deeper env) (PySem.execs body env) (fun fl s' => Q (match fl with | .ret v => v | _ => .none) s') (fun _ _ => False) s₁) :
    wpR (model prog w) A (PySem.call (.ref 98) [v]) Q E S := by
  obtain ⟨h1, h2, h3, h4, h5, h6, h7⟩ := hfd
  refine R.callCells (x := Str.ofString "script") g ho hcd hroom hbody hbind h5 (by rw [h1]; rfl) (by rw [h1]; rfl) h3 h4 h2 fun s₁ env he x => ?_
  have hF46 : 46 < S.heap.objs.size := g.tab46
  have hcs : env.cells = lawCells S.heap.objs.size := by
    subst he
    show cellsFrom (S.heap.objs.size + 1) fd.scope.names [] = _
    rw [h1]; rfl
  have hl : env.locals = S.heap.objs.size := by subst he; rfl
  have hnone : ∀ b, S.heap.objs.size ≤ b → S.heap.get? b = none := fun b hb => by
    cases q : S.heap.get? b with
    | none => rfl
    | some ob => exact absurd (Nat.lt_of_lt_of_le (Heap.lt_size q) hb) (Nat.lt_irrefl _)
  have L : LE env S.heap.objs.size lawNs := by
    refine ⟨⟨hl, ?_, ?_, ?_, fun y => ?_⟩, x.apart, fun n c hm => hl ▸ x.above n c hm, ?_, hF46⟩
    · subst he; exact h6
    · subst he; exact h7
    · subst he; exact h2
    · subst he
      show fd.scope.names.lookup y = _
      rw [h1]
    · intro n c hm
      rw [hcs] at hm ⊢
      simp only [lawCells, List.mem_cons, List.not_mem_nil, or_false] at hm
      rcases hm with hm | hm | hm | hm | hm | hm | hm <;> (cases hm; rfl)
  refine h s₁ env S.heap.objs.size ⟨L, hcs, by subst he; rfl, by subst he; unfold Env.blockKind; show _ = _; simp [callEnvC, newEnv, h2], L.e.kind⟩ ⟨g, ?_, ?_, ?_, fun b o _ e => x.toInCall.keep b o e, ?_, ?_, hnone _ (Nat.le_refl _), ?_⟩
  · exact g.keeps fun b o e => (rid_other (fun z => by rw [z, hnone _ (Nat.le_refl _)] at e; cases e)).trans (x.toInCall.keep b o e)
  · have := x.toInCall.ns
    rw [hl] at this
    exact this
  · intro n c hc
    have := x.cell n c hc
    rw [List.lookup_cons]
    by_cases hn : n = Str.ofString "script"
    · subst hn; simpa using this
    · rw [if_neg hn] at this
      rw [show (n == Str.ofString "script") = false by simpa using hn]
      exact this
  · obtain ⟨h, tk, e⟩ := x.toInCall.same; rw [e]
  · obtain ⟨h, tk, e⟩ := x.toInCall.same; rw [e]; exact hb
  · intro n c hm
    exact hnone c (Nat.le_of_lt (hl ▸ x.above n c hm))
end
end Mine
end

section
namespace Mine
open PySem PySem.W PyProof.Rows PySem.Calls

def lawTree : List Int → Int → Bool
  | [], _ => true
  | m :: r, d => if d < m then false else lawTree r (d - m + 1)

theorem ints_at {vs : List Value} {ns : List Int} (h : IntsAre vs ns) {i : Nat} {v : Value} (e : vs[i]? = some v) : ∃ n t, v = .int n t ∧ ns.drop i = n :: ns.drop (i + 1) := by
  induction h generalizing i with
  | nil => simp at e
  | @cons n t vs ns _ ih =>
    cases i with
    | zero => simp at e; subst e; exact ⟨n, t, rfl, rfl⟩
    | succ i => simp at e; obtain ⟨n', t', h1, h2⟩ := ih e; exact ⟨n', t', h1, by simpa using h2⟩

theorem law_tree {prog : Program} {w : World} {A : Around} {s : Shared} {E : Value → Shared → Prop} {Q : Value → Shared → Prop} {l : Addr} {vs : List Value} {cs : List Int}
    (g : Gr w s.heap) (hh : A.handled = none) (hroom : A.depth < recursionLimit) (hl : s.heap.IsList l vs.toArray) (hi : IntsAre vs cs)
    (hQ : ∀ s', Ok w s s' → s'.gens = s.gens → Q (.bool (lawTree cs 0)) s') : wpAny (model prog w) A (call (.ref 86) [.ref l]) Q E s := by
  refine call_in (binds := [(Str.ofString "closings", .ref l)]) g rfl rfl hroom rfl (BindsTo.of_eq rfl) (by decide) (locs rfl) rfl rfl rfl rfl rfl (fun h₀ L env A' e hA hL hn hk g₀ => ?_)
  have hL0 : s.heap.get? L = none := hL ▸ get_size _
  refine wpAny_execs_cons (wpAny_Assign_Name (wpAny_Constant_int (st e hn fun h₁ hn₁ hs₁ => ?_)))
  have hax : l ≠ L := by obtain ⟨o, q, _⟩ := hl; intro z; rw [z, hL0] at q; cases q
  have hl₀ : h₀.IsList l vs.toArray := hl.at fun o q => hk l o q
  have hl₁ : h₁.IsList l vs.toArray := hl₀.at fun o q => hs₁.extBut l o hax q
  have o₁ : Ok w s { s with heap := h₁, toks := s.toks + 1 + 1 + 1 } := ((Ok.refl g).keep (t := s.toks) hk).upd hs₁.extBut hL0
  refine wpAny_execs_cons (wpAny_For (ld e hn₁ rfl ?_))
  refine for_list [] (fun i l _ => ∃ d t, l.lookup (Str.ofString "depth") = some (.int d t) ∧ lawTree cs 0 = lawTree (cs.drop i) d) e (hA.handled.trans hh) rfl hl₁ hax (by simp) (by simp) o₁ hL0 hn₁
    ⟨0, _, rfl, rfl⟩ (fun _ _ _ _ _ _ h _ => h) ?_ ?_
  · rintro i l₁ v s₁ hv ⟨d, t, hd, hc⟩ oo hn₂ hg hb
    obtain ⟨n, u, rfl, hdr⟩ := ints_at hi hv
    rw [hdr] at hc
    refine wpAny_execs_cons (wpAny_If (wpAny_isTrue_Compare1 (ld e hn₂ rfl (ld e hn₂ hd (SiftDown.gt_int (wpAny_truthy_bool ?_))))))
    by_cases hlt : d < n
    · rw [decide_eq_true hlt, if_pos rfl]
      refine wpAny_execs_cons (wpAny_Return_some (wpAny_Constant_bool ?_))
      have hf : lawTree cs 0 = false := by rw [hc]; simp [lawTree, hlt]
      dsimp only
      rw [← hf]
      exact hQ _ oo hg
    · rw [decide_eq_false hlt, if_neg Bool.false_ne_true]
      refine wpAny_execs_nil ?_
      dsimp only
      refine wpAny_execs_cons (wpAny_Assign_Name (wpAny_BinOp (wpAny_BinOp (ld e hn₂ hd (ld e hn₂ rfl (sub_int (wpAny_Constant_int (add_int (st e hn₂ fun h₃ hn₃ hs₃ => ?_)))))))))
      refine wpAny_execs_nil ⟨_, hn₃, ⟨_, _, rfl, ?_⟩, oo.upd hs₃.extBut hL0, hg, But.same hs₃⟩
      rw [hc]; simp [lawTree, hlt]
  · rintro l' s' ⟨d, t, hd, hc⟩ oo hn₂ hg hb
    have hi' := IntsAre.length hi
    rw [hi', List.drop_length] at hc
    refine wpAny_execs_cons (wpAny_Return_some (wpAny_Constant_bool ?_))
    have hf : lawTree cs 0 = true := hc
    dsimp only
    rw [← hf]
    exact hQ _ oo hg
end Mine
end

section
namespace Mine
open PySem PySem.W PyProof.Rows PySem.Calls

/-- a number's figures -/
def dg (n : Int) : List Nat := (Str.ofString (toString n)).cps.toList
def par (m : Int) : List Nat := List.replicate m.toNat 41
def textGo : List (Int × Int) → List Nat → Int → List Nat
  | [], t, d => t ++ par d
  | (n, m) :: r, t, d => textGo r (t ++ par m ++ [40] ++ dg n) (d - m + 1)
def lawText (ns cs : List Int) (a : List Nat) : List Nat :=
  match ns with
  | [] => []
  | n :: r => textGo (r.zip cs) (a ++ dg n) 0

theorem mul_par {m : Int} : Txt.mul (Str.ofString ")") m = ⟨(par m).toArray⟩ := by
  have hf : ∀ (k : Nat) (acc : Array Nat), (List.replicate k (#[41] : Array Nat)).foldl (· ++ ·) acc = acc ++ (List.replicate k 41).toArray := by
    intro k
    induction k with
    | zero => intro acc; simp
    | succ k ih => intro acc; rw [List.replicate_succ, List.foldl_cons, ih, List.replicate_succ]; apply Array.toList_inj.mp; simp
  have hc : Str.ofString ")" = ⟨#[41]⟩ := by decide +kernel
  rw [hc]
  unfold Txt.mul par
  by_cases h : m < 1
  · rw [if_pos h]
    have : m.toNat = 0 := by omega
    rw [this]; rfl
  · rw [if_neg h]
    by_cases h1 : m = 1
    · subst h1; rfl
    · have : (m == 1 || (Str.length ⟨#[41]⟩) == 0) = false := by
        have : (m == 1) = false := by simpa using h1
        rw [this]; rfl
      rw [this, if_neg Bool.false_ne_true, hf]
      simp

theorem mulOk {m : Int} (h1 : -100 ≤ m) (h2 : m ≤ 100) : MulOk (Str.ofString ")") m := by
  have hc : Str.ofString ")" = ⟨#[41]⟩ := by decide +kernel
  rw [hc]
  refine ⟨by simp; omega, fun h _ => ?_, fun h _ => ?_⟩
  · show ¬ ((1 : Int) > (2 ^ 63 - 1) / m)
    have : 1 ≤ (2 ^ 63 - 1) / m := by
      apply Int.le_ediv_of_mul_le (by omega)
      omega
    omega
  · show Builtin.Str.tooLong (1 * m.toNat) = false
    unfold Builtin.Str.tooLong
    rw [sizeLine_eq]
    exact decide_eq_false (by omega)

theorem log_small {n : Int} (h0 : 0 ≤ n) (h1 : n < 1000) : n.natAbs.log2 < 1920 := by
  have : n.natAbs < 1000 := by omega
  by_cases hz : n.natAbs = 0
  · rw [hz]; decide
  · have := (Nat.log2_lt hz (k := 1920)).mpr (Nat.lt_of_lt_of_le this (Nat.le_trans (by decide : 1000 ≤ 2 ^ 10) (Nat.pow_le_pow_right (by decide) (by decide))))
    exact this

def small (n : Int) : Prop := 0 ≤ n ∧ n < 1000
theorem dg_len : ∀ n : Int, small n → (dg n).length ≤ 3 ∧ dg n ≠ [] := by
  have h : ∀ k : Fin 1000, (dg (k.val : Int)).length ≤ 3 ∧ dg (k.val : Int) ≠ [] := by decide +kernel
  intro n ⟨h0, h1⟩
  have := h ⟨n.toNat, by omega⟩
  rwa [show ((n.toNat : Nat) : Int) = n by omega] at this

theorem ints_drop : ∀ {vs : List Value} {ns : List Int}, IntsAre vs ns → ∀ k, IntsAre (vs.drop k) (ns.drop k)
  | _, _, .nil, k => by simp; exact .nil
  | _, _, .cons n t r, 0 => .cons n t r
  | _, _, .cons n t r, k + 1 => ints_drop r k

section
variable {prog : Program} {w : World} {A : Around} {E : Value → Shared → Prop} {s : Shared} {env : Env} {L : Addr} {ns : List (Str × NameKind)} {l : List (Str × Value)}

/-- xs[0] -/
theorem item0 {nm : Str} {a : Addr} {v : Value} {vs : List Value} {p1 p2 p3 : Pos} {k : Nat} {Q : Value → Shared → Prop} (e : Ev env L ns) (hn : s.heap.Ns L (mp l)) (h1 : l.lookup nm = some (.ref a)) (hl : s.heap.IsList a (v :: vs).toArray)
    (hnm : ns.lookup nm = some .local) (hd : (nm == ("__debug__" : Str)) = false) (h : Q v { s with toks := s.toks + 1 }) :
    wpAny (model prog w) A (eval (.Subscript (.Name nm p1) (.Constant (.int 0) k p2) p3) env) Q E s :=
  wpAny_Subscript_Constant_late (ld e hn h1 (wpAny_Constant_int ⟨"list", _, slot_list_getitem.lookup, hl.typeIs, getItem_listL hl (by decide) (by decide) rfl h⟩) hnm hd)

/-- str(e) of a small number -/
theorem strOfI {e₁ : PySem.Expr} {p pos : Pos} {Q : Value → Shared → Prop} (e : Ev env L ns) (g : Gr w s.heap) (he : starEach [e₁] env = [(false, eval e₁ env)]) (hl : ns.lookup (Str.ofString "str") = some .globalImplicit)
    (h : wpAny (model prog w) A (eval e₁ env) (fun v s₁ => ∃ n t, v = .int n t ∧ small n ∧ Q (.str (Str.ofString (toString n)) s₁.toks) { s₁ with toks := s₁.toks + 1 }) E s) :
    wpAny (model prog w) A (eval (.Call (.Name (Str.ofString "str") p) [e₁] [] pos) env) Q E s := by
  refine callT1 e g (T := "str") rfl he hl rfl (by decide) (by decide) (wpAny_mono h (fun v s₁ h₁ => ?_) fun _ _ z => z)
  obtain ⟨n, t, rfl, hs, hq⟩ := h₁
  exact P.str_of_int (log_small hs.1 hs.2) hq
end

section
variable {prog : Program} {w : World} {A : Around} {E : Value → Shared → Prop} {s : Shared}
set_option maxHeartbeats 2000000 in
/-- _law_text -/
theorem law_text {nl cl : Addr} {vs us : List Value} {ns cs : List Int} {a : Str} {ta : Tok} {Q : Value → Shared → Prop} (g : Gr w s.heap) (hh : A.handled = none) (hroom : A.depth < recursionLimit)
    (hnl : s.heap.IsList nl vs.toArray) (hcl : s.heap.IsList cl us.toArray) (hi : IntsAre vs ns) (hc : IntsAre us cs) (hlen : ns.length = 4) (hsm : ∀ n ∈ ns, small n) (hcs : ∀ m ∈ cs, 0 ≤ m ∧ m ≤ 2) (ha : a.length ≤ 10)
    (hQ : ∀ s' t', Ok w s s' → Q (.str ⟨(lawText ns cs a.cps.toList).toArray⟩ t') s') :
    wpAny (model prog w) A (call (.ref 79) [.ref nl, .ref cl, .str a ta]) Q E s := by
  refine call_in2 (binds := [(Str.ofString "numbers", .ref nl), (Str.ofString "closings", .ref cl), (Str.ofString "ahead", .str a ta)]) g rfl rfl hroom rfl (BindsTo.of_eq rfl) (by decide) (locs rfl) rfl rfl rfl rfl rfl (fun h₀ L env A' henv e hA hL hn hk g₀ => ?_)
  have hL0 : s.heap.get? L = none := hL ▸ get_size _
  have hh' : A'.handled = none := hA.handled.trans hh
  have o₀ : Ok w s { s with heap := h₀, toks := s.toks + 3 } := (Ok.refl g).keep hk
  obtain ⟨n₀, r, rfl⟩ : ∃ n r, ns = n :: r := by
    cases ns with
    | nil => cases hlen
    | cons n r => exact ⟨n, r, rfl⟩
  obtain ⟨v₀, vr, rfl, t₀, rfl, hir⟩ : ∃ v vr, vs = v :: vr ∧ ∃ t, v = .int n₀ t ∧ IntsAre vr r := by
    cases hi with
    | cons n t h => exact ⟨_, _, rfl, _, rfl, h⟩
  have hrl : r.length = 3 := by simpa using hlen
  have sm₀ := hsm n₀ (List.mem_cons_self ..)
  have hnl₀ : h₀.IsList nl (.int n₀ t₀ :: vr).toArray := hnl.at fun ob q => hk nl ob q
  refine wpAny_execs_cons (swap2 e hh' rfl rfl rfl (by rw [henv]; rfl) (wpAny_BinOp (ld e hn rfl (strOfI e g₀ rfl rfl (item0 e hn rfl hnl₀ rfl rfl ⟨_, _, rfl, sm₀, ?_⟩)))))
  refine addS ?_ fun t₁ k₁ => ?_
  · have := (dg_len n₀ sm₀).1
    have : (Str.ofString (toString n₀)).length ≤ 3 := by simpa [dg, Str.length] using this
    omega
  refine wpAny_Constant_int ⟨_, hn, fun h₁ k₂ hn₁ hk₁ => ?_⟩
  dsimp only at hk₁ ⊢
  have o₁ : Ok w s ⟨h₁, s.gens, s.drawn, k₂, s.os⟩ := o₀.heap fun b ob hb q => hk₁ b ob (fun z => hb (z ▸ hL0)) q
  refine wpAny_execs_cons ?_
  have tx0 : (a ++ Str.ofString (toString n₀)).cps.toList = a.cps.toList ++ dg n₀ := by simp [Str.cps_append, dg]
  have hP : lawText (n₀ :: r) cs a.cps.toList = textGo (r.zip cs) (a.cps.toList ++ dg n₀) 0 := rfl
  have hal : a.cps.toList.length = a.length := by simp [Str.length]
  refine for_zip e hh' rfl rfl rfl rfl rfl rfl rfl o₁ hL0 hn₁ rfl rfl hnl hcl (by have := IntsAre.length hir; simp; omega)
    (fun i l _ => ∃ t d u v, l.lookup (Str.ofString "text") = some (.str t u) ∧ l.lookup (Str.ofString "depth") = some (.int d v) ∧ lawText (n₀ :: r) cs a.cps.toList = textGo ((r.drop i).zip (cs.drop i)) t.cps.toList d ∧ t.length ≤ 20 + 10 * i ∧ -(2 * (i : Int)) ≤ d ∧ d ≤ i)
    ⟨_, _, _, _, rfl, rfl, by rw [tx0]; exact hP, ?_, by simp, by simp⟩ (fun _ _ _ _ h _ => h) ?_ ?_
  · have := (dg_len n₀ sm₀).1
    have := congrArg List.length tx0
    simp [Str.length] at this ⊢
    simp [Str.length] at ha
    omega
  · rintro i l₁ u₁ u₂ s₁ hu₁ hu₂ ⟨t, d, ut, ud, ht, hd, heq, htl, hd1, hd2⟩ oo hn₂ hg
    obtain ⟨n, tn, rfl, hdr⟩ := ints_at hir (by simpa using hu₁)
    obtain ⟨m, tm, rfl, hdc⟩ := ints_at hc hu₂
    have hi3 : i < 3 := by
      rcases Nat.lt_or_ge i 3 with h | h
      · exact h
      · rw [List.drop_of_length_le (by omega)] at hdr; cases hdr
    have smn : small n := hsm n (List.mem_cons_of_mem _ (List.mem_of_mem_drop (hdr ▸ List.mem_cons_self ..)))
    have hm := hcs m (List.mem_of_mem_drop (hdc ▸ List.mem_cons_self ..))
    have dl := (dg_len n smn).1
    have dl' : (Str.ofString (toString n)).length = (dg n).length := by simp [dg, Str.length]
    have pl : (Str.mk (par m).toArray).length = m.toNat := by simp [Str.length, par]
    refine wpAny_execs_cons (swap2 e hh' rfl rfl rfl (by rw [henv]; rfl) (wpAny_BinOp (wpAny_BinOp (wpAny_BinOp (ld e hn₂ ht (wpAny_BinOp (wpAny_Constant_str (ld e hn₂ rfl (SB.mul (mulOk (by omega) (by omega)) fun t₃ k₃ => ?_)))))))))
    rw [mul_par]
    refine addS (by rw [pl]; omega) fun t₄ k₄ => wpAny_Constant_str (addS ?_ fun t₅ k₅ => ?_)
    · rw [Str.length_append, pl, show (Str.ofString "(").length = 1 by decide +kernel]; omega
    refine strOfI e oo.gr rfl rfl (ld e hn₂ rfl ⟨n, tn, rfl, smn, ?_⟩)
    refine addS ?_ fun t₆ k₆ => ?_
    · rw [Str.length_append, Str.length_append, pl, dl', show (Str.ofString "(").length = 1 by decide +kernel]; omega
    refine wpAny_BinOp (wpAny_BinOp (ld e hn₂ hd (ld e hn₂ rfl (sub_int (wpAny_Constant_int (add_int ⟨_, hn₂, fun h₇ k₇ hn₇ hk₇ => ?_⟩))))))
    refine wpAny_execs_nil ⟨rfl, _, hn₇, ⟨_, _, _, _, rfl, rfl, ?_, ?_, by omega, by omega⟩, oo.heap fun b ob hb q => hk₇ b ob (fun z => hb (z ▸ hL0)) q, hg, hk₇⟩
    · rw [heq, hdr, hdc]
      show textGo (r.drop (i + 1) |>.zip (cs.drop (i + 1))) (t.cps.toList ++ par m ++ [40] ++ dg n) (d - m + 1) = _
      congr 1
      have hp : (Str.ofString "(").cps.toList = [40] := by decide +kernel
      simp [Str.cps_append, dg, hp]
    · rw [Str.length_append, Str.length_append, Str.length_append, pl, dl', show (Str.ofString "(").length = 1 by decide +kernel]; omega
  · rintro l' s' ⟨t, d, ut, ud, ht, hd, heq, htl, hd1, hd2⟩ oo hn₂ hg
    have hz : (r.drop (min ((Value.int n₀ t₀ :: vr).length - 1) us.length)).zip (cs.drop (min ((Value.int n₀ t₀ :: vr).length - 1) us.length)) = [] := by
      have h1 := IntsAre.length hir
      have h2 := IntsAre.length hc
      simp only [List.length_cons, Nat.add_sub_cancel]
      rcases Nat.le_total vr.length us.length with h | h
      · rw [Nat.min_eq_left h, List.drop_of_length_le (l := r) (by omega)]; rfl
      · rw [Nat.min_eq_right h, List.drop_of_length_le (l := cs) (by omega), List.zip_nil_right]
    rw [hz] at heq
    have h1 := IntsAre.length hir
    have hm3 : min ((Value.int n₀ t₀ :: vr).length - 1) us.length ≤ 3 := by simp; omega
    generalize min ((Value.int n₀ t₀ :: vr).length - 1) us.length = N at *
    refine wpAny_execs_cons (wpAny_Return_some (wpAny_BinOp (ld e hn₂ ht (wpAny_BinOp (wpAny_Constant_str (ld e hn₂ hd (SB.mul (mulOk (by omega) (by omega)) fun t₃ k₃ => ?_)))))))
    rw [mul_par]
    have pl : (Str.mk (par d).toArray).length = d.toNat := by simp [Str.length, par]
    refine addS (by rw [pl]; omega) fun t₄ k₄ => ?_
    dsimp only
    have : t ++ (Str.mk (par d).toArray) = ⟨(lawText (n₀ :: r) cs a.cps.toList).toArray⟩ := by
      apply Str.ext'
      apply Array.toList_inj.mp
      show _ = lawText (n₀ :: r) cs a.cps.toList
      rw [heq]
      simp [Str.cps_append, textGo]
    rw [this]
    exact hQ _ _ oo.tok
end
end Mine
end

section
namespace Mine
open PySem PySem.W PyProof.Rows PySem.Calls

def txt' (l : List Nat) : Str := ⟨l.toArray⟩
def ranksGo : List (Int × Int) → List Cel
  | [] => []
  | (n, m) :: r => [.num 0, .txt (txt' (par m ++ [40])), .num 100, .num n] ++ ranksGo r
def lawRanks (ns cs : List Int) (a : Str) : List Cel :=
  (if a.cps.toList != [] then [.num 0, .txt a] else []) ++ [.num 100, .num (ns.headD 0)] ++ ranksGo (ns.tail.zip cs) ++ [.num 0, .txt (txt' (par (3 - cs.sum)))]

section
variable {prog : Program} {w : World} {A : Around} {E : Value → Shared → Prop} {s : Shared}
/-- two lists in a row -/
theorem addL {l b : Addr} {vs ws : List Value} {Q : Value → Shared → Prop} (hl : s.heap.IsList l vs.toArray) (hb : s.heap.IsList b ws.toArray) (hsz : vs.length + ws.length ≤ 10000)
    (h : Q (.ref s.heap.objs.size) { s with heap := s.heap.push { cls := .type "list", data := .seq (vs ++ ws).toArray } }) :
    wpAny (model prog w) A (binaryOp .Add (.ref l) (.ref b)) Q E s := by
  obtain ⟨⟨cls, dd, data, sl⟩, ho, hc, n, hd⟩ := id hl
  obtain ⟨⟨cls2, dd2, data2, sl2⟩, ho2, hc2, n2, hd2⟩ := id hb
  simp only at hc hd hc2 hd2
  subst hc hd hc2 hd2
  have e : vs.toArray ++ ws.toArray = (vs ++ ws).toArray := by simp
  refine concat_meets ⟨_, ho, rfl⟩ ⟨_, ho2, rfl⟩ noFill_list_add seq_list_add PySem.F.slot_list_add PySem.F.entry_list_add (PySem.F.args_list_add_2 _ _) (list_addW l b vs.toArray ws.toArray n n2 dd dd2 sl sl2 (by rw [sizeLine_eq]; simp; omega)) ⟨ho, ho2, ?_⟩
  rw [e]
  exact h
/-- sum of a list of ints -/
theorem sumL {l : Addr} {vs : List Value} {ns : List Int} {Q : Value → Shared → Prop} (hh : A.handled = none) (hl : s.heap.IsList l vs.toArray) (hi : IntsAre vs ns)
    (h : ∀ h' tk t', (∀ b o, s.heap.get? b = some o → h'.get? b = some o) → Q (.int ns.sum t') { s with heap := h', toks := tk }) :
    wpAny (model prog w) A (call (.builtin "sum") [.ref l]) Q E s := by
  obtain ⟨xs, hxs⟩ := hi.allInts.items
  have hn := hi.numsOf
  rw [hxs] at hl
  refine sum_intListG hh hl fun h' tk t' hk => ?_
  have := h h' tk t' hk
  rw [← hn] at this
  rw [preSum_eq, List.take_of_length_le (by simp)]
  have e2 : numsOf vs = numsOf (intItems xs).toList := by rw [← hxs]
  rw [e2, nums_intItems] at this
  exact this

theorem cels_ranks : ∀ {ps : List (Int × Int)}, (ranksGo ps).length = 4 * ps.length
  | [] => rfl
  | (n, m) :: r => by simp [ranksGo, cels_ranks (ps := r)]; omega

theorem isl_push {h : Heap} {vs : List Value} : (h.push { cls := .type "list", data := .seq vs.toArray }).IsList h.objs.size vs.toArray := ⟨_, Heap.get?_push_size _ rfl, rfl, 0, rfl⟩
theorem plain_push {h : Heap} {vs : List Value} : (h.push { cls := .type "list", data := .seq vs.toArray }).PlainList h.objs.size vs.toArray := ⟨0, Heap.get?_push_size _ rfl⟩

set_option maxHeartbeats 2000000 in
/-- _law_ranks -/
theorem law_ranks {nl cl : Addr} {vs us : List Value} {ns cs : List Int} {a : Str} {ta : Tok} {Q : Value → Shared → Prop} (g : Gr w s.heap) (hh : A.handled = none) (hroom : A.depth < recursionLimit)
    (hnl : s.heap.IsList nl vs.toArray) (hcl : s.heap.IsList cl us.toArray) (hi : IntsAre vs ns) (hc : IntsAre us cs) (hlen : ns.length = 4) (hcs : ∀ m ∈ cs, 0 ≤ m ∧ m ≤ 2) (hsum : -100 ≤ 3 - cs.sum ∧ 3 - cs.sum ≤ 100)
    (hQ : ∀ s' r ws, Ok w s s' → s.heap.get? r = none → s'.heap.PlainList r ws.toArray → CelsAre ws (lawRanks ns cs a) → s'.gens = s.gens → Q (.ref r) s') :
    wpAny (model prog w) A (call (.ref 93) [.ref nl, .ref cl, .str a ta]) Q E s := by
  refine call_in2 (binds := [(Str.ofString "numbers", .ref nl), (Str.ofString "closings", .ref cl), (Str.ofString "ahead", .str a ta)]) g rfl rfl hroom rfl (BindsTo.of_eq rfl) (by decide) (locs rfl) rfl rfl rfl rfl rfl (fun h₀ L env A' henv e hA hL hn hk g₀ => ?_)
  have hL0 : s.heap.get? L = none := hL ▸ get_size _
  have hh' : A'.handled = none := hA.handled.trans hh
  have o₀ : Ok w s { s with heap := h₀, toks := s.toks + 3 } := (Ok.refl g).keep hk
  obtain ⟨n₀, r, rfl⟩ : ∃ n r, ns = n :: r := by
    cases ns with
    | nil => cases hlen
    | cons n r => exact ⟨n, r, rfl⟩
  obtain ⟨v₀, vr, rfl, t₀, rfl, hir⟩ : ∃ v vr, vs = v :: vr ∧ ∃ t, v = .int n₀ t ∧ IntsAre vr r := by
    cases hi with
    | cons n t h => exact ⟨_, _, rfl, _, rfl, h⟩
  have hrl : r.length = 3 := by simpa using hlen
  have hnl₀ : h₀.IsList nl (.int n₀ t₀ :: vr).toArray := hnl.at fun ob q => hk nl ob q
  have hLl : L < h₀.objs.size := hn.lt
  -- ranks = .. + ..
  have head : ∀ (s₁ : Shared) (ws : List Value) (cc : List Cel) (b : Addr), s₁.heap.IsList b ws.toArray → CelsAre ws cc → cc.length ≤ 2 → (∀ c o, s₁.heap.get? c = some o → s₁.heap.get? c = some o) → s₁.heap.Ns L (mp [(Str.ofString "ahead", .str a ta), (Str.ofString "closings", .ref cl), (Str.ofString "numbers", .ref nl)]) →
      s₁.heap.IsList nl (.int n₀ t₀ :: vr).toArray → Ok w s s₁ → s₁.gens = s.gens → b < s₁.heap.objs.size →
      cc ++ [.num 100, .num n₀] ++ ranksGo (r.zip cs) ++ [.num 0, .txt (txt' (par (3 - cs.sum)))] = lawRanks (n₀ :: r) cs a →
      wpAny (model prog w) A' (eval (.List [.Constant (.int 100) 0 ⟨93, 51, 93, 54⟩, .Subscript (.Name (Str.ofString "numbers") ⟨93, 56, 93, 63⟩) (.Constant (.int 0) 0 ⟨93, 64, 93, 65⟩) ⟨93, 56, 93, 66⟩] ⟨93, 50, 93, 67⟩) env)
        (fun v s₂ => wpAny (model prog w) A' (binaryOp .Add (.ref b) v) (fun v s₃ => ∃ x ws c, v = .ref x ∧ s₃.heap.PlainList x ws.toArray ∧ CelsAre ws c ∧ c.length ≤ 4 ∧ c ++ ranksGo (r.zip cs) ++ [.num 0, .txt (txt' (par (3 - cs.sum)))] = lawRanks (n₀ :: r) cs a ∧
          s₃.heap.Ns L (mp [(Str.ofString "ahead", .str a ta), (Str.ofString "closings", .ref cl), (Str.ofString "numbers", .ref nl)]) ∧ Ok w s s₃ ∧ s₃.gens = s.gens ∧ x ≠ L ∧ s.heap.get? x = none) (fun _ _ => False) s₂) (fun _ _ => False) s₁ := by
    intro s₁ ws cc b hb hcc hcl2 _ hn₁ hnl₁ o₁ hg hbl heq
    refine wpAny_List (wpAny_items_cons (wpAny_Constant_int (wpAny_items_cons (item0 e hn₁ rfl hnl₁ rfl rfl (wpAny_items_nil ⟨by rw [sizeLine_eq]; show 2 ≤ 16777216; decide, ?_⟩)))))
    have hwl := hcc.length
    refine addL (hb.push _) isl_push (by simp; omega) ⟨_, _, cc ++ [.num 100, .num n₀], rfl, plain_push, hcc.append (.num 100 _ (.num n₀ t₀ .nil)), by simp; omega, heq, (hn₁.push _).push _, ((o₁.push _).push _), hg, ?_, ?_⟩
    · exact Nat.ne_of_gt (hn₁.push _).lt
    · exact ((o₁.push (t := 0) { cls := .type "list", data := .seq [Value.int 100 s₁.toks, .int n₀ t₀].toArray })).fresh
  refine wpAny_execs_cons (wpAny_Assign_Name (wpAny_mono (Q := fun v s₃ => ∃ x ws c, v = .ref x ∧ s₃.heap.PlainList x ws.toArray ∧ CelsAre ws c ∧ c.length ≤ 4 ∧ c ++ ranksGo (r.zip cs) ++ [.num 0, .txt (txt' (par (3 - cs.sum)))] = lawRanks (n₀ :: r) cs a ∧
          s₃.heap.Ns L (mp [(Str.ofString "ahead", .str a ta), (Str.ofString "closings", .ref cl), (Str.ofString "numbers", .ref nl)]) ∧ Ok w s s₃ ∧ s₃.gens = s.gens ∧ x ≠ L ∧ s.heap.get? x = none) (E := fun _ _ => False)
    (wpAny_BinOp (wpAny_IfExp (wpAny_isTrue_Compare1 (ld e hn rfl (wpAny_Constant_str (P.ne_str (wpAny_truthy_bool ?_))))))) ?_ fun _ _ z => z))
  · rw [show (Str.ofString "").cps.toList = [] by decide +kernel]
    by_cases ha : a.cps.toList = []
    · rw [ha, show (([] : List Nat) != []) = false from rfl, if_neg Bool.false_ne_true]
      refine wpAny_List (wpAny_items_nil ⟨by decide, ?_⟩)
      exact head _ [] [] _ isl_push .nil (by simp) (fun _ _ z => z) (hn.push _) (hnl₀.push _) (o₀.push _) rfl (by rw [Heap.size_push]; exact Nat.lt_succ_self _) (by simp [lawRanks, ha])
    · rw [show (a.cps.toList != []) = true by simpa using ha, if_pos rfl]
      refine wpAny_List (wpAny_items_cons (wpAny_Constant_int (wpAny_items_cons (ld e hn rfl (wpAny_items_nil ⟨by rw [sizeLine_eq]; show 2 ≤ 16777216; decide, ?_⟩)))))
      exact head _ _ [.num 0, .txt a] _ isl_push (.num 0 _ (.txt a ta .nil)) (by simp) (fun _ _ z => z) (hn.push _) (hnl₀.push _) (o₀.push _) rfl (by rw [Heap.size_push]; exact Nat.lt_succ_self _) (by simp [lawRanks, ha])
  rintro v s₃ ⟨x, ws, c, rfl, hx, hcc, hc4, heq, hn₃, o₃, hg₃, hxL, hx0⟩
  refine st e hn₃ fun h₄ hn₄ hs₄ => ?_
  dsimp only at hs₄ ⊢
  have o₄ : Ok w s ⟨h₄, s₃.gens, s₃.drawn, s₃.toks + 1, s₃.os⟩ := o₃.upd hs₄.extBut hL0
  refine wpAny_execs_cons ?_
  refine for_zip e hh' rfl rfl rfl rfl rfl rfl rfl o₄ hL0 hn₄ rfl rfl hnl hcl (by have := IntsAre.length hir; simp; omega)
    (fun i l h => l.lookup (Str.ofString "closings") = some (.ref cl) ∧ ∃ x ws c, l.lookup (Str.ofString "ranks") = some (.ref x) ∧ h.PlainList x ws.toArray ∧ CelsAre ws c ∧ c.length ≤ 4 + 4 * i ∧ c ++ ranksGo ((r.drop i).zip (cs.drop i)) ++ [.num 0, .txt (txt' (par (3 - cs.sum)))] = lawRanks (n₀ :: r) cs a ∧ x ≠ L)
    ⟨rfl, x, ws, c, rfl, hx.at fun o q => hs₄.extBut x o hxL q, hcc, by omega, heq, hxL⟩ ?_ ?_ ?_
  · rintro i l h h' ⟨hlc, x, ws, c, h1, ⟨n, h2⟩, h3⟩ hk
    exact ⟨hlc, x, ws, c, h1, ⟨n, hk x _ h3.2.2.2 rfl h2⟩, h3⟩
  · rintro i l₁ u₁ u₂ s₁ hu₁ hu₂ ⟨hlc, x, ws, c, hlx, hx, hcc, hcl4, heq, hxL⟩ oo hn₂ hg
    obtain ⟨n, tn, rfl, hdr⟩ := ints_at hir (by simpa using hu₁)
    obtain ⟨m, tm, rfl, hdc⟩ := ints_at hc hu₂
    have hi3 : i < 3 := by
      rcases Nat.lt_or_ge i 3 with h | h
      · exact h
      · rw [List.drop_of_length_le (by omega)] at hdr; cases hdr
    have hm := hcs m (List.mem_of_mem_drop (hdc ▸ List.mem_cons_self ..))
    have pl : (Str.mk (par m).toArray).length = m.toNat := by simp [Str.length, par]
    refine wpAny_execs_cons (wpAny_Assign_Name (wpAny_BinOp (ld e hn₂ hlx (wpAny_List (wpAny_items_cons (wpAny_Constant_int (wpAny_items_cons (wpAny_BinOp (wpAny_BinOp (wpAny_Constant_str (ld e hn₂ rfl (SB.mul (mulOk (by omega) (by omega)) fun t₃ k₃ => ?_))))))))))))
    rw [mul_par]
    refine wpAny_Constant_str (addS ?_ fun t₅ k₅ => ?_)
    · rw [pl, show (Str.ofString "(").length = 1 by decide +kernel]; omega
    have ep : Str.mk (par m).toArray ++ Str.ofString "(" = txt' (par m ++ [40]) := by
      apply Str.ext'
      apply Array.toList_inj.mp
      have hp : (Str.ofString "(").cps.toList = [40] := by decide +kernel
      simp [Str.cps_append, txt', hp]
    rw [ep]
    refine wpAny_items_cons (wpAny_Constant_int (wpAny_items_cons (ld e hn₂ rfl (wpAny_items_nil ⟨by rw [sizeLine_eq]; show 4 ≤ 16777216; decide, ?_⟩))))
    have hwl := hcc.length
    have hr4 : (ws.length : Nat) ≤ 100 := by omega
    refine addL (hx.isList.push _) isl_push (by simp; omega) ?_
    refine st e ((hn₂.push _).push _) fun h₇ hn₇ hs₇ => ?_
    dsimp only at hs₇ ⊢
    have hL2 : L < s₁.heap.objs.size := hn₂.lt
    refine wpAny_execs_nil ⟨rfl, _, hn₇, ⟨hlc, _, _, c ++ [.num 0, .txt (txt' (par m ++ [40])), .num 100, .num n], rfl, plain_push.at fun o q => hs₇.extBut _ o (Nat.ne_of_gt (hn₂.push _).lt) q, hcc.append (.num 0 _ (.txt _ _ (.num 100 _ (.num n tn .nil)))), by simp; omega, ?_, Nat.ne_of_gt (hn₂.push _).lt⟩,
      ((oo.push (t := 0) _).push (t := 0) _).upd hs₇.extBut hL0, hg, fun b ob hb q => hs₇.extBut b ob hb (Heap.get?_push_of_some _ (Heap.get?_push_of_some _ q))⟩
    rw [← heq, hdr, hdc]
    simp [ranksGo]
  · rintro l' s' ⟨hlc, x, ws, c, hlx, hx, hcc, hcl4, heq, hxL⟩ oo hn₂ hg
    have hz : (r.drop (min ((Value.int n₀ t₀ :: vr).length - 1) us.length)).zip (cs.drop (min ((Value.int n₀ t₀ :: vr).length - 1) us.length)) = [] := by
      have h1 := IntsAre.length hir
      have h2 := IntsAre.length hc
      simp only [List.length_cons, Nat.add_sub_cancel]
      rcases Nat.le_total vr.length us.length with h | h
      · rw [Nat.min_eq_left h, List.drop_of_length_le (l := r) (by omega)]; rfl
      · rw [Nat.min_eq_right h, List.drop_of_length_le (l := cs) (by omega), List.zip_nil_right]
    rw [hz] at heq
    have h1 := IntsAre.length hir
    have hm3 : min ((Value.int n₀ t₀ :: vr).length - 1) us.length ≤ 3 := by simp; omega
    generalize min ((Value.int n₀ t₀ :: vr).length - 1) us.length = N at *
    have hcl' : s'.heap.IsList cl us.toArray := hcl.at fun o q => oo.ext cl o (not46 g hcl) q
    refine wpAny_execs_cons (wpAny_Return_some (wpAny_BinOp (ld e hn₂ hlx (wpAny_List (wpAny_items_cons (wpAny_Constant_int (wpAny_items_cons (wpAny_BinOp (wpAny_Constant_str (wpAny_BinOp (wpAny_Constant_int (callB1 e oo.gr rfl rfl rfl rfl (by decide) (by decide) (ld e hn₂ hlc (sumL hh' hcl' hc fun h₃ k₃ t₃ hk₃ => ?_))))))))))))))
    dsimp only at hk₃ ⊢
    refine sub_int ?_
    refine SB.mul (mulOk hsum.1 hsum.2) fun t₄ k₄ => ?_
    rw [mul_par]
    refine wpAny_items_nil ⟨by rw [sizeLine_eq]; show 2 ≤ 16777216; decide, ?_⟩
    have hwl := hcc.length
    refine addL ((hx.isList.at fun o q => hk₃ x o q).push _) isl_push (by simp; omega) ?_
    dsimp only
    have o₅ : Ok w s ⟨h₃.push { cls := .type "list", data := .seq [Value.int 0 s'.toks, .str ⟨(par (3 - cs.sum)).toArray⟩ t₄].toArray }, s'.gens, s'.drawn, k₄, s'.os⟩ := (oo.keep (t := 0) hk₃).push _
    refine hQ _ _ _ (o₅.push _) o₅.fresh plain_push ?_ (hg.trans hg₃)
    rw [← heq]
    show CelsAre _ (c ++ [] ++ _)
    rw [List.append_nil]
    exact hcc.append (.num 0 s'.toks (.txt (txt' (par (3 - cs.sum))) t₄ .nil))
end
end Mine
end

section
namespace Mine
open PySem PySem.W PyProof.Rows PySem.Calls
open Sem (wp)

abbrev scp (names : List (Str × NameKind)) : Scope := { kind := .function, names := names, isGenerator := false, isCoroutine := false, more := [] }

section
variable {prog : Program} {w : World} {A : Around} {E : Value → Shared → Prop} {S s s₂ : Shared} {env : Env} {F : Addr} {l cm : List (Str × Value)}

theorem LS.val {n : Str} {c : Addr} {v : Value} (x : LS w S env F l cm s) (V : LV env F) (hc : (lawCells F).lookup n = some c) (hv : cm.lookup n = some v) : s.heap.IsCell c (some v) := by
  have := x.cell n c (by rw [V.cells]; exact hc)
  rwa [hv] at this

/-- a comprehension of the law's -/
theorem R.lcomp {elt target iter : PySem.Expr} {ifs : List PySem.Expr} {names : List (Str × NameKind)} {cl : List (Str × Addr)} {pos : Pos} {Q : Value → Shared → Prop} (V : LV env F) (ls : LS w S env F l cm s) (hcl : clOf (lawCells F) names [] = some cl)
    (hcell : ∀ y ∈ names, y.2 ≠ .cell) (hnames : ∀ x ∈ names, x.2 = .local → names.lookup x.1 = some .local)
    (h : wpR (model prog w) A (eval iter env) (fun xv s₁ => wpAny (model prog w) A (pyIter xv) (fun it s₂ => ∃ (I : Addr) (n : Nat) (P : Nat → Value → Heap → Prop) (f : Nat → Option PyData) (B : Nat → List (Str × Value) → Prop), it = .ref I ∧ Src prog w A target F s s₂ I n P ∧ Lt w F s s₂ ∧ n ≤ 1000 ∧
      (∀ C i v s₃ l, i < n → P i v s₃.heap → s₃.heap.Ns C (mp l) → wpAny (model prog w) A (assign target (compEnvC (scp names) cl C env) v) (fun _ s₄ => (∀ b o, b ≠ C → s₃.heap.get? b = some o → s₄.heap.get? b = some o) ∧ s₄.gens = s₃.gens ∧ s₄.os = s₃.os ∧
        ∃ l', s₄.heap.Ns C (mp l') ∧ B i l') (fun _ _ => False) s₃) ∧
      (∀ C i s₄ l', i < n → Ev (compEnvC (scp names) cl C env) C (relNames lawNs names) → s.heap.get? C = none → LS w S env F l cm s₄ → (∀ u d, Kn (XX env F) s.heap u d → Kn (XX env F) s₄.heap u d) → s₄.heap.Ns C (mp l') → B i l' → wpR (model prog w) A (testsOf ifs (compEnvC (scp names) cl C env)) (fun ok s₅ => ok = (f i).isSome ∧ Lt w F s₄ s₅ ∧
        ∀ d, f i = some d → wpR (model prog w) A (eval elt (compEnvC (scp names) cl C env)) (fun y s₆ => Lt w F s₅ s₆ ∧ ∃ as, Rd s₆.heap y d as ∧ ∀ a ∈ as, s₅.heap.get? a = none) (fun _ _ => False) s₅) (fun _ _ => False) s₄) ∧
      (∀ s' r, LS w S env F l cm s' → Lt w F s s' → (∀ u d, Kn (XX env F) s.heap u d → Kn (XX env F) s'.heap u d) → Kn (XX env F) s'.heap (.ref r) (.list ((List.range n).filterMap f)) → Q (.ref r) s')) E s₁) E s)
    (hs : ∀ x, foldedSetIterable iter env x = Pure.pure x := by intro _; rfl) :
    wpR (model prog w) A (eval (.ListComp elt [⟨target, iter, ifs, 0⟩] (scp names) pos) env) Q E s := by
  refine R.listComp (clos_of (by rw [V.cells]; exact hcl)) ls.F0 V.le.F46 hcell rfl hnames (R.mono h (fun xv s₁ h₁ => wpAny_mono h₁ (fun it s₂ h₂ => ?_) fun _ _ z => z) fun _ _ z => z) hs
  obtain ⟨I, n, P, f, B, h1, h2, h3, h4, h5, h6, h7⟩ := h₂
  refine ⟨I, n, P, f, B, h1, h2, h3, h4, h5, fun C i s₄ l' hi hC lt hn hB => h6 C i s₄ l' hi (V.le.e.comp rfl) hC (ls.lt V.le lt) (fun u d k => lt.kn' k) hn hB, fun s' r as lt hr has => ?_⟩
  exact h7 s' r (ls.lt V.le lt) lt (fun u d k => lt.kn' k) (ls.learn V.le hr has)

theorem Src.base {target : PySem.Expr} {s₁ : Shared} {I : Addr} {n : Nat} {P : Nat → Value → Heap → Prop} (h : Src prog w A target F s₁ s₂ I n P) (lt : Lt w F s s₁) : Src prog w A target F s s₂ I n P := by
  obtain ⟨fp, wr, Md, St, W, hst, hwr, h1⟩ := h
  exact ⟨fp, wr, Md, St, W, hst, fun b hb => lt.gone (hwr b hb), h1⟩
/-- enumerate over a fresh list -/
theorem Src.enum {x y : Str} {px py pos : Pos} {k : Nat} {e it ax : Addr} {vs : List Value} {s₁ : Shared} {Q : Value → Shared → Prop} (hh : A.handled = none) (hF0 : s.heap.get? F ≠ none) (h46 : s.heap.get? 46 ≠ none)
    (he : IsEnum s₁.heap e it 0 .none) (hi : s₁.heap.IsListIter it ax 0) (hl : s₁.heap.IsList ax vs.toArray) (n1 : e ≠ it) (n2 : ax ≠ e) (n3 : ax ≠ it) (f1 : s.heap.get? e = none) (f2 : s.heap.get? it = none) (f3 : s.heap.get? ax = none)
    (h : Src prog w A (.Tuple [.Name x px, .Name y py] k pos) F s s₁ e vs.length (fun i v h => ∃ T, v = .ref T ∧ ∃ t u, vs[i]? = some u ∧ h.IsTuple T #[.int i t, u]) → Q (.ref e) s₁) : wpAny (model prog w) A (pyIter (.ref e)) Q E s₁ := by
  refine wpAny_pyIter_enum he (h ⟨[e, it, ax], [e, it], fun i v h => ∃ T vals, v = .ref T ∧ (∃ t x, vs.toArray[i]? = some x ∧ vals = #[.int i t, x]) ∧ h.IsTuple T vals ∧ ((∃ x, IsEnumOut h e it ((i : Int) + 1) x T) ∧ h.IsListIter it ax (i + 1) ∧ h.IsList ax vs.toArray ∧ T ≠ e ∧ T ≠ it),
    fun i h => (∃ old, IsEnum h e it i old) ∧ h.IsListIter it ax i ∧ h.IsList ax vs.toArray, ?_, ⟨⟨_, he⟩, hi, hl⟩, ?_, ?_, ?_, ?_⟩)
  · have W := KTurns.ofWalksU (elts := [.Name x px, .Name y py]) (k := k) (pos := pos) (WalksT.enumerate (prog := prog) (w := w) (A := A) hh e it ax n1 n2 n3 vs.toArray).toU
    have hsz : vs.toArray.size = vs.length := List.size_toArray ..
    rw [hsz] at W
    exact { sub := W.sub, frame := W.frame, item := W.item, done := W.done, go := fun i v s Q E hm hQ => W.go i v s Q E hm fun h' hP => hQ h' (by
      obtain ⟨T, vals, rfl, ⟨t, x, hx, rfl⟩, hT⟩ := hP
      exact ⟨T, rfl, t, x, by simpa using hx, hT⟩) }
  · intro b hb
    simp only [List.mem_cons, List.not_mem_nil, or_false] at hb
    rcases hb with rfl | rfl
    · exact f1
    · exact f2
  · rintro i h ⟨⟨_, q1⟩, ⟨_, q2, _⟩, ⟨_, q3, _⟩⟩ b hb
    simp only [List.mem_cons, List.not_mem_nil, or_false] at hb
    rcases hb with rfl | rfl | rfl
    · rw [q1]; simp
    · rw [q2]; simp
    · rw [q3]; simp
  · intro b hb
    simp only [List.mem_cons, List.not_mem_nil, or_false] at hb
    rcases hb with rfl | rfl | rfl
    · exact ⟨fun z => hF0 (z ▸ f1), fun z => h46 (z ▸ f1)⟩
    · exact ⟨fun z => hF0 (z ▸ f2), fun z => h46 (z ▸ f2)⟩
    · exact ⟨fun z => hF0 (z ▸ f3), fun z => h46 (z ▸ f3)⟩
  · exact fun s' Q st hQ => by
      obtain ⟨⟨old, q⟩, _⟩ := st
      exact wpAny_pyIter_enum q hQ
end

def ownOf (i : Nat) : Int := [9, 10, 100, 2].getD i 0
def numAt' (sc : List Int) (i : Nat) : Int := (ownOf i + (pickNums sc (some i) none (some 4)).sum).fmod 1000

abbrev nm1 : List (Str × NameKind) := [(Str.ofString ".0", .local), (Str.ofString "k", .local), (Str.ofString "own", .local), (Str.ofString "sum", .globalImplicit), (Str.ofString "script", .free)]

section
variable {prog : Program} {w : World} {A : Around} {E : Value → Shared → Prop} {S s : Shared} {env : Env} {F : Addr} {l cm : List (Str × Value)}
theorem swap_cell {value : PySem.Expr} {x : Str} {p : Pos} {n : Nat} {ns : List (Str × NameKind)} (e : Ev env F ns) (hl : ns.lookup x = some .cell) : swapsWith value (some (.Name x p)) n env = Pure.pure false := by
  have h : (ns.lookup x == some NameKind.local) = false := by rw [hl]; rfl
  unfold swapsWith
  cases value <;> first | rfl | simp [e.names, h]

set_option maxHeartbeats 1000000 in
/-- numbers = [..] -/
theorem st_numbers {p1 p2 p3 p4 p5 p6 p7 p8 p9 p10 p11 p12 p13 p14 p15 p16 p17 p18 p19 p20 p21 p22 p23 p24 : Pos} {k1 k2 k3 k4 k5 k6 k7 : Nat} {ax : Addr} {vs : List Value} {sc : List Int} {Q : Flow → Shared → Prop}
    (V : LV env F) (ls : LS w S env F l cm s) (hh : A.handled = none) (hsc : cm.lookup (Str.ofString "script") = some (.ref ax)) (hax : S.heap.IsList ax vs.toArray) (h46 : ax ≠ 46) (hi : IntsAre vs sc) (hlen : vs.length ≤ 63)
    (h : ∀ v s₂, LS w S env F l ((Str.ofString "numbers", v) :: cm) s₂ → Kn (XX env F) s₂.heap v (.list ((List.range 4).map fun i => .int (numAt' sc i))) → Q .next s₂) :
    wpR (model prog w) A (exec (.Assign [.Name (Str.ofString "numbers") p1] (.ListComp (.BinOp (.BinOp (.Name (Str.ofString "own") p2) .Add (.Call (.Name (Str.ofString "sum") p3) [.Subscript (.Name (Str.ofString "script") p4) (.Slice (some (.Name (Str.ofString "k") p5)) none (some (.Constant (.int 4) k1 p6)) p7) p8] [] p9) p10) .Mod (.Constant (.int 1000) k2 p11) p12)
      [⟨.Tuple [.Name (Str.ofString "k") p13, .Name (Str.ofString "own") p14] k3 p15, .Call (.Name (Str.ofString "enumerate") p16) [.List [.Constant (.int 9) k4 p17, .Constant (.int 10) k5 p18, .Constant (.int 100) k6 p19, .Constant (.int 2) k7 p20] p21] [] p22, [], 0⟩] (scp nm1) p23) p24) env) Q (fun _ _ => False) s := by
  refine R.setCell V.le ls rfl (c := F + 2) (by rw [V.cells]; rfl) (swap_cell V.le.e rfl) ?_
  refine R.lcomp V ls (cl := [(Str.ofString "script", F + 1)]) rfl (by decide) (by decide) ?_
  have g : Gr w s.heap := ls.gr.unrid
  have h460 : s.heap.get? 46 ≠ none := ls.lives V.le 46 X46
  refine R.of (callT1 V.le.e g (T := "enumerate") rfl rfl rfl rfl (by decide) (by decide) (wpAny_List (wpAny_items_cons (wpAny_Constant_int (wpAny_items_cons (wpAny_Constant_int (wpAny_items_cons (wpAny_Constant_int (wpAny_items_cons (wpAny_Constant_int (wpAny_items_nil ⟨by rw [sizeLine_eq]; show 4 ≤ 16777216; decide, ?_⟩)))))))))))
  dsimp only
  refine call_enumerate_list isl_push fun h₂ he hit hsz hk => ?_
  dsimp only at he hit hsz hk ⊢
  have e1 : ∀ (vs : List Value), (s.heap.push { cls := .type "list", data := .seq vs.toArray }).objs.size = s.heap.objs.size + 1 := fun _ => Heap.size_push ..
  rw [e1] at he hit hsz
  have up : ∀ b o, s.heap.get? b = some o → h₂.get? b = some o := fun b o q => hk b o (Heap.get?_push_of_some _ q)
  have gone : ∀ b, s.heap.objs.size ≤ b → s.heap.get? b = none := fun b hb => by
    cases q : s.heap.get? b with
    | none => rfl
    | some ob => exact absurd (Nat.lt_of_lt_of_le (Heap.lt_size q) hb) (Nat.lt_irrefl _)
  rw [e1]
  refine Src.enum (x := Str.ofString "k") (px := p13) (y := Str.ofString "own") (py := p14) (k := k3) (pos := p15) hh ls.F0 h460 he hit (isl_push.at fun o q => hk _ o q) (Nat.succ_ne_self _) ?_ ?_ (gone _ (Nat.le_add_right _ 2)) (gone _ (Nat.le_succ _)) (gone _ (Nat.le_refl _)) fun hsrc => ?_
  · exact Nat.ne_of_lt (Nat.lt_succ_of_lt (Nat.lt_succ_self _))
  · exact Nat.ne_of_lt (Nat.lt_succ_self _)
  refine ⟨_, 4, _, fun i => some (.int (numAt' sc i)), fun i l' => ∃ t u, l'.lookup (Str.ofString "k") = some (.int i t) ∧ l'.lookup (Str.ofString "own") = some (.int (ownOf i) u), rfl, hsrc, Lt.up ls.gr up, by decide, ?_, ?_, ?_⟩
  · rintro C i v s₃ l' hi4 ⟨T, rfl, t, u, hu, hT⟩ hn
    refine assign2 (V.le.e.comp rfl) hh hn hT rfl rfl fun h₄ tk₄ hn₄ hk₄ => ⟨hk₄, rfl, rfl, _, hn₄, t, ?_⟩
    have hi4' : i = 0 ∨ i = 1 ∨ i = 2 ∨ i = 3 := by omega
    rcases hi4' with rfl | rfl | rfl | rfl <;> (simp at hu; subst hu; exact ⟨_, rfl, rfl⟩)
  · rintro C i s₄ l' hi4 ec hC ls₄ hkn hn ⟨t, u, hk1, hk2⟩
    rw [tests_nil]
    refine R.pure ⟨rfl, Lt.refl ls₄.gr, fun d hd => ?_⟩
    cases hd
    have hax₄ : s₄.heap.IsList ax vs.toArray := hax.at fun o q => ls₄.old ax o h46 q
    refine R.of (wpAny_BinOp (wpAny_BinOp (ld ec hn hk2 (callB1 ec ls₄.gr.unrid rfl rfl rfl rfl (by decide) (by decide) ?_) rfl)))
    refine wpAny_Subscript_Slice_step (T := "list") list_getitem_lookup (ldc ec (c := F + 1) rfl (ls₄.val V rfl hsc) (wpAny_Slice (ld ec hn hk1 (wpAny_evalPart_none (wpAny_evalPart_some (wpAny_Constant_int ?_))) rfl)) rfl)
    refine ⟨(hax₄.push _).typeIs, wpAny_getItem_list_slice (hax₄.push _) (Heap.IsSliceOf.new ..) (.int i t) .none (.int 4 _) (by simp) ?_ (by rw [sizeLine_eq, List.size_toArray]; omega)⟩
    refine sumL hh (vs := (slicePick vs.toArray (some (i : Int)) none (some 4)).toList) (by
      rw [Array.toArray_toList]
      exact ⟨_, Heap.get?_push_size _ rfl, rfl, 0, rfl⟩) (hi.pick _ _ _) fun h₅ k₅ t₅ hk₅ => ?_
    refine add_int (wpAny_Constant_int (mod_int (by decide) ⟨?_, [], .int _ _, by simp⟩))
    exact Lt.up ls₄.gr fun b o q => hk₅ b o (Heap.get?_push_of_some _ (Heap.get?_push_of_some _ q))
  · intro s' r ls' lt' hkn hr
    exact ⟨ls', fun s₂ ls₂ hkn₂ => h _ s₂ ls₂ (hkn₂ _ _ (by
      have e : (List.range 4).filterMap (fun i => some (PyData.int (numAt' sc i))) = (List.range 4).map fun i => PyData.int (numAt' sc i) := by rfl
      rw [← e]; exact hr))⟩
end
end Mine
end

section
namespace Mine
open PySem PySem.W PyProof.Rows PySem.Calls
open Sem (wp)

section
variable {prog : Program} {w : World} {A : Around} {E : Value → Shared → Prop} {S s : Shared} {env : Env} {F : Addr} {l cm : List (Str × Value)}

theorem Lt.F0 {s' : Shared} (x : Lt w F s s') (h : s.heap.get? F ≠ none) : s'.heap.get? F ≠ none := by
  cases e : s.heap.get? F with
  | none => exact absurd e h
  | some o => obtain ⟨sl, q⟩ := x.fr o e; rw [q]; simp
/-- a comprehension over range(18) -/
theorem R.lcomp18 {elt : PySem.Expr} {ifs : List PySem.Expr} {names : List (Str × NameKind)} {cl : List (Str × Addr)} {pos px p1 p2 p3 : Pos} {k : Nat} {x : Str} {Q : Value → Shared → Prop} (V : LV env F) (ls : LS w S env F l cm s) (hh : A.handled = none) (hcl : clOf (lawCells F) names [] = some cl)
    (hcell : ∀ y ∈ names, y.2 ≠ .cell) (hnames : ∀ x ∈ names, x.2 = .local → names.lookup x.1 = some .local) (hx : (relNames lawNs names).lookup x = some .local) (f : Nat → Option PyData)
    (turn : ∀ C (i : Nat) t s₄ l', i < 18 → Ev (compEnvC (scp names) cl C env) C (relNames lawNs names) → s.heap.get? C = none → LS w S env F l cm s₄ → (∀ u d, Kn (XX env F) s.heap u d → Kn (XX env F) s₄.heap u d) → s₄.heap.Ns C (mp l') → l'.lookup x = some (.int (i : Int) t) → wpR (model prog w) A (testsOf ifs (compEnvC (scp names) cl C env)) (fun ok s₅ => ok = (f i).isSome ∧ Lt w F s₄ s₅ ∧
        ∀ d, f i = some d → wpR (model prog w) A (eval elt (compEnvC (scp names) cl C env)) (fun y s₆ => Lt w F s₅ s₆ ∧ ∃ as, Rd s₆.heap y d as ∧ ∀ a ∈ as, s₅.heap.get? a = none) (fun _ _ => False) s₅) (fun _ _ => False) s₄)
    (hQ : ∀ s' r, LS w S env F l cm s' → Lt w F s s' → (∀ u d, Kn (XX env F) s.heap u d → Kn (XX env F) s'.heap u d) → Kn (XX env F) s'.heap (.ref r) (.list ((List.range 18).filterMap f)) → Q (.ref r) s') :
    wpR (model prog w) A (eval (.ListComp elt [⟨.Name x px, .Call (.Name (Str.ofString "range") p1) [.Constant (.int 18) k p2] [] p3, ifs, 0⟩] (scp names) pos) env) Q E s := by
  refine R.lcomp V ls hcl hcell hnames (R.of (callT1 V.le.e ls.gr.unrid (T := "range") rfl rfl rfl rfl (by decide) (by decide) (wpAny_Constant_int (call_range_1 ?_))))
  have lt₁ : Lt w F s { s with heap := s.heap.push { cls := .type "range", data := .fields #[.int 0 (s.toks + 1), .int 18 s.toks, .int 1 (s.toks + 1 + 1)] }, toks := s.toks + 1 + 1 + 1 } := Lt.up ls.gr fun b o q => Heap.get?_push_of_some _ q
  refine Src.range18 (target := .Name x px) hh lt₁.gr (lt₁.F0 ls.F0) (IsRange.new ..) ⟨x, px, rfl⟩ fun s₂ I hsrc lt₂ => ?_
  refine ⟨I, 18, _, f, fun i l' => ∃ v, l'.lookup x = some v ∧ ∃ t, v = .int i t, rfl, hsrc.base lt₁, lt₁.trans lt₂, by decide, ?_, ?_, hQ⟩
  · exact asg1 (P := fun i v => ∃ t, v = .int i t) V.le.e rfl hx
  · rintro C i s₄ l' hi ec hC ls₄ hkn hn ⟨v, hv, t, rfl⟩
    exact turn C i t s₄ l' hi ec hC ls₄ hkn hn hv

def wayOf (j : Nat) : List Int := [(j / 9 : Nat), (j / 3 % 3 : Nat), (j % 3 : Nat)]
def aheadOf (j : Nat) : Str := [Str.ofString "", Str.ofString "\"(\"", Str.ofString "\\("].getD (j % 3) (Str.ofString "")
def intsD (l : List Int) : PyData := .list (l.map .int)
abbrev nmj : List (Str × NameKind) := [(Str.ofString ".0", .local), (Str.ofString "j", .local)]

theorem RdAll.ints {h : Heap} : ∀ {vs : List Value} {ns : List Int}, IntsAre vs ns → RdAll h vs (ns.map .int) []
  | _, _, .nil => .nil
  | _, _, .cons n t r => by
    have := RdAll.cons (.int n t) (RdAll.ints (h := h) r)
    simpa using this
def celD : Cel → PyData
  | .num n => .int n
  | .txt x => .str x
theorem RdAll.cels {h : Heap} : ∀ {vs : List Value} {cs : List Cel}, CelsAre vs cs → RdAll h vs (cs.map celD) []
  | _, _, .nil => .nil
  | _, _, .num n t r => by
    have := RdAll.cons (.int n t) (RdAll.cels (h := h) r)
    simpa [celD] using this
  | _, _, .txt x t r => by
    have := RdAll.cons (.str x t) (RdAll.cels (h := h) r)
    simpa [celD] using this
theorem RdAll.toInts {h : Heap} : ∀ {vs : List Value} {ns : List Int} {as : List Addr}, RdAll h vs (ns.map .int) as → IntsAre vs ns
  | _, [], _, .nil => .nil
  | _, n :: ns, _, .cons (.int _ t) r => .cons n t (RdAll.toInts r)
theorem all18 {p : Nat → Prop} [DecidablePred p] (h : ∀ i ∈ List.range 18, p i) : ∀ i, i < 18 → p i := fun i hi => h i (List.mem_range.mpr hi)

set_option maxHeartbeats 1000000 in
/-- ways = [..] -/
theorem st_ways {p1 p2 p3 p4 p5 p6 p7 p8 p9 p10 p11 p12 p13 p14 p15 p16 p17 p18 p19 : Pos} {k1 k2 k3 k4 k5 : Nat} {Q : Flow → Shared → Prop}
    (V : LV env F) (ls : LS w S env F l cm s) (hh : A.handled = none)
    (h : ∀ v s₂, LS w S env F l ((Str.ofString "ways", v) :: cm) s₂ → (∀ u d, Kn (XX env F) s.heap u d → Kn (XX env F) s₂.heap u d) → Kn (XX env F) s₂.heap v (.list ((List.range 18).map fun j => intsD (wayOf j))) → Q .next s₂) :
    wpR (model prog w) A (exec (.Assign [.Name (Str.ofString "ways") p1] (.ListComp (.List [.BinOp (.Name (Str.ofString "j") p2) .FloorDiv (.Constant (.int 9) k1 p3) p4, .BinOp (.BinOp (.Name (Str.ofString "j") p5) .FloorDiv (.Constant (.int 3) k2 p6) p7) .Mod (.Constant (.int 3) k3 p8) p9, .BinOp (.Name (Str.ofString "j") p10) .Mod (.Constant (.int 3) k4 p11) p12] p13)
      [⟨.Name (Str.ofString "j") p14, .Call (.Name (Str.ofString "range") p15) [.Constant (.int 18) k5 p16] [] p17, [], 0⟩] (scp nmj) p18) p19) env) Q (fun _ _ => False) s := by
  refine R.setCell V.le ls rfl (c := F + 3) (by rw [V.cells]; rfl) (swap_cell V.le.e rfl) ?_
  refine R.lcomp18 V ls hh (cl := []) rfl (by decide) (by decide) rfl (fun j => some (intsD (wayOf j))) ?_ ?_
  · intro C i t s₄ l' hi ec hC ls₄ hkn hn hj
    rw [tests_nil]
    refine R.pure ⟨rfl, Lt.refl ls₄.gr, fun d hd => ?_⟩
    cases hd
    refine R.of (wpAny_List (wpAny_items_cons (wpAny_BinOp (ld ec hn hj (wpAny_Constant_int (floordiv_int (by decide) ?_)) rfl))))
    refine wpAny_items_cons (wpAny_BinOp (wpAny_BinOp (ld ec hn hj (wpAny_Constant_int (floordiv_int (by decide) (wpAny_Constant_int (mod_int (by decide) ?_)))) rfl)))
    refine wpAny_items_cons (wpAny_BinOp (ld ec hn hj (wpAny_Constant_int (mod_int (by decide) (wpAny_items_nil ⟨by rw [sizeLine_eq]; show 3 ≤ 16777216; decide, ?_⟩))) rfl))
    refine ⟨Lt.up ls₄.gr fun b o q => Heap.get?_push_of_some _ q, [s₄.heap.objs.size], .list plain_push ?_, fun a ha => ?_⟩
    · have e : ((i : Int).fdiv 9 = ((i / 9 : Nat) : Int)) ∧ ((i : Int).fdiv 3).fmod 3 = ((i / 3 % 3 : Nat) : Int) ∧ (i : Int).fmod 3 = ((i % 3 : Nat) : Int) := by
        have : ∀ i ∈ List.range 18, ((i : Int).fdiv 9 = ((i / 9 : Nat) : Int)) ∧ ((i : Int).fdiv 3).fmod 3 = ((i / 3 % 3 : Nat) : Int) ∧ (i : Int).fmod 3 = ((i % 3 : Nat) : Int) := by decide
        exact this i (List.mem_range.mpr hi)
      rw [e.1, e.2.1, e.2.2]
      exact RdAll.ints (.cons _ _ (.cons _ _ (.cons _ _ .nil)))
    · simp only [List.mem_cons, List.not_mem_nil, or_false] at ha
      rw [ha]; exact get_size _
  · intro s' r ls' lt' hkn hr
    exact ⟨ls', fun s₂ ls₂ hkn₂ => h _ s₂ ls₂ (fun u d k => hkn₂ u d (hkn u d k)) (hkn₂ _ _ hr)⟩
end
end Mine
end

section
namespace Mine
open PySem PySem.W PyProof.Rows PySem.Calls
open Sem (wp)

theorem Kn.list {X : List Addr} {h : Heap} {v : Value} {ds : List PyData} (k : Kn X h v (.list ds)) : ∃ r vs as, v = .ref r ∧ h.PlainList r vs.toArray ∧ RdAll h vs ds as ∧ r ∉ X ∧ ∀ a ∈ as, a ∉ X := by
  obtain ⟨as, r, ha⟩ := k
  cases r with
  | list hl hr => exact ⟨_, _, _, rfl, hl, hr, ha _ (List.mem_cons_self ..), fun a hm => ha a (List.mem_cons_of_mem _ hm)⟩
theorem RdAll.kn {X : List Addr} {h : Heap} {vs : List Value} {ds : List PyData} {as : List Addr} (r : RdAll h vs ds as) (ha : ∀ a ∈ as, a ∉ X) {i : Nat} {d : PyData} (hd : ds[i]? = some d) : ∃ v, vs[i]? = some v ∧ Kn X h v d := by
  obtain ⟨v, bs, h1, h2, h3⟩ := RdAll.at r hd
  exact ⟨v, h1, bs, h2, fun b hb => ha b (h3 b hb)⟩
theorem Kn.str {X : List Addr} {h : Heap} {v : Value} {x : Str} (k : Kn X h v (.str x)) : ∃ t, v = .str x t := by obtain ⟨as, r, _⟩ := k; cases r; exact ⟨_, rfl⟩
theorem Kn.int {X : List Addr} {h : Heap} {v : Value} {x : Int} (k : Kn X h v (.int x)) : ∃ t, v = .int x t := by obtain ⟨as, r, _⟩ := k; cases r; exact ⟨_, rfl⟩
theorem Kn.bool {X : List Addr} {h : Heap} {v : Value} {x : Bool} (k : Kn X h v (.bool x)) : v = .bool x := by obtain ⟨as, r, _⟩ := k; cases r; rfl
theorem Kn.ints {X : List Addr} {h : Heap} {v : Value} {ns : List Int} (k : Kn X h v (intsD ns)) : ∃ r vs, v = .ref r ∧ h.PlainList r vs.toArray ∧ IntsAre vs ns ∧ r ∉ X := by
  obtain ⟨r, vs, as, h1, h2, h3, h4, _⟩ := k.list
  exact ⟨r, vs, h1, h2, h3.toInts, h4⟩

section
variable {prog : Program} {w : World} {A : Around} {E : Value → Shared → Prop} {S s : Shared} {env cenv : Env} {C F : Addr} {ns : List (Str × NameKind)} {l l' cm : List (Str × Value)}

/-- xs[j], xs in a cell -/
theorem itemC {nm j : Str} {c : Addr} {v : Value} {t : Tok} {i : Nat} {X : List Addr} {ds : List PyData} {d : PyData} {p1 p2 p3 : Pos} {Q : Value → Shared → Prop} (ec : Ev cenv C ns) (hc : cenv.cells.lookup nm = some c) (hv : s.heap.IsCell c (some v)) (hk : Kn X s.heap v (.list ds))
    (hn : s.heap.Ns C (mp l')) (hj : l'.lookup j = some (.int (i : Int) t)) (hd : ds[i]? = some d) (hi : i < 1000)
    (h : ∀ u, Kn X s.heap u d → Q u s) (hl1 : ns.lookup nm = some .cell := by rfl) (hl2 : ns.lookup j = some .local := by rfl) (hd1 : (nm == ("__debug__" : Str)) = false := by decide) (hd2 : (j == ("__debug__" : Str)) = false := by decide) :
    wpAny (model prog w) A (eval (.Subscript (.Name nm p1) (.Name j p2) p3) cenv) Q E s := by
  obtain ⟨r, vs, as, rfl, hl, hr, _, ha⟩ := hk.list
  obtain ⟨u, hu, ku⟩ := hr.kn ha hd
  refine wpAny_Subscript_Name_late (ldc ec hc hv (ld ec hn hj ⟨"list", _, slot_list_getitem.lookup, hl.isList.typeIs, getItem_listL hl.isList (by omega) (by omega) (by simpa using hu) (h u ku)⟩ hl2 hd2) hl1 hd1)

/-- an item of a thing that is let go -/
theorem itemT {value slice : PySem.Expr} {T id : String} {pos : Pos} {Q : Value → Shared → Prop} (hl : typeLookup (.type T) "__getitem__" = pure (some (.builtin id)))
    (hs : ∀ o i, subscripted slice false o i = operate [o, i] (getItem o i))
    (h : wpAny (model prog w) A (eval value cenv) (fun o s₁ => wpAny (model prog w) A (eval slice cenv) (fun i s₂ => s₂.TypeIs o T ∧ wpAny (model prog w) A (getItem o i) Q E s₂) E s₁) E s) :
    wpAny (model prog w) A (eval (.Subscript value slice pos) cenv) Q E s := by
  refine Subscript_ (wpAny_mono h (fun o s₁ h₁ => wpAny_mono h₁ (fun i s₂ h₂ => ?_) fun _ _ z => z) fun _ _ z => z)
  obtain ⟨hT, hg⟩ := h₂
  unfold subscriptTail
  refine wpAny_bind ?_
  rw [getitemInPython_of_ne hT.not_modules]
  refine wpAny_bind (wpAny_specialOf hT hl ?_)
  have fin : wpAny (model prog w) A (subscripted slice false o i) (fun r s₃ => wpAny (model prog w) A (letTemporaryGo value o r >>= fun _ => pure r) Q E s₃) E s₂ := by
    rw [hs]
    exact wpAny_operating (wpAny_mono hg (fun r s₃ h₃ => wpAny_bind (wpAny_letTemporaryGo (wpAny_pure h₃))) fun _ _ x => x)
  first
    | exact wpAny_pure (wpAny_bind fin)
    | exact wpAny_bind (wpAny_pure (wpAny_bind fin))
    | exact wpAny_bind fin

/-- f(e, e', e'') -/
theorem callF3 {id : Str} {f : Addr} {e₁ e₂ e₃ : PySem.Expr} {p pos : Pos} {fd : FuncData} {oc : Value} {od : Option Addr} {osl : Array (Option Value)} {Q : Value → Shared → Prop} (e : Ev cenv C ns) (g : Gr w s.heap) (hm : nsIn (KK w) mainGlobals id = some (some (.ref f)))
    (ho : (KK w).lookup f = some ⟨oc, od, .func fd, osl⟩) (he : starEach [e₁, e₂, e₃] cenv = [(false, eval e₁ cenv), (false, eval e₂ cenv), (false, eval e₃ cenv)]) (hl : ns.lookup id = some .globalImplicit) (hd : (id == ("__debug__" : Str)) = false)
    (h : wpAny (model prog w) A (eval e₁ cenv) (fun v s₁ => wpAny (model prog w) A (eval e₂ cenv) (fun v₂ s₂ => wpAny (model prog w) A (eval e₃ cenv) (fun v₃ s₃ => Gr w s₃.heap ∧ wpAny (model prog w) A (call (.ref f) [v, v₂, v₃]) Q E s₃) E s₂) E s₁) E s) :
    wpAny (model prog w) A (eval (.Call (.Name id p) [e₁, e₂, e₃] [] pos) cenv) Q E s := by
  refine wpAny_Call_NameR (ldg e g hm ?_ hl hd)
  refine callWith_function (o := ⟨oc, od, .func fd, osl⟩) (fd := fd) ?_
  rw [he]
  exact evalArgs_plain (spliced_cons (wpAny_mono h (fun v s₁ h₁ => spliced_cons (wpAny_mono h₁ (fun v₂ s₂ h₂ => spliced_cons (wpAny_mono h₂ (fun v₃ s₃ h₃ => spliced_nil ⟨⟨h₃.1.k _ _ ho, rfl⟩, h₃.2⟩) fun _ _ z => z)) fun _ _ z => z)) fun _ _ z => z))

set_option maxHeartbeats 1000000 in
/-- aheads = [..] -/
theorem st_aheads {p1 p2 p3 p4 p5 p6 p7 p8 p9 p10 p11 p12 p13 p14 p15 : Pos} {k1 k2 k3 k4 k5 : Nat} {Q : Flow → Shared → Prop}
    (V : LV env F) (ls : LS w S env F l cm s) (hh : A.handled = none)
    (h : ∀ v s₂, LS w S env F l ((Str.ofString "aheads", v) :: cm) s₂ → (∀ u d, Kn (XX env F) s.heap u d → Kn (XX env F) s₂.heap u d) → Kn (XX env F) s₂.heap v (.list ((List.range 18).map fun j => .str (aheadOf j))) → Q .next s₂) :
    wpR (model prog w) A (exec (.Assign [.Name (Str.ofString "aheads") p1] (.ListComp (.Subscript (.List [.Constant (.str (Str.ofString "")) k1 p2, .Constant (.str (Str.ofString "\"(\"")) k2 p3, .Constant (.str (Str.ofString "\\(")) k3 p4] p5) (.BinOp (.Name (Str.ofString "j") p6) .Mod (.Constant (.int 3) k4 p7) p8) p9)
      [⟨.Name (Str.ofString "j") p10, .Call (.Name (Str.ofString "range") p11) [.Constant (.int 18) k5 p12] [] p13, [], 0⟩] (scp nmj) p14) p15) env) Q (fun _ _ => False) s := by
  refine R.setCell V.le ls rfl (c := F + 4) (by rw [V.cells]; rfl) (swap_cell V.le.e rfl) ?_
  refine R.lcomp18 V ls hh (cl := []) rfl (by decide) (by decide) rfl (fun j => some (.str (aheadOf j))) ?_ ?_
  · intro C i t s₄ l' hi ec hC ls₄ hkn hn hj
    rw [tests_nil]
    refine R.pure ⟨rfl, Lt.refl ls₄.gr, fun d hd => ?_⟩
    cases hd
    refine R.of (itemT (T := "list") slot_list_getitem.lookup (fun _ _ => by with_unfolding_all rfl) (wpAny_List (wpAny_items_cons (wpAny_Constant_str (wpAny_items_cons (wpAny_Constant_str (wpAny_items_cons (wpAny_Constant_str (wpAny_items_nil ⟨by rw [sizeLine_eq]; show 3 ≤ 16777216; decide, ?_⟩)))))))))
    refine wpAny_BinOp (ld ec (hn.push _) hj (wpAny_Constant_int (mod_int (by decide) ?_)) rfl)
    have key : ∀ i ∈ List.range 18, (i : Int).fmod 3 = ((i % 3 : Nat) : Int) := by decide
    rw [key i (List.mem_range.mpr hi)]
    have h3 : i % 3 = 0 ∨ i % 3 = 1 ∨ i % 3 = 2 := by omega
    have hx : ∃ tt, ([Value.str (Str.ofString "") s₄.toks, .str (Str.ofString "\"(\"") (s₄.toks + 1), .str (Str.ofString "\\(") (s₄.toks + 1 + 1)] : List Value)[(((i % 3 : Nat) : Int)).toNat]? = some (.str (aheadOf i) tt) := by
      unfold aheadOf
      rcases h3 with h | h | h <;> (rw [h]; exact ⟨_, rfl⟩)
    obtain ⟨tt, hx⟩ := hx
    refine ⟨isl_push.typeIs, getItem_listL isl_push (by omega) (by omega) hx ⟨Lt.up ls₄.gr fun b o q => Heap.get?_push_of_some _ q, [], .str _ _, by simp⟩⟩
  · intro s' r ls' lt' hkn hr
    exact ⟨ls', fun s₂ ls₂ hkn₂ => h _ s₂ ls₂ (fun u d k => hkn₂ u d (hkn u d k)) (hkn₂ _ _ hr)⟩

abbrev nm4 : List (Str × NameKind) := [(Str.ofString ".0", .local), (Str.ofString "j", .local), (Str.ofString "_law_text", .globalImplicit), (Str.ofString "aheads", .free), (Str.ofString "numbers", .free), (Str.ofString "ways", .free)]
def textOf (ns : List Int) (j : Nat) : Str := ⟨(lawText ns (wayOf j) (aheadOf j).cps.toList).toArray⟩
theorem way_small (j : Nat) : ∀ m ∈ wayOf j, j < 18 → 0 ≤ m ∧ m ≤ 2 := by
  intro m hm hj
  simp only [wayOf, List.mem_cons, List.not_mem_nil, or_false] at hm
  rcases hm with rfl | rfl | rfl <;> omega
theorem ahead_small (j : Nat) : (aheadOf j).length ≤ 10 := by
  unfold aheadOf
  have h3 : j % 3 = 0 ∨ j % 3 = 1 ∨ j % 3 = 2 := by omega
  rcases h3 with h | h | h <;> (rw [h]; decide +kernel)

set_option maxHeartbeats 1000000 in
/-- texts = [..] -/
theorem st_texts {p1 p2 p3 p4 p5 p6 p7 p8 p9 p10 p11 p12 p13 p14 p15 p16 : Pos} {k1 : Nat} {ns : List Int} {vn vw va : Value} {Q : Flow → Shared → Prop}
    (V : LV env F) (ls : LS w S env F l cm s) (hh : A.handled = none) (hroom : A.depth < recursionLimit) (h1 : cm.lookup (Str.ofString "numbers") = some vn) (h2 : cm.lookup (Str.ofString "ways") = some vw) (h3 : cm.lookup (Str.ofString "aheads") = some va)
    (kn : Kn (XX env F) s.heap vn (intsD ns)) (kw : Kn (XX env F) s.heap vw (.list ((List.range 18).map fun j => intsD (wayOf j)))) (ka : Kn (XX env F) s.heap va (.list ((List.range 18).map fun j => .str (aheadOf j))))
    (hns : ns.length = 4) (hsm : ∀ n ∈ ns, small n)
    (h : ∀ v s₂, LS w S env F l ((Str.ofString "texts", v) :: cm) s₂ → (∀ u d, Kn (XX env F) s.heap u d → Kn (XX env F) s₂.heap u d) → Kn (XX env F) s₂.heap v (.list ((List.range 18).map fun j => .str (textOf ns j))) → Q .next s₂) :
    wpR (model prog w) A (exec (.Assign [.Name (Str.ofString "texts") p1] (.ListComp (.Call (.Name (Str.ofString "_law_text") p2) [.Name (Str.ofString "numbers") p3, .Subscript (.Name (Str.ofString "ways") p4) (.Name (Str.ofString "j") p5) p6, .Subscript (.Name (Str.ofString "aheads") p7) (.Name (Str.ofString "j") p8) p9] [] p10)
      [⟨.Name (Str.ofString "j") p11, .Call (.Name (Str.ofString "range") p12) [.Constant (.int 18) k1 p13] [] p14, [], 0⟩] (scp nm4) p15) p16) env) Q (fun _ _ => False) s := by
  refine R.setCell V.le ls rfl (c := F + 5) (by rw [V.cells]; rfl) (swap_cell V.le.e rfl) ?_
  refine R.lcomp18 V ls hh (cl := [(Str.ofString "ways", F + 3), (Str.ofString "numbers", F + 2), (Str.ofString "aheads", F + 4)]) rfl (by decide) (by decide) rfl (fun j => some (.str (textOf ns j))) ?_ ?_
  · intro C i t s₄ l' hi ec hC ls₄ hkn hn hj
    rw [tests_nil]
    refine R.pure ⟨rfl, Lt.refl ls₄.gr, fun d hd => ?_⟩
    cases hd
    refine R.of (callF3 ec ls₄.gr.unrid rfl rfl rfl rfl (by decide) (ldc ec (c := F + 2) rfl (ls₄.val V rfl h1) (itemC ec (c := F + 3) rfl (ls₄.val V rfl h2) (hkn _ _ kw) hn hj (d := intsD (wayOf i)) (by simp [hi]) (by omega) (fun u ku => itemC ec (c := F + 4) rfl (ls₄.val V rfl h3) (hkn _ _ ka) hn hj (d := .str (aheadOf i)) (by simp [hi]) (by omega) (fun a' ka' => ⟨ls₄.gr.unrid, ?_⟩) rfl rfl)  rfl rfl) rfl))
    obtain ⟨nl, vs, rfl, hnl, hi1, _⟩ := (hkn _ _ kn).ints
    obtain ⟨cl, us, rfl, hcl, hi2, _⟩ := ku.ints
    obtain ⟨ta, rfl⟩ := ka'.str
    refine law_text ls₄.gr.unrid hh hroom hnl.isList hcl.isList hi1 hi2 hns hsm (fun m hm => way_small i m hm hi) (ahead_small i) fun s₅ t₅ o₅ => ⟨Lt.of_ok o₅ ls₄.gr V.le.F46, [], .str _ _, by simp⟩
  · intro s' r ls' lt' hkn hr
    exact ⟨ls', fun s₂ ls₂ hkn₂ => h _ s₂ ls₂ (fun u d k => hkn₂ u d (hkn u d k)) (hkn₂ _ _ hr)⟩
end
end Mine
end

section
namespace Mine
open PySem PySem.W PyProof.Rows PySem.Calls

theorem quote_is : Str.ofString "\"" = ⟨#[34]⟩ := by decide +kernel

section
variable {prog : Program} {w : World} {A : Around} {E : Value → Shared → Prop} {s : Shared} {Q : Value → Shared → Prop}

theorem strip_plain {x : Str} {t : Tok} (g : Gr w s.heap) (hroom : A.depth < recursionLimit) (hx : 34 ∉ x.cps.toList)
    (hQ : ∀ s', Ok w s s' → s'.gens = s.gens → Q (.str x t) s') : wpAny (model prog w) A (call (.ref 65) [.str x t]) Q E s := by
  refine call_in (binds := [(Str.ofString "addr", .str x t)]) g rfl rfl hroom rfl (BindsTo.of_eq rfl) (by decide) (locs rfl) rfl rfl rfl rfl rfl (fun h₀ L env A' e hA hL hn hk g₀ => ?_)
  refine wpAny_execs_cons (wpAny_If (wpAny_isTrue_Compare1 (wpAny_Constant_str (ld e hn rfl (P.notIn_str (wpAny_truthy_bool ?_))))))
  rw [quote_is, StrLaws.found_one, decide_eq_false hx]
  rw [if_pos (by rfl)]
  refine wpAny_execs_cons (wpAny_Return_some (ld e hn rfl ?_))
  exact hQ _ ((Ok.refl g).keep hk) rfl

/-- the items of a text without quotes and backslashes -/
theorem esc_plain : ∀ (l : List Nat) (p : Nat), 92 ∉ l → escItems l p false = (l.zipIdx p).map fun (c, i) => (i, (⟨#[c]⟩ : Str))
  | [], _, _ => rfl
  | c :: r, p, h => by
    have hc : c ≠ 92 := fun z => h (by simp [z])
    have hr : 92 ∉ r := fun z => h (by simp [z])
    show (if c = 92 then _ else _) = _
    rw [if_neg hc, esc_plain r (p + 1) hr]
    rfl
theorem escEnd_plain : ∀ (l : List Nat), 92 ∉ l → escEnd l false = false
  | [], _ => rfl
  | c :: r, h => by
    have hc : (c == 92) = false := by simpa using (fun z => h (by simp [z]) : c ≠ 92)
    have hr : 92 ∉ r := fun z => h (by simp [z])
    show escEnd r (c == 92) = false
    rw [hc]; exact escEnd_plain r hr

set_option maxHeartbeats 4000000 in
/-- what stands between the quotes is left out -/
theorem strip_quoted {y : List Nat} {t : Tok} (g : Gr w s.heap) (hh : A.handled = none) (hroom : A.depth + 2 < recursionLimit) (h34 : 34 ∉ y) (h92 : 92 ∉ y) (hne : y ≠ []) (hasc : ∀ c ∈ y, c < 128) (hlen : y.length ≤ 1000)
    (hQ : ∀ s' t', Ok w s s' → Q (.str ⟨y.toArray⟩ t') s') : wpAny (model prog w) A (call (.ref 65) [.str ⟨(34 :: 40 :: 34 :: y).toArray⟩ t]) Q E s := by
  refine call_in (binds := [(Str.ofString "addr", .str ⟨(34 :: 40 :: 34 :: y).toArray⟩ t)]) g rfl rfl (by omega) rfl (BindsTo.of_eq rfl) (by decide) (locs rfl) rfl rfl rfl rfl rfl (fun h₀ L env A' e hA hL hn hk g₀ => ?_)
  refine wpAny_execs_cons (wpAny_If (wpAny_isTrue_Compare1 (wpAny_Constant_str (ld e hn rfl (P.notIn_str (wpAny_truthy_bool ?_))))))
  rw [quote_is, StrLaws.found_one, decide_eq_true (by simp)]
  rw [if_neg (by decide)]
  refine wpAny_execs_nil ?_
  dsimp only
  refine wpAny_execs_cons (wpAny_Assign_Name (wpAny_Constant_int (st e hn fun h₁ hn₁ hs₁ => ?_)))
  dsimp only at hs₁ ⊢
  refine wpAny_execs_cons (wpAny_Assign_Name (wpAny_Constant_none (st e hn₁ fun h₂ hn₂ hs₂ => ?_)))
  dsimp only at hs₂ ⊢
  refine wpAny_execs_cons (wpAny_Assign_Name (wpAny_List (wpAny_items_nil ⟨by decide, st e (hn₂.push _) fun h₃ hn₃ hs₃ => ?_⟩)))
  dsimp only at hs₃ hn₃ ⊢
  have hL0 : s.heap.get? L = none := hL ▸ get_size _
  have hLl : L < h₂.objs.size := hn₂.lt
  have hr₃ : h₃.get? h₂.objs.size = some { cls := .type "list", data := .seq #[] } := hs₃.extBut _ _ (Nat.ne_of_gt hLl) (Heap.get?_push_size _ rfl)
  have o₂ : Ok w s ⟨h₂, s.gens, s.drawn, s.toks, s.os⟩ := (((Ok.refl g).keep (t := s.toks) hk).upd (t := s.toks) hs₁.extBut hL0).upd (t := s.toks) hs₂.extBut hL0
  have o₃ : Ok w s ⟨h₃, s.gens, s.drawn, s.toks, s.os⟩ := (o₂.push (t := s.toks) _).upd hs₃.extBut hL0
  have hd1 : A'.depth = A.depth + 1 := hA.depth
  refine wpAny_execs_cons (wpAny_For (callF1 e o₃.gr rfl rfl rfl rfl (by decide) (ld e hn₃ rfl ⟨o₃.gr, ?_⟩)))
  refine call_es (B := A') o₃.gr (by omega) (hA.handled.trans hh) ?_ ?_ fun s₄ a Lg hR hLg ha hk₄ hos hgs => ?_
  · simp; exact hasc
  · exact escEnd_plain _ (by simp [h92])
  dsimp only at hLg ha hk₄ hos hgs
  refine wpAny_pyIter_gen hR.1 ?_
  have o₄ : Ok w s s₄ := o₃.step (fun b o _ q => hk₄ b o q) hos (by obtain ⟨gs, hb, hg⟩ := hgs; rw [hg]; exact fun z => z.push hb)
  have hn₄ : s₄.heap.Ns L (mp _) := hn₃.keeps hk₄
  have nL : h₃.get? L ≠ none := ns_in hn₃
  refine for_gen (fun i l => l.lookup (Str.ofString "addr") = some (.str ⟨(34 :: 40 :: 34 :: y).toArray⟩ t) ∧ l.lookup (Str.ofString "result") = some (.ref h₂.objs.size) ∧
      ((i = 0 ∧ ∃ u, l.lookup (Str.ofString "start") = some (.int 0 u) ∧ l.lookup (Str.ofString "open_pos") = some .none) ∨
       ((i = 1 ∨ i = 2) ∧ ∃ u v, l.lookup (Str.ofString "start") = some (.int 0 u) ∧ l.lookup (Str.ofString "open_pos") = some (.int 0 v)) ∨
       (3 ≤ i ∧ ∃ u, l.lookup (Str.ofString "start") = some (.int 3 u) ∧ l.lookup (Str.ofString "open_pos") = some .none)))
    e (hA.handled.trans hh) (by omega) rfl rfl hR ?_ ?_ ?_ o₄ hL0 hn₄ ⟨rfl, rfl, .inl ⟨rfl, _, rfl, rfl⟩⟩ ?_ ?_
  · intro b hb
    rw [List.mem_singleton.mp hb]
    exact o₃.gone hLg
  · intro hm
    rw [List.mem_singleton.mp hm] at nL
    exact nL hLg
  · rintro rfl
    exact nL ha
  · rintro i l p u t' v s₁ hit ⟨ha1, hr1, hc⟩ oo hn₅ hkp
    have hfin : ∀ {l' : List (Str × Value)} {s₂ : Shared}, s₂.heap.Ns L (mp l') → _ → (∀ b o, b ≠ L → s₁.heap.get? b = some o → s₂.heap.get? b = some o) → s₂.gens = s₁.gens → s₂.os = s₁.os →
        ∃ l', s₂.heap.Ns L (mp l') ∧ (l'.lookup (Str.ofString "addr") = some (.str ⟨(34 :: 40 :: 34 :: y).toArray⟩ t) ∧ l'.lookup (Str.ofString "result") = some (.ref h₂.objs.size) ∧
      ((i + 1 = 0 ∧ ∃ u, l'.lookup (Str.ofString "start") = some (.int 0 u) ∧ l'.lookup (Str.ofString "open_pos") = some .none) ∨
       ((i + 1 = 1 ∨ i + 1 = 2) ∧ ∃ u v, l'.lookup (Str.ofString "start") = some (.int 0 u) ∧ l'.lookup (Str.ofString "open_pos") = some (.int 0 v)) ∨
       (3 ≤ i + 1 ∧ ∃ u, l'.lookup (Str.ofString "start") = some (.int 3 u) ∧ l'.lookup (Str.ofString "open_pos") = some .none))) ∧
        (∀ b o, b ≠ L → s₁.heap.get? b = some o → s₂.heap.get? b = some o) ∧ s₂.gens = s₁.gens ∧ s₂.os = s₁.os := fun a b c d f => ⟨_, a, b, c, d, f⟩
    refine wpAny_execs_cons (wpAny_If (wpAny_isTrue_Compare1 (ld e hn₅ rfl (wpAny_Constant_str (P.eq_str (wpAny_truthy_bool ?_))))))
    have hits : escItems (34 :: 40 :: 34 :: y) 0 false = (0, ⟨#[34]⟩) :: (1, ⟨#[40]⟩) :: (2, ⟨#[34]⟩) :: escItems y 3 false := rfl
    rw [show (Str.mk (34 :: 40 :: 34 :: y).toArray).cps.toList = 34 :: 40 :: 34 :: y from rfl, hits] at hit
    rcases i with _ | _ | _ | k
    · simp only [List.getElem?_cons_zero, Option.some.injEq, Prod.mk.injEq] at hit
      obtain ⟨rfl, rfl⟩ := hit
      rcases hc with ⟨_, u₁, hst, hop⟩ | ⟨h1, _⟩ | ⟨h1, _⟩
      · rw [if_pos (by rfl)]
        refine wpAny_execs_cons (wpAny_If (wpAny_isTrue_Compare1 (ld e hn₅ hop (wpAny_Constant_none (is_none (wpAny_truthy_bool ?_))))))
        rw [if_pos (by rfl)]
        refine wpAny_execs_cons (wpAny_Assign_Name (ld e hn₅ rfl (st e hn₅ fun h₆ hn₆ hs₆ => ?_)))
        refine wpAny_execs_nil (wpAny_execs_nil (wpAny_execs_nil ?_))
        exact hfin hn₆ ⟨ha1, hr1, .inr (.inl ⟨.inl rfl, _, _, hst, rfl⟩)⟩ (fun b o hb q => hs₆.extBut b o hb q) rfl rfl
      · omega
      · omega
    · simp only [List.getElem?_cons_succ, List.getElem?_cons_zero, Option.some.injEq, Prod.mk.injEq] at hit
      obtain ⟨rfl, rfl⟩ := hit
      rcases hc with ⟨h1, _⟩ | ⟨_, u₁, v₁, hst, hop⟩ | ⟨h1, _⟩
      · omega
      · rw [if_neg (by decide)]
        refine wpAny_execs_nil (wpAny_execs_nil ?_)
        exact hfin hn₅ ⟨ha1, hr1, .inr (.inl ⟨.inr rfl, _, _, hst, hop⟩)⟩ (fun b o hb q => q) rfl rfl
      · omega
    · simp only [List.getElem?_cons_succ, List.getElem?_cons_zero, Option.some.injEq, Prod.mk.injEq] at hit
      obtain ⟨rfl, rfl⟩ := hit
      rcases hc with ⟨h1, _⟩ | ⟨_, u₁, v₁, hst, hop⟩ | ⟨h1, _⟩
      · omega
      · rw [if_pos (by rfl)]
        refine wpAny_execs_cons (wpAny_If (wpAny_isTrue_Compare1 (ld e hn₅ hop (wpAny_Constant_none (is_none (wpAny_truthy_bool ?_))))))
        rw [if_neg (by intro z; cases z)]
        refine wpAny_execs_cons (wpAny_If (wpAny_isTrue_Compare1 (ld e hn₅ hst (ld e hn₅ hop (ne_int (wpAny_truthy_bool ?_))))))
        rw [if_neg (by decide)]
        refine wpAny_execs_nil (wpAny_execs_cons (wpAny_Assign_Name (wpAny_BinOp (ld e hn₅ rfl (wpAny_Constant_int (add_int (st e hn₅ fun h₆ hn₆ hs₆ => ?_)))))))
        refine wpAny_execs_cons (wpAny_Assign_Name (wpAny_Constant_none (st e hn₆ fun h₇ hn₇ hs₇ => ?_)))
        refine wpAny_execs_nil (wpAny_execs_nil (wpAny_execs_nil ?_))
        exact hfin hn₇ ⟨ha1, hr1, .inr (.inr ⟨by omega, _, rfl, rfl⟩)⟩ (fun b o hb q => hs₇.extBut b o hb (hs₆.extBut b o hb q)) rfl rfl
      · omega
    · simp only [List.getElem?_cons_succ] at hit
      rcases hc with ⟨h1, _⟩ | ⟨h1, _⟩ | ⟨_, u₁, hst, hop⟩
      · omega
      · omega
      · rw [esc_plain y 3 h92] at hit
        have hu : ∃ c ∈ y, u = ⟨#[c]⟩ := by
          rw [List.getElem?_map] at hit
          obtain ⟨⟨c, j⟩, h1, h2⟩ := Option.map_eq_some_iff.mp hit
          refine ⟨c, ?_, (congrArg Prod.snd h2).symm⟩
          have := List.mem_of_getElem? h1
          exact (List.mem_zipIdx this).2.2 ▸ List.getElem_mem _
        obtain ⟨c, hcy, rfl⟩ := hu
        have hne : ((⟨#[c]⟩ : Str).cps.toList == (⟨#[34]⟩ : Str).cps.toList) = false := by
          have : c ≠ 34 := fun z => h34 (z ▸ hcy)
          simpa using this
        rw [hne, if_neg Bool.false_ne_true]
        refine wpAny_execs_nil (wpAny_execs_nil ?_)
        exact hfin hn₅ ⟨ha1, hr1, .inr (.inr ⟨by omega, _, hst, hop⟩)⟩ (fun b o hb q => q) rfl rfl
  · rintro l' s' ⟨ha1, hr1, hc⟩ oo hn₅ hkp
    have hln : 3 ≤ (escItems (34 :: 40 :: 34 :: y) 0 false).length := by
      show 3 ≤ (((0, (⟨#[34]⟩ : Str)) :: (1, ⟨#[40]⟩) :: (2, ⟨#[34]⟩) :: escItems y 3 false).length)
      simp only [List.length_cons]; omega
    have hln' : 3 ≤ (escItems (Str.mk (34 :: 40 :: 34 :: y).toArray).cps.toList 0 false).length := hln
    rcases hc with ⟨h1, _⟩ | ⟨h1, _⟩ | ⟨_, u₁, hst, hop⟩
    · omega
    · omega
    have hrL : h₂.objs.size ≠ L := Nat.ne_of_gt hLl
    have hrG : h₂.objs.size ∉ [Lg] := fun z => by rw [← List.mem_singleton.mp z, hr₃] at hLg; cases hLg
    have hr' : s'.heap.get? h₂.objs.size = some { cls := .type "list", data := .seq #[] } := hkp _ _ hrL hrG (hk₄ _ _ hr₃)
    have hpos : 0 < y.length := List.length_pos_iff.mpr hne
    have hlx : (Str.mk (34 :: 40 :: 34 :: y).toArray).length = y.length + 3 := by show (34 :: 40 :: 34 :: y).toArray.size = _; simp
    dsimp only
    refine wpAny_execs_cons (wpAny_If (wpAny_isTrue_Compare1 (ld e hn₅ hst (callB1 e oo.gr rfl rfl rfl rfl (by decide) (by decide) (ld e hn₅ ha1 (P.len_str (by rw [hlx]; omega) (lt_int (wpAny_truthy_bool ?_))))))))
    rw [hlx, decide_eq_true (by omega), if_pos rfl]
    refine wpAny_execs_cons (wpAny_Expr_any (meth1 rfl rfl rfl F.plainAttrs_list F.slot_list_append F.type_list_append (ld e hn₅ hr1 ⟨⟨_, hr', rfl⟩, fun a ha => ⟨_, (by cases ha; exact hr'), rfl⟩, ?_⟩)) e.inter rfl)
    refine wpAny_Subscript_str_slice (ld e hn₅ ha1 (wpAny_evalPart_some (ld e hn₅ hst (wpAny_evalPart_none ⟨_, _, some (3, u₁), none, rfl, rfl, rfl, ?_⟩))))
    refine sliceS (by rw [hlx]; omega) fun t₆ tk₆ => ?_
    have hsl : Txt.slice (Str.mk (34 :: 40 :: 34 :: y).toArray) (some 3) none = ⟨y.toArray⟩ := by
      rw [slice_from_eq (i := 3) (b := ((Str.mk (34 :: 40 :: 34 :: y).toArray).length : Int)) (by decide) (by rw [hlx]; omega) rfl, hlx]
      show Str.mk ((y.take (((y.length + 3 : Nat) : Int) - 3).toNat).toArray) = _
      rw [show (((y.length + 3 : Nat) : Int) - 3).toNat = y.length by omega, List.take_length]
    rw [show (Option.map (fun x : Int × Tok => x.1) (some (3, u₁))) = some 3 from rfl, show (Option.map (fun x : Int × Tok => x.1) none) = none from rfl, hsl]
    refine append_at (Heap.get?_push_of_some _ hr') (fun h₆ hs₆ hr₆ => ?_) (by decide)
    refine wpAny_execs_nil ?_
    dsimp only at hs₆ hr₆ ⊢
    have hn₆ : h₆.Ns L (mp _) := ns_at (hn₅.push _) fun o q => hs₆.extBut L o (Ne.symm hrL) q
    refine wpAny_execs_cons (wpAny_Return_some ?_)
    with_reducible refine meth1 ?h1 ?h2 ?h3 F.plainAttrs_str F.slot_str_join F.type_str_join ?_
    case h1 => rfl
    case h2 => rfl
    case h3 => rfl
    refine wpAny_Constant_str ⟨typeIs_str _ _ _, GM.noRef, ld e hn₆ hr1 ?_⟩
    refine join_list (ys := [⟨y.toArray⟩]) ⟨_, hr₆, rfl, _, rfl⟩ (.cons _ _ .nil) ?_ fun t₇ tk₇ => ?_
    · show (y.toArray.size + 0) + 1 * (Str.ofString "").length ≤ 16777216
      rw [show (Str.ofString "").length = 0 by decide +kernel]
      simp
      omega
    · have hj : Txt.join (Str.ofString "") [⟨y.toArray⟩] = ⟨y.toArray⟩ := by
        rfl
      show Q (.str (Txt.join (Str.ofString "") [⟨y.toArray⟩]) t₇) _
      rw [hj]
      exact hQ _ _ (oo.heap fun b o hb q => hs₆.extBut b o (fun z => hb (z ▸ o₂.fresh)) (Heap.get?_push_of_some _ q))
end
end Mine
end

section
namespace Mine
open PySem PySem.W PyProof.Rows PySem.Calls

/-- what _check_parenthesis counts -/
def chkItems : List (Nat × Str) → Int → Bool
  | [], o => o == 0
  | (_, u) :: r, o => if u.cps.toList = [40] then chkItems r (o + 1) else if u.cps.toList = [41] then (if o - 1 < 0 then false else chkItems r (o - 1)) else chkItems r o

theorem open_is : Str.ofString "(" = ⟨#[40]⟩ := by decide +kernel
theorem close_is : Str.ofString ")" = ⟨#[41]⟩ := by decide +kernel

section
variable {prog : Program} {w : World} {A : Around} {E : Value → Shared → Prop} {s : Shared} {Q : Value → Shared → Prop}

set_option maxHeartbeats 4000000 in
theorem check_of {x z : Str} {t : Tok} (g : Gr w s.heap) (hh : A.handled = none) (hroom : A.depth + 4 < recursionLimit)
    (hstrip : ∀ (B : Around) (s₁ : Shared) (Q₁ : Value → Shared → Prop), B.handled = none → B.depth + 2 < recursionLimit → Gr w s₁.heap → (∀ s' t', Ok w s₁ s' → Q₁ (.str z t') s') → wpAny (model prog w) B (call (.ref 65) [.str x t]) Q₁ (fun _ _ => False) s₁)
    (hz : (z.cps.all (· < 128)) = true) (hend : escEnd z.cps.toList false = false)
    (hQ : ∀ s', Ok w s s' → Q (.bool (chkItems (escItems z.cps.toList 0 false) 0)) s') : wpAny (model prog w) A (call (.ref 72) [.str x t]) Q E s := by
  refine call_in (binds := [(Str.ofString "addr", .str x t)]) g rfl rfl (by omega) rfl (BindsTo.of_eq rfl) (by decide) (locs rfl) rfl rfl rfl rfl rfl (fun h₀ L env A' e hA hL hn hk g₀ => ?_)
  have hL0 : s.heap.get? L = none := hL ▸ get_size _
  have hd1 : A'.depth = A.depth + 1 := hA.depth
  have hh' : A'.handled = none := hA.handled.trans hh
  have o₀ : Ok w s ⟨h₀, s.gens, s.drawn, s.toks, s.os⟩ := (Ok.refl g).keep hk
  refine wpAny_execs_cons (wpAny_Assign_Name (callF1 e g₀ rfl rfl rfl rfl (by decide) (ld e hn rfl ⟨g₀, hstrip A' _ _ hh' (by omega) g₀ fun s₁ t' o₁ => ?_⟩)))
  have nL₀ : h₀.get? L ≠ none := ns_in hn
  have h46 : L ≠ 46 := fun q => by rw [q] at hL0; obtain ⟨_, _, ⟨_, y⟩, _⟩ := g.tab; rw [hL0] at y; cases y
  have hn₁ : s₁.heap.Ns L (mp _) := ns_at hn fun o q => o₁.ext L o h46 q
  refine st e hn₁ fun h₂ hn₂ hs₂ => ?_
  dsimp only at hs₂ ⊢
  refine wpAny_execs_cons (wpAny_Assign_Name (wpAny_Constant_int (st e hn₂ fun h₃ hn₃ hs₃ => ?_)))
  dsimp only at hs₃ ⊢
  have o₃ : Ok w s ⟨h₃, s₁.gens, s₁.drawn, s₁.toks, s₁.os⟩ := ((o₀.tok.trans o₁).upd (t := s₁.toks) hs₂.extBut hL0).upd hs₃.extBut hL0
  refine wpAny_execs_cons (wpAny_For (callF1 e o₃.gr rfl rfl rfl rfl (by decide) (ld e hn₃ rfl ⟨o₃.gr, ?_⟩)))
  refine call_es (B := A') o₃.gr (by omega) hh' hz hend fun s₄ a Lg hR hLg ha hk₄ hos hgs => ?_
  dsimp only at hLg ha hk₄ hos hgs
  refine wpAny_pyIter_gen hR.1 ?_
  have o₄ : Ok w s s₄ := o₃.step (fun b o _ q => hk₄ b o q) hos (by obtain ⟨gs, hb, hg⟩ := hgs; rw [hg]; exact fun z => z.push hb)
  have hn₄ : s₄.heap.Ns L (mp _) := hn₃.keeps hk₄
  have nL : h₃.get? L ≠ none := ns_in hn₃
  generalize hits : escItems z.cps.toList 0 false = its at *
  refine for_gen (fun i l => ∃ o u, l.lookup (Str.ofString "opens") = some (.int o u) ∧ chkItems its 0 = chkItems (its.drop i) o)
    e hh' (by omega) rfl rfl hR ?_ ?_ ?_ o₄ hL0 hn₄ ⟨0, _, rfl, rfl⟩ ?_ ?_
  · intro b hb
    rw [List.mem_singleton.mp hb]
    exact o₃.gone hLg
  · intro hm
    rw [List.mem_singleton.mp hm] at nL
    exact nL hLg
  · rintro rfl
    exact nL ha
  · rintro i l p u t' v s₅ hit ⟨o, u', ho, hc⟩ oo hn₅ hkp
    have hdr : its.drop i = (p, u) :: its.drop (i + 1) := by
      have hlt : i < its.length := by
        rcases Nat.lt_or_ge i its.length with h | h
        · exact h
        · rw [List.getElem?_eq_none h] at hit; cases hit
      rw [List.drop_eq_getElem_cons hlt]
      congr 1
      rw [List.getElem?_eq_getElem hlt] at hit
      exact Option.some.inj hit
    rw [hdr] at hc
    refine wpAny_execs_cons (wpAny_If (wpAny_isTrue_Compare1 (ld e hn₅ rfl (wpAny_Constant_str (P.eq_str (wpAny_truthy_bool ?_))))))
    rw [show (Str.ofString "(").cps.toList = [40] by decide +kernel]
    by_cases h40 : u.cps.toList = [40]
    · rw [show (u.cps.toList == [40]) = true by simpa using h40, if_pos rfl]
      refine wpAny_execs_cons (wpAny_AugAssign_Name (ldn e hn₅ ho (wpAny_Constant_int (iadd_int (st e hn₅ fun h₆ hn₆ hs₆ => ?_)))))
      refine wpAny_execs_nil (wpAny_execs_nil ?_)
      exact ⟨_, hn₆, ⟨_, _, rfl, by rw [hc]; simp [chkItems, h40]⟩, fun b ob hb q => hs₆.extBut b ob hb q, rfl, rfl⟩
    · rw [show (u.cps.toList == [40]) = false by simpa using h40, if_neg Bool.false_ne_true]
      refine wpAny_execs_cons (wpAny_If (wpAny_isTrue_Compare1 (ld e hn₅ rfl (wpAny_Constant_str (P.eq_str (wpAny_truthy_bool ?_))))))
      rw [show (Str.ofString ")").cps.toList = [41] by decide +kernel]
      by_cases h41 : u.cps.toList = [41]
      · rw [show (u.cps.toList == [41]) = true by simpa using h41, if_pos rfl]
        refine wpAny_execs_cons (wpAny_AugAssign_Name (ldn e hn₅ ho (wpAny_Constant_int (isub_int (st e hn₅ fun h₆ hn₆ hs₆ => ?_)))))
        refine wpAny_execs_cons (wpAny_If (wpAny_isTrue_Compare1 (ld e hn₆ rfl (wpAny_Constant_int (lt_int (wpAny_truthy_bool ?_))))))
        by_cases hneg : o - 1 < 0
        · rw [decide_eq_true hneg, if_pos rfl]
          refine wpAny_execs_cons (wpAny_Return_some (wpAny_Constant_bool ?_))
          have hf : chkItems its 0 = false := by rw [hc]; simp [chkItems, h41, hneg]
          dsimp only
          rw [← hf]
          exact hQ _ (oo.upd hs₆.extBut hL0)
        · rw [decide_eq_false hneg, if_neg Bool.false_ne_true]
          refine wpAny_execs_nil (wpAny_execs_nil (wpAny_execs_nil (wpAny_execs_nil ?_)))
          exact ⟨_, hn₆, ⟨_, _, rfl, by rw [hc]; simp [chkItems, h41, hneg]⟩, fun b ob hb q => hs₆.extBut b ob hb q, rfl, rfl⟩
      · rw [show (u.cps.toList == [41]) = false by simpa using h41, if_neg Bool.false_ne_true]
        refine wpAny_execs_nil (wpAny_execs_nil (wpAny_execs_nil ?_))
        exact ⟨_, hn₅, ⟨_, _, ho, by rw [hc]; simp [chkItems, h40, h41]⟩, fun b ob hb q => q, rfl, rfl⟩
  · rintro l' s' ⟨o, u', ho, hc⟩ oo hn₅ hkp
    rw [List.drop_length] at hc
    dsimp only
    refine wpAny_execs_cons (wpAny_Return_some (wpAny_Compare1 (ld e hn₅ ho (wpAny_Constant_int (eq_int ?_)))))
    have : chkItems its 0 = (o == 0) := hc
    dsimp only
    rw [← this]
    exact hQ _ oo.tok
end
end Mine
end

section
namespace Mine
open PySem PySem.W PyProof.Rows PySem.Calls
open Sem (wp)

section
variable {M : Model} {A : Around} {E : Value → Shared → Prop} {s : Shared} {env : Env}
theorem R.items_cons {pos : Pos} {e : PySem.Expr} {rest : List PySem.Expr} {Q : List Value → Shared → Prop}
    (h : wpR M A (eval e env) (fun v s₁ => wpR M A (spliced (backTo pos (starEach rest env))) (fun vs s₂ => Q (v :: vs) s₂) E s₁) E s)
    (he : starEach (e :: rest) env = (false, eval e env) :: starEach rest env := by rfl) : wpR M A (spliced (backTo pos (starEach (e :: rest) env))) Q E s := by
  rw [he]
  show wpR M A (do
    let v ← eval e env
    let here ← (Pure.pure [v] : Sem (List Value))
    return here ++ (← PySem.holding here (spliced (backTo pos (starEach rest env))))) Q E s
  exact R.bind (R.mono h (fun v s₁ h₁ => R.step (wpAny_pure (R.bind (R.holding (R.mono h₁ (fun vs s₂ h₂ => R.pure h₂) fun _ _ x => x))))) fun _ _ x => x)
theorem R.items_nil {pos : Pos} {Q : List Value → Shared → Prop} (h : Q [] s) : wpR M A (spliced (backTo pos (starEach [] env))) Q E s := R.pure h
theorem R.TupleE {elts : List PySem.Expr} {k : Nat} {pos : Pos} {Q : Value → Shared → Prop}
    (h : wpR M A (spliced (backTo pos (starEach elts env)))
      (fun vs s₁ => vs.length ≤ sizeLine ∧ Q (.ref s₁.heap.objs.size) { s₁ with heap := s₁.heap.push { cls := .type "tuple", data := .seq vs.toArray } }) E s) : wpR M A (eval (.Tuple elts k pos) env) Q E s := by
  rw [arm_eval_Tuple]
  exact R.step (wpAny_standAt (R.bind (R.mono h (fun vs s₁ h₁ => R.of (wpAny_newObj_type h₁.2 (by show vs.toArray.size ≤ sizeLine; rw [List.size_toArray]; exact h₁.1))) fun _ _ x => x)))
theorem R.AssignTuple {elts k tpos value pos} {Q : Flow → Shared → Prop}
    (hs : swapsWithSole [.Tuple elts k tpos] value pos.line env = Pure.pure false)
    (hw : swappedStores [.Tuple elts k tpos] value env = Pure.pure none)
    (h : wpR M A (eval value env) (fun v s₁ => wpAny M A (assign (.Tuple elts k tpos) env v) (fun _ => Q .next) E s₁) E s) :
    wpR M A (exec (.Assign [.Tuple elts k tpos] value pos) env) Q E s := by
  rw [exec_Assign]
  refine R.step (wpAny_standAt ?_)
  rw [hs]
  refine R.step (wpAny_pure ?_)
  rw [if_neg (by decide)]
  refine R.bind (R.mono h (fun v s₁ h₁ => ?_) fun _ _ x => x)
  rw [hw]
  refine R.step (wpAny_pure ?_)
  show wpR M A (do assignAll v [assign (.Tuple elts k tpos) env]; Pure.pure Flow.next) Q E s₁
  exact R.step (wpAny_mono h₁ (fun _ _ x => R.pure x) fun _ _ x => x)
end

section
variable {prog : Program} {w : World} {A : Around} {E : Value → Shared → Prop} {S s : Shared} {env : Env} {F : Addr} {l cm : List (Str × Value)}

/-- the items of a list that a comprehension goes over -/
def Itm (w : World) (env : Env) (F : Addr) (s : Shared) (ds : List PyData) (xv : Value) (s₁ : Shared) : Prop :=
  ∃ (r : Addr) (vs : List Value), xv = .ref r ∧ s₁.heap.IsList r vs.toArray ∧ r ≠ F ∧ r ≠ 46 ∧ Lt w F s s₁ ∧ vs.length = ds.length ∧ ∀ (i : Nat) u, vs[i]? = some u → ∃ d, ds[i]? = some d ∧ ∀ s₄, Lt w F s s₄ → Kn (XX env F) s₄.heap u d

theorem Itm.of {v : Value} {ds : List PyData} {s₁ : Shared} (ls : LS w S env F l cm s) (k : Kn (XX env F) s.heap v (.list ds)) (he : s₁ = s) : Itm w env F s ds v s₁ := by
  subst he
  obtain ⟨r, vs, as, rfl, hl, hr, hX, ha⟩ := k.list
  refine ⟨r, vs, rfl, hl.isList, fun z => hX (z ▸ XF), fun z => hX (z ▸ X46), Lt.refl ls.gr, hr.length, fun i u hu => ?_⟩
  have hlt : i < ds.length := by
    rw [← hr.length]
    rcases Nat.lt_or_ge i vs.length with h | h
    · exact h
    · rw [List.getElem?_eq_none h] at hu; cases hu
  obtain ⟨u', hu', ku⟩ := hr.kn ha (List.getElem?_eq_getElem hlt)
  rw [hu] at hu'
  cases hu'
  exact ⟨_, List.getElem?_eq_getElem hlt, fun s₄ lt => lt.kn' ku⟩

/-- a comprehension over a list -/
theorem R.lcompL {elt iter : PySem.Expr} {ifs : List PySem.Expr} {names : List (Str × NameKind)} {cl : List (Str × Addr)} {pos px : Pos} {x : Str} {Q : Value → Shared → Prop} (V : LV env F) (ls : LS w S env F l cm s) (hh : A.handled = none) (hcl : clOf (lawCells F) names [] = some cl)
    (hcell : ∀ y ∈ names, y.2 ≠ .cell) (hnames : ∀ x ∈ names, x.2 = .local → names.lookup x.1 = some .local) (hx : (relNames lawNs names).lookup x = some .local) (ds : List PyData) (hds : ds.length ≤ 1000)
    (hit : wpAny (model prog w) A (eval iter env) (Itm w env F s ds) (fun _ _ => False) s) (hs : ∀ x, foldedSetIterable iter env x = Pure.pure x)
    (f : Nat → Option PyData)
    (turn : ∀ C (i : Nat) u d s₄ l', ds[i]? = some d → Ev (compEnvC (scp names) cl C env) C (relNames lawNs names) → s.heap.get? C = none → LS w S env F l cm s₄ → (∀ u d, Kn (XX env F) s.heap u d → Kn (XX env F) s₄.heap u d) → s₄.heap.Ns C (mp l') → l'.lookup x = some u → Kn (XX env F) s₄.heap u d → wpR (model prog w) A (testsOf ifs (compEnvC (scp names) cl C env)) (fun ok s₅ => ok = (f i).isSome ∧ Lt w F s₄ s₅ ∧
        ∀ d, f i = some d → wpR (model prog w) A (eval elt (compEnvC (scp names) cl C env)) (fun y s₆ => Lt w F s₅ s₆ ∧ ∃ as, Rd s₆.heap y d as ∧ ∀ a ∈ as, s₅.heap.get? a = none) (fun _ _ => False) s₅) (fun _ _ => False) s₄)
    (hQ : ∀ s' r, LS w S env F l cm s' → Lt w F s s' → (∀ u d, Kn (XX env F) s.heap u d → Kn (XX env F) s'.heap u d) → Kn (XX env F) s'.heap (.ref r) (.list ((List.range ds.length).filterMap f)) → Q (.ref r) s') :
    wpR (model prog w) A (eval (.ListComp elt [⟨.Name x px, iter, ifs, 0⟩] (scp names) pos) env) Q E s := by
  refine R.listComp (clos_of (by rw [V.cells]; exact hcl)) ls.F0 V.le.F46 hcell rfl hnames (R.of (wpAny_mono hit (fun xv s₁ h₁ => ?_) fun _ _ z => z.elim)) hs
  obtain ⟨r, vs, rfl, hl, n1, n2, lt₁, hlen, hat⟩ := h₁
  refine Src.list (target := .Name x px) hh lt₁.gr (lt₁.F0 ls.F0) hl n1 n2 ⟨x, px, rfl⟩ fun s₂ I hsrc lt₂ => ?_
  rw [hlen] at hsrc
  refine ⟨I, ds.length, _, f, fun i l' => ∃ v, l'.lookup x = some v ∧ vs[i]? = some v, rfl, hsrc.base lt₁, lt₁.trans lt₂, hds, ?_, ?_, fun s' r as lt hr has => ?_⟩
  · exact asg1 (P := fun i v => vs[i]? = some v) V.le.e rfl hx
  · rintro C i s₄ l' hi hC lt hn ⟨v, hv, hvs⟩
    obtain ⟨d, hd, hk⟩ := hat i v hvs
    exact turn C i v d s₄ l' hd (V.le.e.comp rfl) hC (ls.lt V.le lt) (fun u d k => lt.kn' k) hn hv (hk s₄ lt)
  · exact hQ s' r (ls.lt V.le lt) lt (fun u d k => lt.kn' k) (ls.learn V.le hr has)
end
end Mine
end

section
namespace Mine
open PySem PySem.W PyProof.Rows PySem.Calls PySem.NumText

theorem drop_all {α : Type} {p : α → Bool} : ∀ {l r : List α}, (∀ c ∈ l, p c = true) → (l ++ r).dropWhile p = r.dropWhile p
  | [], _, _ => rfl
  | a :: l, r, h => by
    rw [List.cons_append, List.dropWhile_cons_of_pos (h a (List.mem_cons_self ..))]
    exact drop_all fun c hc => h c (List.mem_cons_of_mem _ hc)
theorem take_all {α : Type} {p : α → Bool} : ∀ {l r : List α}, (∀ c ∈ l, p c = true) → (l ++ r).takeWhile p = l ++ r.takeWhile p
  | [], _, _ => rfl
  | a :: l, r, h => by
    rw [List.cons_append, List.takeWhile_cons_of_pos (h a (List.mem_cons_self ..)), take_all fun c hc => h c (List.mem_cons_of_mem _ hc)]
    rfl
theorem drop_stop {α : Type} {p : α → Bool} {r : List α} (h : ∀ c, r.head? = some c → p c = false) : r.dropWhile p = r := by
  cases r with
  | nil => rfl
  | cons a r => rw [List.dropWhile_cons_of_neg (by rw [h a rfl]; simp)]
theorem take_stop {α : Type} {p : α → Bool} {r : List α} (h : ∀ c, r.head? = some c → p c = false) : r.takeWhile p = [] := by
  cases r with
  | nil => rfl
  | cons a r => rw [List.takeWhile_cons_of_neg (by rw [h a rfl]; simp)]

theorem pl_dig {c : Nat} (h : dig c = true) : pl c = false := by simp [pl, h]

theorem split_eq {f : Nat} {l r : List Nat} {c : Nat} (h : l.dropWhile pl = c :: r) (hc : dig c = true) : reSplit (f + 1) l = l.takeWhile pl :: (c :: r).takeWhile dig :: reSplit f ((c :: r).dropWhile dig) := by
  show (match l.dropWhile pl with
    | [] => [l]
    | c :: r => if dig c = true then l.takeWhile pl :: (c :: r).takeWhile dig :: reSplit f ((c :: r).dropWhile dig) else l.takeWhile pl :: [c] :: reSplit f r) = _
  rw [h]
  exact if_pos hc

/-- plain signs, a numeral, the rest -/
theorem split_num {f : Nat} {p d r : List Nat} (hp : ∀ c ∈ p, pl c = true) (hd : ∀ c ∈ d, dig c = true) (hne : d ≠ []) (hr : ∀ c, r.head? = some c → dig c = false) : reSplit (f + 1) (p ++ (d ++ r)) = p :: d :: reSplit f r := by
  obtain ⟨c, d', rfl⟩ : ∃ c d', d = c :: d' := by
    cases d with
    | nil => exact absurd rfl hne
    | cons c d' => exact ⟨c, d', rfl⟩
  have hc : dig c = true := hd c (List.mem_cons_self ..)
  have h0 : ∀ x, (c :: d' ++ r).head? = some x → pl x = false := fun x hx => by cases hx; exact pl_dig hc
  have e0 : (p ++ (c :: d' ++ r)).dropWhile pl = c :: (d' ++ r) := by rw [drop_all hp, drop_stop h0]; rfl
  have e3 : (p ++ (c :: d' ++ r)).takeWhile pl = p := by rw [take_all hp, take_stop h0, List.append_nil]
  have e1 : (c :: (d' ++ r)).takeWhile dig = c :: d' := by
    show (c :: d' ++ r).takeWhile dig = c :: d'
    rw [take_all hd, take_stop hr, List.append_nil]
  have e2 : (c :: (d' ++ r)).dropWhile dig = r := by
    show (c :: d' ++ r).dropWhile dig = r
    rw [drop_all hd, drop_stop hr]
  rw [split_eq e0 hc, e1, e2, e3]
theorem split_end {f : Nat} {p : List Nat} (hp : ∀ c ∈ p, pl c = true) : reSplit f p = [p] := by
  cases f with
  | zero => rfl
  | succ f =>
    unfold reSplit
    have := drop_all (r := []) hp
    rw [List.append_nil] at this
    rw [this]
    rfl
theorem split_dash {f : Nat} {r : List Nat} : reSplit (f + 1) (45 :: r) = [] :: [45] :: reSplit f r := rfl

theorem dg_facts : ∀ n : Int, small n → (∀ c ∈ dg n, dig c = true) ∧ dg n ≠ [] ∧ (dg n).length ≤ 3 ∧ occ (txt (dg n)) = false ∧ AllDigits (dg n) ∧ ((digitsVal (dg n) : Nat) : Int) = n := by
  have h : ∀ k : Fin 1000, (∀ c ∈ dg (k.val : Int), dig c = true) ∧ dg (k.val : Int) ≠ [] ∧ (dg (k.val : Int)).length ≤ 3 ∧ occ (txt (dg (k.val : Int))) = false ∧ digitsVal (dg (k.val : Int)) = k.val := by decide +kernel
  intro n ⟨h0, h1⟩
  obtain ⟨a, b, c, d, e⟩ := h ⟨n.toNat, by omega⟩
  dsimp only at a b c d e
  rw [show ((n.toNat : Nat) : Int) = n by omega] at a b c d e
  refine ⟨a, b, c, d, fun x hx => ?_, by rw [e]; omega⟩
  have := a x hx
  simp only [dig, Bool.and_eq_true, decide_eq_true_eq] at this
  exact this

theorem num_piece {n : Int} (h : small n) : Piece (dg n) [.num 100, .num n] := by
  obtain ⟨a, b, c, d, e, f⟩ := dg_facts n h
  have := Piece.num d e b (by omega)
  rwa [f] at this
theorem head_dg {n : Int} (h : small n) {r : List Nat} {c : Nat} (hc : (dg n ++ r).head? = some c) : dig c = true := by
  obtain ⟨a, b, _⟩ := dg_facts n h
  cases hd : dg n with
  | nil => exact absurd hd b
  | cons x y =>
    rw [hd] at hc
    cases hc
    exact a c (by rw [hd]; exact List.mem_cons_self ..)
theorem bad_piece {p : List Nat} (h : p ∈ [[40], [41, 40], [41, 41, 40], [41], [41, 41], [41, 41, 41], [34, 40, 34], [92, 40]]) : Piece p [.num 0, .txt (txt p)] := .bad (bads p h).1 (bads p h).2
theorem skip_nil : Piece [] [] := .skip (by decide +kernel)
theorem skip_dash : Piece [45] [] := .skip (by decide +kernel)

/-- four numerals apart -/
theorem split4 {f : Nat} {n₁ n₂ n₃ n₄ : Int} {h p q r e : List Nat} (hsm : ∀ n ∈ [n₁, n₂, n₃, n₄], small n) (h0 : ∀ c ∈ h, pl c = true) (h1 : ∀ c ∈ p, pl c = true) (h2 : ∀ c ∈ q, pl c = true) (h3 : ∀ c ∈ r, pl c = true) (h4 : ∀ c ∈ e, pl c = true) (n1 : p ≠ []) (n2 : q ≠ []) (n3 : r ≠ []) :
    reSplit (f + 4) (h ++ (dg n₁ ++ (p ++ (dg n₂ ++ (q ++ (dg n₃ ++ (r ++ (dg n₄ ++ e)))))))) = [h, dg n₁, p, dg n₂, q, dg n₃, r, dg n₄, e] := by
  have hp : ∀ {p x : List Nat}, p ≠ [] → (∀ c ∈ p, pl c = true) → ∀ c, (p ++ x).head? = some c → dig c = false := fun {p x} hn hp c hc => by
    cases p with
    | nil => exact absurd rfl hn
    | cons a b =>
      cases hc
      have := hp c (List.mem_cons_self ..)
      simp only [pl, Bool.and_eq_true, Bool.not_eq_true'] at this
      exact this.1
  have d1 := dg_facts n₁ (hsm _ (by simp))
  have d2 := dg_facts n₂ (hsm _ (by simp))
  have d3 := dg_facts n₃ (hsm _ (by simp))
  have d4 := dg_facts n₄ (hsm _ (by simp))
  rw [split_num h0 d1.1 d1.2.1 (hp n1 h1), split_num h1 d2.1 d2.2.1 (hp n2 h2), split_num h2 d3.1 d3.2.1 (hp n3 h3), split_num h3 d4.1 d4.2.1 ?_, split_end h4]
  intro c hc
  have : c ∈ e := by
    cases e with
    | nil => cases hc
    | cons a b => cases hc; exact List.mem_cons_self ..
  have := h4 c this
  simp only [pl, Bool.and_eq_true, Bool.not_eq_true'] at this
  exact this.1

theorem text_is {n₁ n₂ n₃ n₄ a b c : Int} {h : List Nat} : lawText [n₁, n₂, n₃, n₄] [a, b, c] h = h ++ (dg n₁ ++ ((par a ++ [40]) ++ (dg n₂ ++ ((par b ++ [40]) ++ (dg n₃ ++ ((par c ++ [40]) ++ (dg n₄ ++ par (0 - a + 1 - b + 1 - c + 1)))))))) := by
  simp [lawText, textGo]

theorem text_len {n₁ n₂ n₃ n₄ : Int} (hsm : ∀ n ∈ [n₁, n₂, n₃, n₄], small n) {j : Nat} (hj : j < 18) : (textOf [n₁, n₂, n₃, n₄] j).cps.size ≤ 40 := by
  have d1 := (dg_facts n₁ (hsm _ (by simp))).2.2.1
  have d2 := (dg_facts n₂ (hsm _ (by simp))).2.2.1
  have d3 := (dg_facts n₃ (hsm _ (by simp))).2.2.1
  have d4 := (dg_facts n₄ (hsm _ (by simp))).2.2.1
  have ha := ahead_small j
  show (lawText [n₁, n₂, n₃, n₄] (wayOf j) (aheadOf j).cps.toList).toArray.size ≤ 40
  unfold wayOf
  rw [text_is, List.size_toArray]
  simp only [List.length_append, par, List.length_replicate, List.length_cons, List.length_nil, Array.length_toList]
  have : (aheadOf j).cps.size ≤ 10 := ha
  omega

theorem text_size {n₁ n₂ n₃ n₄ : Int} (hsm : ∀ n ∈ [n₁, n₂, n₃, n₄], small n) {j : Nat} (hj : j < 5) : (textOf [n₁, n₂, n₃, n₄] j).cps.size ≤ 1000 := Nat.le_trans (text_len hsm (by omega)) (by decide)

theorem pieces_of {n₁ n₂ n₃ n₄ : Int} {a b c : Int} {h : Str} {f : Nat} (hsm : ∀ n ∈ [n₁, n₂, n₃, n₄], small n) (ha : a ∈ [0, 1, 2]) (hb : b ∈ [0, 1, 2]) (hc : c ∈ [0, 1, 2]) (hs : 3 - (a + b + c) ∈ [1, 2, 3]) (hh : h.cps.toList ∈ [[], [34, 40, 34], [92, 40]]) :
    Pieces (reSplit (f + 4) (lawText [n₁, n₂, n₃, n₄] [a, b, c] h.cps.toList)) (lawRanks [n₁, n₂, n₃, n₄] [a, b, c] h) := by
  have pk : ∀ a ∈ [(0 : Int), 1, 2], (∀ c ∈ par a ++ [40], pl c = true) ∧ par a ++ [40] ∈ [[40], [41, 40], [41, 41, 40], [41], [41, 41], [41, 41, 41], [34, 40, 34], [92, 40]] := by decide +kernel
  have ek : ∀ a ∈ [(1 : Int), 2, 3], (∀ c ∈ par a, pl c = true) ∧ par a ∈ [[40], [41, 40], [41, 41, 40], [41], [41, 41], [41, 41, 41], [34, 40, 34], [92, 40]] := by decide +kernel
  have hk : ∀ h ∈ [[], [34, 40, 34], [92, 40]], (∀ c ∈ h, pl c = true) ∧ (h ≠ [] → h ∈ [[40], [41, 40], [41, 41, 40], [41], [41, 41], [41, 41, 41], [34, 40, 34], [92, 40]]) := by decide +kernel
  have he : 0 - a + 1 - b + 1 - c + 1 = 3 - (a + b + c) := by omega
  rw [text_is, he, split4 hsm (hk _ hh).1 (pk a ha).1 (pk b hb).1 (pk c hc).1 (ek _ hs).1 (by simp) (by simp) (by simp)]
  have hp : Piece h.cps.toList (if h.cps.toList != [] then [.num 0, .txt h] else []) := by
    by_cases hn : h.cps.toList = []
    · rw [hn]; exact skip_nil
    · rw [show (h.cps.toList != []) = true by simpa using hn, if_pos rfl]
      have := bad_piece ((hk _ hh).2 hn)
      rwa [show txt h.cps.toList = h from rfl] at this
  have key := Pieces.cons hp (.cons (num_piece (hsm n₁ (by simp))) (.cons (bad_piece (pk a ha).2) (.cons (num_piece (hsm n₂ (by simp))) (.cons (bad_piece (pk b hb).2) (.cons (num_piece (hsm n₃ (by simp))) (.cons (bad_piece (pk c hc).2) (.cons (num_piece (hsm n₄ (by simp))) (.cons (bad_piece (ek _ hs).2) .nil))))))))
  have e : lawRanks [n₁, n₂, n₃, n₄] [a, b, c] h = (if h.cps.toList != [] then [.num 0, .txt h] else []) ++ ([.num 100, .num n₁] ++ ([.num 0, .txt (txt (par a ++ [40]))] ++ ([.num 100, .num n₂] ++ ([.num 0, .txt (txt (par b ++ [40]))] ++ ([.num 100, .num n₃] ++ ([.num 0, .txt (txt (par c ++ [40]))] ++ ([.num 100, .num n₄] ++ ([.num 0, .txt (txt (par (3 - (a + b + c))))] ++ [])))))))) := by
    unfold lawRanks
    have es : [a, b, c].sum = a + b + c := by simp; omega
    rw [es]
    simp [ranksGo, txt', txt]
  rw [e]
  exact key

theorem pieces_text {n₁ n₂ n₃ n₄ : Int} (hsm : ∀ n ∈ [n₁, n₂, n₃, n₄], small n) {j : Nat} (hj : j < 5) :
    Pieces (reSplit ((textOf [n₁, n₂, n₃, n₄] j).cps.size + 1) (textOf [n₁, n₂, n₃, n₄] j).cps.toList) (lawRanks [n₁, n₂, n₃, n₄] (wayOf j) (aheadOf j)) := by
  obtain ⟨f, hf⟩ : ∃ f, (textOf [n₁, n₂, n₃, n₄] j).cps.size + 1 = f + 4 := by
    have e : (textOf [n₁, n₂, n₃, n₄] j).cps.size = (lawText [n₁, n₂, n₃, n₄] (wayOf j) (aheadOf j).cps.toList).length := List.size_toArray ..
    refine ⟨(textOf [n₁, n₂, n₃, n₄] j).cps.size + 1 - 4, ?_⟩
    rw [e]
    unfold wayOf
    rw [text_is]
    simp only [List.length_append, List.length_cons, List.length_nil]
    have d1 := List.length_pos_iff.mpr (dg_facts n₁ (hsm _ (by simp))).2.1
    omega
  rw [hf]
  have hw : ∀ j ∈ List.range 5, ∃ a b c, wayOf j = [a, b, c] ∧ a ∈ [(0 : Int), 1, 2] ∧ b ∈ [(0 : Int), 1, 2] ∧ c ∈ [(0 : Int), 1, 2] ∧ 3 - (a + b + c) ∈ [(1 : Int), 2, 3] ∧ (aheadOf j).cps.toList ∈ [[], [34, 40, 34], [92, 40]] := by
    intro j hj
    refine ⟨_, _, _, rfl, ?_⟩
    have : ∀ j ∈ List.range 5, ((j / 9 : Nat) : Int) ∈ [(0 : Int), 1, 2] ∧ ((j / 3 % 3 : Nat) : Int) ∈ [(0 : Int), 1, 2] ∧ ((j % 3 : Nat) : Int) ∈ [(0 : Int), 1, 2] ∧ 3 - (((j / 9 : Nat) : Int) + ((j / 3 % 3 : Nat) : Int) + ((j % 3 : Nat) : Int)) ∈ [(1 : Int), 2, 3] ∧ (aheadOf j).cps.toList ∈ [[], [34, 40, 34], [92, 40]] := by decide +kernel
    exact this j hj
  obtain ⟨a, b, c, hw, ha, hb, hc, hs, hh⟩ := hw j (List.mem_range.mpr hj)
  show Pieces (reSplit (f + 4) (lawText [n₁, n₂, n₃, n₄] (wayOf j) (aheadOf j).cps.toList)) _
  rw [hw]
  exact pieces_of hsm ha hb hc hs hh

theorem dg_range {n : Int} (h : small n) : ∀ c ∈ dg n, 48 ≤ c ∧ c ≤ 57 := fun c hc => by
  have := (dg_facts n h).1 c hc
  simpa [dig] using this

/-- the signs of a text of the law's -/
theorem text_signs {n₁ n₂ n₃ n₄ : Int} (hsm : ∀ n ∈ [n₁, n₂, n₃, n₄], small n) {j : Nat} (hj : j < 18) : ∀ c ∈ (textOf [n₁, n₂, n₃, n₄] j).cps.toList, (48 ≤ c ∧ c ≤ 57) ∨ c = 34 ∨ c = 40 ∨ c = 41 ∨ c = 92 := by
  have e : (textOf [n₁, n₂, n₃, n₄] j).cps.toList = lawText [n₁, n₂, n₃, n₄] (wayOf j) (aheadOf j).cps.toList := rfl
  rw [e]
  unfold wayOf
  rw [text_is]
  have hp : ∀ m c, c ∈ par m → c = 41 := fun m c hc => (List.mem_replicate.mp hc).2
  have ha : ∀ j ∈ List.range 18, ∀ c ∈ (aheadOf j).cps.toList, c = 34 ∨ c = 40 ∨ c = 41 ∨ c = 92 := by decide +kernel
  intro c hc
  simp only [List.mem_append, List.mem_singleton] at hc
  rcases hc with hc | hc | (hc | hc) | hc | (hc | hc) | hc | (hc | hc) | hc | hc
  · exact .inr (ha j (List.mem_range.mpr hj) c hc)
  · exact .inl (dg_range (hsm _ (by simp)) c hc)
  · exact .inr (.inr (.inr (.inl (hp _ _ hc))))
  · exact .inr (.inr (.inl hc))
  · exact .inl (dg_range (hsm _ (by simp)) c hc)
  · exact .inr (.inr (.inr (.inl (hp _ _ hc))))
  · exact .inr (.inr (.inl hc))
  · exact .inl (dg_range (hsm _ (by simp)) c hc)
  · exact .inr (.inr (.inr (.inl (hp _ _ hc))))
  · exact .inr (.inr (.inl hc))
  · exact .inl (dg_range (hsm _ (by simp)) c hc)
  · exact .inr (.inr (.inr (.inl (hp _ _ hc))))

end Mine
end

section
namespace Mine
open PySem PySem.W PyProof.Rows PySem.Calls

/-- the count of the open brackets, sign by sign -/
def chkL : List Nat → Int → Bool
  | [], o => o == 0
  | c :: r, o => if c = 40 then chkL r (o + 1) else if c = 41 then (if o - 1 < 0 then false else chkL r (o - 1)) else chkL r o
theorem chk_esc : ∀ (y : List Nat) (p : Nat) (o : Int), 92 ∉ y → chkItems (escItems y p false) o = chkL y o
  | [], _, _, _ => rfl
  | c :: r, p, o, h => by
    have hc : c ≠ 92 := fun e => h (by simp [e])
    have hr : 92 ∉ r := fun e => h (by simp [e])
    show chkItems (if c = 92 then _ else _) o = _
    rw [if_neg hc]
    show (if [c] = [40] then chkItems (escItems r (p + 1) false) (o + 1) else if [c] = [41] then (if o - 1 < 0 then false else chkItems (escItems r (p + 1) false) (o - 1)) else chkItems (escItems r (p + 1) false) o) = (if c = 40 then chkL r (o + 1) else if c = 41 then (if o - 1 < 0 then false else chkL r (o - 1)) else chkL r o)
    rw [chk_esc r (p + 1) _ hr, chk_esc r (p + 1) _ hr, chk_esc r (p + 1) _ hr]
    simp
theorem chkL_num : ∀ {d r : List Nat} {o : Int}, (∀ c ∈ d, 48 ≤ c ∧ c ≤ 57) → chkL (d ++ r) o = chkL r o
  | [], _, _, _ => rfl
  | c :: d, r, o, h => by
    have hc := h c (List.mem_cons_self ..)
    show (if c = 40 then _ else if c = 41 then _ else chkL (d ++ r) o) = _
    rw [if_neg (by omega), if_neg (by omega)]
    exact chkL_num fun x hx => h x (List.mem_cons_of_mem _ hx)
theorem chkL_rep : ∀ (k : Nat) (r : List Nat) (o : Int), 0 ≤ o → chkL (List.replicate k 41 ++ r) o = if o < (k : Int) then false else chkL r (o - k)
  | 0, r, o, h => by
    rw [if_neg (by omega)]
    show chkL r o = _
    congr 1
    omega
  | k + 1, r, o, h => by
    show (if (41 : Nat) = 40 then _ else if (41 : Nat) = 41 then (if o - 1 < 0 then false else chkL (List.replicate k 41 ++ r) (o - 1)) else _) = _
    rw [if_neg (by decide), if_pos rfl]
    by_cases h1 : o - 1 < 0
    · rw [if_pos h1, if_pos (by omega)]
    · rw [if_neg h1, chkL_rep k r (o - 1) (by omega)]
      by_cases h2 : o - 1 < (k : Int)
      · rw [if_pos h2, if_pos (by omega)]
      · rw [if_neg h2, if_neg (by omega)]
        congr 1
        omega
theorem chkL_par {m o : Int} {r : List Nat} (hm : 0 ≤ m) (ho : 0 ≤ o) : chkL (par m ++ r) o = if o < m then false else chkL r (o - m) := by
  unfold par
  rw [chkL_rep _ _ _ ho, show ((m.toNat : Nat) : Int) = m by omega]
theorem chkL_open {o : Int} {r : List Nat} : chkL (40 :: r) o = chkL r (o + 1) := rfl

theorem chk_law {n₁ n₂ n₃ n₄ a b c : Int} (hsm : ∀ n ∈ [n₁, n₂, n₃, n₄], small n) (ha : 0 ≤ a) (hb : 0 ≤ b) (hc : 0 ≤ c) : chkL (lawText [n₁, n₂, n₃, n₄] [a, b, c] []) 0 = lawTree [a, b, c] 0 := by
  rw [text_is, List.nil_append, chkL_num (dg_range (hsm _ (by simp))), List.append_assoc, chkL_par ha (by omega)]
  show _ = (if (0 : Int) < a then false else lawTree [b, c] (0 - a + 1))
  by_cases h1 : (0 : Int) < a
  · rw [if_pos h1, if_pos h1]
  rw [if_neg h1, if_neg h1, List.singleton_append, chkL_open, chkL_num (dg_range (hsm _ (by simp))), List.append_assoc, chkL_par hb (by omega)]
  show _ = (if (0 - a + 1 : Int) < b then false else lawTree [c] (0 - a + 1 - b + 1))
  by_cases h2 : (0 - a + 1 : Int) < b
  · rw [if_pos h2, if_pos h2]
  rw [if_neg h2, if_neg h2, List.singleton_append, chkL_open, chkL_num (dg_range (hsm _ (by simp))), List.append_assoc, chkL_par hc (by omega)]
  show _ = (if (0 - a + 1 - b + 1 : Int) < c then false else lawTree [] (0 - a + 1 - b + 1 - c + 1))
  by_cases h3 : (0 - a + 1 - b + 1 : Int) < c
  · rw [if_pos h3, if_pos h3]
  rw [if_neg h3, if_neg h3, List.singleton_append, chkL_open, chkL_num (dg_range (hsm _ (by simp)))]
  have := chkL_par (m := 0 - a + 1 - b + 1 - c + 1) (o := 0 - a + 1 - b + 1 - c + 1) (r := []) (by omega) (by omega)
  rw [List.append_nil] at this
  rw [this, if_neg (by omega)]
  show decide _ = true
  exact decide_eq_true (by omega)

section
variable {prog : Program} {w : World} {A : Around} {E : Value → Shared → Prop} {s : Shared}
theorem check_text4 {n₁ n₂ n₃ n₄ : Int} {j : Nat} {t : Tok} {Q : Value → Shared → Prop} (g : Gr w s.heap) (hh : A.handled = none) (hroom : A.depth + 4 < recursionLimit) (hsm : ∀ n ∈ [n₁, n₂, n₃, n₄], small n) (hj : j < 18)
    (hQ : ∀ s', Ok w s s' → Q (.bool (lawTree (wayOf j) 0)) s') : wpAny (model prog w) A (call (.ref 72) [.str (textOf [n₁, n₂, n₃, n₄] j) t]) Q E s := by
  obtain ⟨y, hy⟩ : ∃ y, y = lawText [n₁, n₂, n₃, n₄] (wayOf j) [] := ⟨_, rfl⟩
  have hyr : ∀ c ∈ y, (48 ≤ c ∧ c ≤ 57) ∨ c = 40 ∨ c = 41 := by
    have hp : ∀ m c, c ∈ par m → c = 41 := fun m c hc => (List.mem_replicate.mp hc).2
    intro c hc
    rw [hy] at hc
    unfold wayOf at hc
    rw [text_is] at hc
    simp only [List.mem_append, List.mem_singleton, List.not_mem_nil, false_or] at hc
    rcases hc with hc | (hc | hc) | hc | (hc | hc) | hc | (hc | hc) | hc | hc
    · exact .inl (dg_range (hsm _ (by simp)) c hc)
    · exact .inr (.inr (hp _ _ hc))
    · exact .inr (.inl hc)
    · exact .inl (dg_range (hsm _ (by simp)) c hc)
    · exact .inr (.inr (hp _ _ hc))
    · exact .inr (.inl hc)
    · exact .inl (dg_range (hsm _ (by simp)) c hc)
    · exact .inr (.inr (hp _ _ hc))
    · exact .inr (.inl hc)
    · exact .inl (dg_range (hsm _ (by simp)) c hc)
    · exact .inr (.inr (hp _ _ hc))
  have h92 : 92 ∉ y := fun hm => by have := hyr 92 hm; omega
  have h34 : 34 ∉ y := fun hm => by have := hyr 34 hm; omega
  have hchk : chkL y 0 = lawTree (wayOf j) 0 := by
    rw [hy]
    exact chk_law hsm (by omega) (by omega) (by omega)
  have htx : ∀ h, lawText [n₁, n₂, n₃, n₄] (wayOf j) h = h ++ y := fun h => by
    rw [hy]
    unfold wayOf
    rw [text_is, text_is]; rfl
  have hT : textOf [n₁, n₂, n₃, n₄] j = ⟨((aheadOf j).cps.toList ++ y).toArray⟩ := by
    show (⟨(lawText [n₁, n₂, n₃, n₄] (wayOf j) (aheadOf j).cps.toList).toArray⟩ : Str) = _
    rw [htx]
  have hlen : y.length ≤ 1000 := by
    have := text_len hsm hj
    rw [hT] at this
    simp at this
    omega
  have hne : y ≠ [] := by
    have d := (dg_facts n₁ (hsm _ (by simp))).2.1
    rw [hy]
    unfold wayOf
    rw [text_is]
    simp
  have hh3 : (aheadOf j).cps.toList = [] ∨ (aheadOf j).cps.toList = [34, 40, 34] ∨ (aheadOf j).cps.toList = [92, 40] := by
    have : ∀ j ∈ List.range 18, (aheadOf j).cps.toList = [] ∨ (aheadOf j).cps.toList = [34, 40, 34] ∨ (aheadOf j).cps.toList = [92, 40] := by decide +kernel
    exact this j (List.mem_range.mpr hj)
  have hall : ∀ l : List Nat, (∀ c ∈ l, c < 128) → ((⟨l.toArray⟩ : Str).cps.all (· < 128)) = true := fun l hl => by
    rw [← Array.all_toList, List.all_eq_true]
    intro c hc
    exact decide_eq_true (hl c hc)
  have hy128 : ∀ c ∈ y, c < 128 := fun c hc => by have := hyr c hc; omega
  rw [hT]
  rcases hh3 with h | h | h
  · rw [h, List.nil_append]
    refine check_of (z := ⟨y.toArray⟩) g hh hroom (fun B s₁ Q₁ hB hd g₁ hq => strip_plain g₁ (by omega) h34 fun s' o _ => hq s' t o) (hall y hy128) (escEnd_plain _ h92) fun s' o => ?_
    have e : chkItems (escItems y 0 false) 0 = lawTree (wayOf j) 0 := (chk_esc y 0 0 h92).trans hchk
    exact e ▸ hQ s' o
  · rw [h]
    refine check_of (z := ⟨y.toArray⟩) g hh hroom (fun B s₁ Q₁ hB hd g₁ hq => strip_quoted g₁ hB (by omega) h34 h92 hne hy128 hlen hq) (hall y hy128) (escEnd_plain _ h92) fun s' o => ?_
    have e : chkItems (escItems y 0 false) 0 = lawTree (wayOf j) 0 := (chk_esc y 0 0 h92).trans hchk
    exact e ▸ hQ s' o
  · rw [h]
    have e34 : 34 ∉ ([92, 40] ++ y) := fun hm => by
      rcases List.mem_append.mp hm with hm | hm
      · simp at hm
      · exact h34 hm
    refine check_of (z := ⟨([92, 40] ++ y).toArray⟩) g hh hroom (fun B s₁ Q₁ hB hd g₁ hq => strip_plain g₁ (by omega) e34 fun s' o _ => hq s' t o) (hall _ fun c hc => ?_) (escEnd_plain y h92) fun s' o => ?_
    · rcases List.mem_append.mp hc with hm | hm
      · simp at hm; omega
      · exact hy128 c hm
    · have e : chkItems (escItems ([92, 40] ++ y) 0 false) 0 = lawTree (wayOf j) 0 := (chk_esc y 2 0 h92).trans hchk
      exact e ▸ hQ s' o
/-- _check_parenthesis of a text of the law's -/
theorem check_text {ns : List Int} {j : Nat} {t : Tok} {Q : Value → Shared → Prop} (g : Gr w s.heap) (hh : A.handled = none) (hroom : A.depth + 4 < recursionLimit) (hns : ns.length = 4) (hsm : ∀ n ∈ ns, small n) (hj : j < 18)
    (hQ : ∀ s', Ok w s s' → Q (.bool (lawTree (wayOf j) 0)) s') : wpAny (model prog w) A (call (.ref 72) [.str (textOf ns j) t]) Q E s := by
  match ns, hns with
  | [n₁, n₂, n₃, n₄], _ => exact check_text4 g hh hroom hsm hj hQ
end
end Mine
end

section
namespace Mine
open PySem PySem.W PyProof.Rows PySem.Calls
open Sem (wp)

abbrev nm5 : List (Str × NameKind) := [(Str.ofString ".0", .local), (Str.ofString "text", .local), (Str.ofString "_check_parenthesis", .globalImplicit)]
abbrev nm5' : List (Str × NameKind) := [(Str.ofString ".0", .local), (Str.ofString "j", .local), (Str.ofString "_law_tree", .globalImplicit), (Str.ofString "ways", .free)]
def treeAt (j : Nat) : Bool := lawTree (wayOf j) 0
theorem trees_are : (List.range 18).filterMap (fun (j : Nat) => if treeAt j then some (PyData.int (j : Int)) else none) = (List.range 5).map fun (j : Nat) => PyData.int (j : Int) := by kernel_rfl

section
variable {prog : Program} {w : World} {A : Around} {E : Value → Shared → Prop} {S s : Shared} {env : Env} {F : Addr} {l cm : List (Str × Value)}

set_option maxHeartbeats 1000000 in
/-- told, trees = [..], [..] -/
theorem st_told {p1 p2 p3 p4 p5 p6 p7 p8 p9 p10 p11 p12 p13 p14 p15 p16 p17 p18 p19 p20 p21 p22 : Pos} {k1 k2 k3 : Nat} {ns : List Int} {vt vw : Value} {Q : Flow → Shared → Prop}
    (V : LV env F) (ls : LS w S env F l cm s) (hh : A.handled = none) (hroom : A.depth + 4 < recursionLimit) (h1 : cm.lookup (Str.ofString "texts") = some vt) (h2 : cm.lookup (Str.ofString "ways") = some vw)
    (kt : Kn (XX env F) s.heap vt (.list ((List.range 18).map fun j => .str (textOf ns j)))) (kw : Kn (XX env F) s.heap vw (.list ((List.range 18).map fun j => intsD (wayOf j))))
    (hns : ns.length = 4) (hsm : ∀ n ∈ ns, small n)
    (h : ∀ v u s₂, LS w S env F ((Str.ofString "told", v) :: l) ((Str.ofString "trees", u) :: cm) s₂ → (∀ u d, Kn (XX env F) s.heap u d → Kn (XX env F) s₂.heap u d) → Kn (XX env F) s₂.heap v (.list ((List.range 18).map fun j => .bool (treeAt j))) →
      Kn (XX env F) s₂.heap u (.list ((List.range 5).map fun (j : Nat) => .int (j : Int))) → Q .next s₂) :
    wpR (model prog w) A (exec (.Assign [.Tuple [.Name (Str.ofString "told") p1, .Name (Str.ofString "trees") p2] k1 p3] (.Tuple [
      .ListComp (.Call (.Name (Str.ofString "_check_parenthesis") p4) [.Name (Str.ofString "text") p5] [] p6) [⟨.Name (Str.ofString "text") p7, .Name (Str.ofString "texts") p8, [], 0⟩] (scp nm5) p9,
      .ListComp (.Name (Str.ofString "j") p10) [⟨.Name (Str.ofString "j") p11, .Call (.Name (Str.ofString "range") p12) [.Constant (.int 18) k2 p13] [] p14, [.Call (.Name (Str.ofString "_law_tree") p15) [.Subscript (.Name (Str.ofString "ways") p16) (.Name (Str.ofString "j") p17) p18] [] p19], 0⟩] (scp nm5') p20] k3 p21) p22) env) Q (fun _ _ => False) s := by
  refine R.AssignTuple rfl ?_ (R.TupleE (R.items_cons ?_))
  · have e1 : (lawNs.lookup (Str.ofString "told")) = some .local := rfl
    have e2 : (lawNs.lookup (Str.ofString "trees")) = some .cell := rfl
    unfold swappedStores
    simp [V.block, V.le.e.names, e1, e2, PySem.Expr.pos]
  refine R.lcompL V ls hh (cl := []) rfl (by decide) (by decide) rfl ((List.range 18).map fun j => .str (textOf ns j)) (by simp)
    (ldc V.le.e (c := F + 5) (by rw [V.cells]; rfl) (ls.val V rfl h1) (Itm.of ls kt rfl)) (fun _ => rfl) (fun j => some (.bool (treeAt j))) ?_ ?_
  · intro C i u d s₄ l' hd ec hC ls₄ hkn hn hx ku
    have hi : i < 18 := by
      rcases Nat.lt_or_ge i 18 with h | h
      · exact h
      · rw [List.getElem?_eq_none (by simpa using h)] at hd; cases hd
    have hd' : d = .str (textOf ns i) := by simpa [hi] using hd.symm
    subst hd'
    obtain ⟨t, rfl⟩ := ku.str
    rw [tests_nil]
    refine R.pure ⟨rfl, Lt.refl ls₄.gr, fun d hd => ?_⟩
    cases hd
    refine R.of (callF1 ec ls₄.gr.unrid rfl rfl rfl rfl (by decide) (ld ec hn hx ⟨ls₄.gr.unrid, ?_⟩ rfl))
    exact check_text ls₄.gr.unrid hh hroom hns hsm hi fun s₅ o₅ => ⟨Lt.of_ok o₅ ls₄.gr V.le.F46, [], .bool _, by simp⟩
  intro s₁ r ls₁ lt₁ hk₁ kr
  refine R.items_cons ?_
  refine R.lcomp18 V ls₁ hh (cl := [(Str.ofString "ways", F + 3)]) rfl (by decide) (by decide) rfl (fun j => if treeAt j then some (PyData.int (j : Int)) else none) ?_ ?_
  · intro C i t s₄ l' hi ec hC ls₄ hkn hn hj
    rw [tests_one]
    refine R.of (wpAny_isTrue_value (callF1 ec ls₄.gr.unrid rfl rfl rfl rfl (by decide) (itemC ec (c := F + 3) rfl (ls₄.val V rfl h2) (hkn _ _ (hk₁ _ _ kw)) hn hj (d := intsD (wayOf i)) (by simp [hi]) (by omega) (fun u ku => ⟨ls₄.gr.unrid, ?_⟩) rfl rfl)))
    obtain ⟨cl, us, rfl, hcl, hi2, _⟩ := ku.ints
    refine law_tree ls₄.gr.unrid hh (by omega) hcl.isList hi2 fun s₅ o₅ hg₅ => wpAny_truthy_bool ?_
    have lt₅ := Lt.of_ok o₅ ls₄.gr V.le.F46
    have hC46 : C ≠ 46 := fun z => ls₁.lives V.le 46 X46 (z ▸ hC)
    have hCF : C ≠ F := fun z => ls₁.F0 (z ▸ hC)
    refine ⟨?_, lt₅, fun d hd => ?_⟩
    · show treeAt i = _
      cases treeAt i <;> rfl
    · by_cases ht : treeAt i = true
      · rw [if_pos ht] at hd
        cases hd
        exact R.of (ld ec (lt₅.ns_at hC46 hCF hn) hj ⟨Lt.refl lt₅.gr, [], .int _ _, by simp⟩ rfl)
      · rw [if_neg ht] at hd; cases hd
  intro s₂ r₂ ls₂ lt₂ hk₂ kr₂
  rw [trees_are] at kr₂
  refine R.items_nil ⟨by rw [sizeLine_eq]; show 2 ≤ 16777216; decide, ?_⟩
  -- unpacked
  have lt₃ : Lt w F s₂ { s₂ with heap := s₂.heap.push { cls := .type "tuple", data := .seq [Value.ref r, .ref r₂].toArray } } := Lt.up ls₂.gr fun b o q => Heap.get?_push_of_some _ q
  have ls₃ := ls₂.lt V.le lt₃
  refine wpAny_assign_Tuple (items := #[.ref r, .ref r₂]) hh ⟨_, Heap.get?_push_size _ rfl, rfl, _, rfl⟩ rfl rfl fun h₄ hx₄ => ?_
  have lt₄ := lt₃.set (h' := h₄) (t := s₂.toks) (fun b o hb q => hx₄ b o (fun z => hb (by
    rw [z]
    cases e : s₂.heap.get? (s₂.heap.push { cls := .type "tuple", data := .seq [Value.ref r, .ref r₂].toArray }).objs.size with
    | none => rfl
    | some o' => have := Heap.lt_size e; rw [Heap.size_push] at this; exact absurd this (Nat.not_lt.mpr (Nat.le_succ _)))) q) ls₂.F0
  have ls₄ := ls₂.lt V.le lt₄
  refine wpAny_assignInOrder_more (wpAny_assign_Name (ls₄.st V.le rfl fun s₅ ls₅ hk₅ => ?_))
  refine wpAny_assignInOrder_more (wpAny_assign_Name (ls₅.stc V.le rfl (c := F + 6) (by rw [V.cells]; rfl) fun s₆ ls₆ hk₆ => wpAny_assignInOrder_none ?_))
  exact h _ _ s₆ ls₆ (fun u d k => hk₆ _ _ (hk₅ _ _ (lt₄.kn' (hk₂ _ _ (hk₁ _ _ k))))) (hk₆ _ _ (hk₅ _ _ (lt₄.kn' (hk₂ _ _ kr)))) (hk₆ _ _ (hk₅ _ _ (lt₄.kn' kr₂)))
end
end Mine
end

section
namespace Mine
open PySem PySem.W PyProof.Rows PySem.Calls
open Sem (wp)
section
variable {M : Model} {A : Around} {E : Value → Shared → Prop} {s : Shared} {env : Env}
theorem R.cmp2 {l op r pos whole} {Q : Bool → Shared → Prop}
    (h : wpR M A (eval l env) (fun a s₁ => wpR M A (eval r env) (fun b s₂ => wpAny M A (compareOp op a b) (fun c s₃ => wpAny M A (truthy c) Q E s₃) E s₂) E s₁) E s)
    (hm : behindInMarks op r = false := by with_unfolding_all rfl) : wpR M A (isTrue (.Compare l [op] [r] pos) env whole) Q E s := fun Γ p hΓ hc => by
  simp only [isTrue_Compare1, markedBehindIn_of_false hm, Sem.wp_bind', Sem.wp_holding, Sem.wp_cmd_standAt, Sem.wp_operate]
  exact Sem.wp_mono M Γ _ (fun a p₁ s₁ h₁ => Sem.wp_mono M Γ _ (fun b _ s₂ h₂ => Sem.wp_mono M Γ _ (fun c p₃ s₃ h₃ => h₃ Γ p₃ hΓ)
    (fun _ _ _ h' => h') _ _ (h₂ Γ _ hΓ)) (fun _ _ _ h' => h') _ _ (h₁ Γ p₁ hΓ hc)) (fun _ _ _ h' => h') _ _ (h Γ p hΓ hc)
theorem R.orNil {Q : Bool → Shared → Prop} (h : Q false s) : wpR M A (allTrue .Or [] env) Q E s := R.pure h
theorem R.orCons2 {x : PySem.Expr} {rest : List PySem.Expr} {Q : Bool → Shared → Prop}
    (h : wpR M A (PySem.isTrue x env (eval x env)) (fun b s₁ => if b then Q true s₁ else wpR M A (allTrue .Or rest env) Q E s₁) E s) : wpR M A (allTrue .Or (x :: rest) env) Q E s := by
  show wpR M A (do match BoolOp.Or, ← PySem.isTrue x env (eval x env) with | .And, false => Pure.pure false | .Or, true => Pure.pure true | _, _ => allTrue .Or rest env) Q E s
  refine R.bind (R.mono h (fun b s₁ h₁ => ?_) fun _ _ x => x)
  cases b
  · exact h₁
  · exact R.pure h₁
/-- if e or e': return False, neither true -/
theorem R.ifNot {x y : PySem.Expr} {body : List Stmt} {p1 p2 : Pos} {Q : Flow → Shared → Prop}
    (h : wpR M A (PySem.isTrue x env (eval x env)) (fun b s₁ => b = false ∧ wpR M A (PySem.isTrue y env (eval y env)) (fun b s₂ => b = false ∧ Q .next s₂) E s₁) E s) :
    wpR M A (exec (.If (.BoolOp .Or [x, y] p1) body [] p2) env) Q E s := by
  refine R.If (R.orCons (R.mono h (fun b s₁ q => ?_) fun _ _ z => z))
  obtain ⟨rfl, q⟩ := q
  rw [if_neg Bool.false_ne_true]
  refine R.orCons2 (R.mono q (fun b s₂ q => ?_) fun _ _ z => z)
  obtain ⟨rfl, q⟩ := q
  rw [if_neg Bool.false_ne_true]
  refine R.orNil ?_
  rw [if_neg Bool.false_ne_true]
  exact R.of (wpAny_execs_nil q)
end
section
variable {prog : Program} {w : World} {A : Around} {E : Value → Shared → Prop} {s : Shared} {X : List Addr}
theorem Kn.reads {v : Value} {d : PyData} (k : Kn X s.heap v d) : ∃ as, Reads s.heap v d as := let ⟨as, r, _⟩ := k; ⟨as, r.reads⟩
/-- the same data: not other -/
theorem ne_same {a b : Value} {d : PyData} {Q : Bool → Shared → Prop} (ka : Kn X s.heap a d) (kb : Kn X s.heap b d) (hs : SeqAt.shaped d = true) (hu : A.units + 64 < cLine) (h : Q false s) :
    wpAny (model prog w) A (compareOp .NotEq a b) (fun c s₃ => wpAny (model prog w) A (truthy c) Q E s₃) E s := by
  obtain ⟨as, ra⟩ := ka.reads
  obtain ⟨bs, rb⟩ := kb.reads
  refine ne_dataH ra rb hs hs hu ?_
  rw [SeqAt.eqv_refl d (SeqAt.canLay_of_shaped hs)]
  exact wpAny_truthy_bool h
theorem eq_same {a b : Value} {d : PyData} {Q : Value → Shared → Prop} (ka : Kn X s.heap a d) (kb : Kn X s.heap b d) (hs : SeqAt.shaped d = true) (hu : A.units + 64 < cLine) (h : Q (.bool true) s) :
    wpAny (model prog w) A (compareOp .Eq a b) Q E s := by
  obtain ⟨as, ra⟩ := ka.reads
  obtain ⟨bs, rb⟩ := kb.reads
  refine eq_dataH ra rb hs hs hu ?_
  rw [SeqAt.eqv_refl d (SeqAt.canLay_of_shaped hs)]
  exact h
end
end Mine
end

section
namespace Mine
open PySem PySem.W PyProof.Rows PySem.Calls
open Sem (wp)

abbrev nm6 : List (Str × NameKind) := [(Str.ofString ".0", .local), (Str.ofString "j", .local), (Str.ofString "trees", .free)]
abbrev nm6' : List (Str × NameKind) := [(Str.ofString ".0", .local), (Str.ofString "answer", .local), (Str.ofString "type", .globalImplicit), (Str.ofString "bool", .globalImplicit)]

theorem in_five : ∀ i ∈ List.range 18, (((List.range 5).map fun (j : Nat) => PyData.int (j : Int)).any fun y => PyData.eqv y (.int (i : Int))) = treeAt i := by decide +kernel

section
variable {prog : Program} {w : World} {A : Around} {E : Value → Shared → Prop} {S s : Shared} {env : Env} {F : Addr} {l cm : List (Str × Value)}

set_option maxHeartbeats 1000000 in
/-- if told != [..] or [..] != []: return False -/
theorem st_if1 {p1 p2 p3 p4 p5 p6 p7 p8 p9 p10 p11 p12 p13 p14 p15 p16 p17 p18 p19 p20 p21 p22 p23 : Pos} {k1 : Nat} {body : List Stmt} {vt vd : Value} {Q : Flow → Shared → Prop}
    (V : LV env F) (ls : LS w S env F l cm s) (hh : A.handled = none) (hu : A.units + 64 < cLine) (h1 : cm.lookup (Str.ofString "trees") = some vt) (h2 : l.lookup (Str.ofString "told") = some vd)
    (kt : Kn (XX env F) s.heap vt (.list ((List.range 5).map fun (j : Nat) => .int (j : Int)))) (kd : Kn (XX env F) s.heap vd (.list ((List.range 18).map fun j => .bool (treeAt j))))
    (h : ∀ s₂, LS w S env F l cm s₂ → (∀ u d, Kn (XX env F) s.heap u d → Kn (XX env F) s₂.heap u d) → Q .next s₂) :
    wpR (model prog w) A (exec (.If (.BoolOp .Or [
      .Compare (.Name (Str.ofString "told") p1) [.NotEq] [.ListComp (.Compare (.Name (Str.ofString "j") p2) [.In] [.Name (Str.ofString "trees") p3] p4) [⟨.Name (Str.ofString "j") p5, .Call (.Name (Str.ofString "range") p6) [.Constant (.int 18) k1 p7] [] p8, [], 0⟩] (scp nm6) p9] p10,
      .Compare (.ListComp (.Name (Str.ofString "answer") p11) [⟨.Name (Str.ofString "answer") p12, .Name (Str.ofString "told") p13, [.Compare (.Call (.Name (Str.ofString "type") p14) [.Name (Str.ofString "answer") p15] [] p16) [.IsNot] [.Name (Str.ofString "bool") p17] p18], 0⟩] (scp nm6') p19) [.NotEq] [.List [] p20] p21] p22) body [] p23) env) Q (fun _ _ => False) s := by
  refine R.ifNot (R.cmp2 (R.of (ld V.le.e ls.ns h2 ?_ rfl)))
  refine R.lcomp18 V ls hh (cl := [(Str.ofString "trees", F + 6)]) rfl (by decide) (by decide) rfl (fun j => some (.bool (treeAt j))) ?_ ?_
  · intro C i t s₄ l' hi ec hC ls₄ hkn hn hj
    rw [tests_nil]
    refine R.pure ⟨rfl, Lt.refl ls₄.gr, fun d hd => ?_⟩
    cases hd
    obtain ⟨as, ra⟩ := (hkn _ _ kt).reads
    refine R.of (wpAny_Compare1 (ld ec hn hj (ldc ec (c := F + 6) rfl (ls₄.val V rfl h1) (SeqAt.in_list_reads ra (.int (i : Int) t) (by decide) rfl (by show A.units + 1 + min _ 0 < cLine; omega) ?_)) rfl))
    rw [in_five i (List.mem_range.mpr hi)]
    exact ⟨Lt.refl ls₄.gr, [], .bool _, by simp⟩
  intro s₁ r ls₁ lt₁ hk₁ kr
  refine ne_same (hk₁ _ _ kd) kr (by decide) hu ⟨rfl, ?_⟩
  refine R.cmp2 ?_
  refine R.lcompL V ls₁ hh (cl := []) rfl (by decide) (by decide) rfl ((List.range 18).map fun j => .bool (treeAt j)) (by simp) (ld V.le.e ls₁.ns h2 (Itm.of ls₁ (hk₁ _ _ kd) rfl) rfl) (fun _ => rfl) (fun _ => none) ?_ ?_
  · intro C i u d s₄ l' hd ec hC ls₄ hkn hn hx ku
    have hb : ∃ b, d = .bool b := by
      rw [List.getElem?_map] at hd
      obtain ⟨j, _, rfl⟩ := Option.map_eq_some_iff.mp hd
      exact ⟨_, rfl⟩
    obtain ⟨b, rfl⟩ := hb
    cases ku.bool
    rw [tests_one]
    refine R.of (wpAny_isTrue_Compare1 (callT1 ec ls₄.gr.unrid (T := "type") rfl rfl rfl rfl (by decide) (by decide) (ld ec hn hx (call_type_of (Tx := "bool") (PySem.typeIs_bool _ _) (by decide) (ldb ec ls₄.gr.unrid (v := .type "bool") rfl (isnot_type_same (wpAny_truthy_bool ⟨rfl, Lt.refl ls₄.gr, fun d hd => by cases hd⟩)) rfl)) rfl)))
  intro s₂ r₂ ls₂ lt₂ hk₂ kr₂
  have e0 : (List.range ((List.range 18).map fun j => PyData.bool (treeAt j)).length).filterMap (fun _ => (none : Option PyData)) = [] := rfl
  rw [e0] at kr₂
  refine R.of (wpAny_List (wpAny_items_nil ⟨by decide, ?_⟩))
  have lt₃ : Lt w F s₂ { s₂ with heap := s₂.heap.push { cls := .type "list", data := .seq ([] : List Value).toArray } } := Lt.up ls₂.gr fun b o q => Heap.get?_push_of_some _ q
  refine ne_same (lt₃.kn' kr₂) (ls₂.learn V.le (.list plain_push .nil) (by intro a ha; rw [List.mem_singleton.mp ha]; exact get_size _)) (by decide) hu ⟨rfl, ?_⟩
  exact h _ (ls₂.lt V.le lt₃) fun u d k => lt₃.kn' (hk₂ _ _ (hk₁ _ _ k))
end
end Mine
end

section
namespace Mine
open PySem PySem.W PyProof.Rows PySem.Calls
open Sem (wp)

section
variable {prog : Program} {w : World} {A : Around} {E : Value → Shared → Prop} {S s : Shared} {env : Env} {F : Addr} {l cm : List (Str × Value)}

theorem draw_list {it t : Addr} {items : Array Value} (hne : t ≠ it) : ∀ (n i : Nat) (s : Shared) (Q : List Value → Shared → Prop), s.heap.IsListIter it t i → s.heap.IsList t items → i + n ≤ items.size →
    (∀ h', h'.IsListIter it t (i + n) → Heap.SameBut it s.heap h' → Q ((items.toList.drop i).take n) { s with heap := h' }) → wpAny (model prog w) A (draw (.ref it) n) Q E s
  | 0, i, s, Q, hit, _, _, hQ => by
    show wpAny _ _ (pure []) Q E s
    exact wpAny_pure (by simpa using hQ s.heap hit (Heap.SameBut.refl ..))
  | n + 1, i, s, Q, hit, ht, hle, hQ => by
    have hlt : i < items.size := by omega
    show wpAny _ _ (pyNext (.ref it) >>= _) Q E s
    refine wpAny_bind (wpAny_pyNext_list_item hit ht (x := items[i]) (by simp [hlt]) fun h₁ hit₁ hs₁ => ?_)
    refine wpAny_bind (wpAny_holding (draw_list hne n (i + 1) _ _ hit₁ (ht.extBut hs₁.extBut hne) (by omega) fun h₂ hit₂ hs₂ => wpAny_pure ?_))
    have hd : items.toList.drop i = items[i] :: items.toList.drop (i + 1) := by simp [List.drop_eq_getElem_cons, hlt]
    have := hQ h₂ (by rw [show i + (n + 1) = i + 1 + n by omega]; exact hit₂) (hs₁.trans hs₂)
    rw [hd, List.take_succ_cons] at this
    exact this

theorem unpackItems_list {t : Addr} {items : Array Value} {Q : List Value → Shared → Prop} (hh : A.handled = none) (ht : s.heap.IsList t items)
    (hQ : ∀ h', Heap.ExtBut s.heap.objs.size s.heap h' → Q items.toList { s with heap := h' }) : wpAny (model prog w) A (unpackItems (.ref t) items.size none) Q E s := by
  have hlt : t ≠ s.heap.objs.size := by obtain ⟨o, ho, _⟩ := ht; exact Nat.ne_of_lt (Heap.lt_size ho)
  unfold unpackItems
  refine wpAny_bind ?_
  unfold notIterableAtAll
  refine wpAny_bind (wpAny_specialOf ht.typeIs F.slot_list_iter.lookup ?_)
  refine wpAny_pure ?_
  simp only [Bool.false_eq_true, if_false]
  refine wpAny_bind (wpAny_holding (wpAny_pyIter_list ht ?_))
  refine wpAny_bind (wpAny_holding (draw_list hlt items.size 0 _ _ ⟨_, Heap.get?_push_size _ rfl, rfl, rfl⟩ (ht.push _) (by omega) fun h₁ hit₁ hs₁ => ?_))
  have hall : List.take items.size (List.drop 0 items.toList) = items.toList := by
    rw [List.drop_zero]; exact List.take_of_length_le (by simp)
  rw [hall]
  rw [if_neg (by simp)]
  have ht₁ : h₁.IsList t items := (ht.push _).extBut hs₁.extBut hlt
  refine wpAny_bind (wpAny_holding (wpAny_pyNext_list_end hh hit₁ ht₁ (by simp) fun h₂ he₂ => ?_))
  simp only [Option.isSome_none, Bool.false_eq_true, if_false]
  exact wpAny_pure (hQ h₂ fun b o hb e => he₂ b o hb (hs₁.extBut b o hb (Heap.get?_push_of_some _ e)))

theorem assign_list {elts : List PySem.Expr} {x1} {pos : Pos} {t : Addr} {items : Array Value} {Q : Unit → Shared → Prop} (hh : A.handled = none) (ht : s.heap.IsList t items)
    (hn : (assignEach elts env).length = items.size) (hstar : (assignEach elts env).findIdx? (·.1) = none)
    (h : ∀ h', Heap.ExtBut s.heap.objs.size s.heap h' → wpAny (model prog w) A (assignInOrder ((assignEach elts env).map (·.2)) items.toList) Q E { s with heap := h' }) :
    wpAny (model prog w) A (assign (.Tuple elts x1 pos) env (.ref t)) Q E s := by
  rw [arm_assign_Tuple]
  refine wpAny_bind (wpAny_standAt ?_)
  unfold unpack
  rw [hn, hstar]
  exact wpAny_bind (wpAny_holding (unpackItems_list hh ht fun h' hx => h h' hx))

abbrev nm7 : List (Str × NameKind) := [(Str.ofString ".0", .local), (Str.ofString "number", .local), (Str.ofString "str", .globalImplicit)]
def strI (n : Int) : Str := Str.ofString (toString n)

set_option maxHeartbeats 1000000 in
/-- one, two, three, four = [..] -/
theorem st_four {p1 p2 p3 p4 p5 p6 p7 p8 p9 p10 p11 p12 : Pos} {k1 : Nat} {n₁ n₂ n₃ n₄ : Int} {vn : Value} {Q : Flow → Shared → Prop}
    (V : LV env F) (ls : LS w S env F l cm s) (hh : A.handled = none) (h1 : cm.lookup (Str.ofString "numbers") = some vn)
    (kn : Kn (XX env F) s.heap vn (intsD [n₁, n₂, n₃, n₄])) (hsm : ∀ n ∈ [n₁, n₂, n₃, n₄], small n)
    (h : ∀ t₁ t₂ t₃ t₄ s₂, LS w S env F ((Str.ofString "four", .str (strI n₄) t₄) :: (Str.ofString "three", .str (strI n₃) t₃) :: (Str.ofString "two", .str (strI n₂) t₂) :: (Str.ofString "one", .str (strI n₁) t₁) :: l) cm s₂ →
      (∀ u d, Kn (XX env F) s.heap u d → Kn (XX env F) s₂.heap u d) → Q .next s₂) :
    wpR (model prog w) A (exec (.Assign [.Tuple [.Name (Str.ofString "one") p1, .Name (Str.ofString "two") p2, .Name (Str.ofString "three") p3, .Name (Str.ofString "four") p4] k1 p5]
      (.ListComp (.Call (.Name (Str.ofString "str") p6) [.Name (Str.ofString "number") p7] [] p8) [⟨.Name (Str.ofString "number") p9, .Name (Str.ofString "numbers") p10, [], 0⟩] (scp nm7) p11) p12) env) Q (fun _ _ => False) s := by
  refine R.AssignTuple rfl rfl ?_
  refine R.lcompL V ls hh (cl := []) rfl (by decide) (by decide) rfl ([n₁, n₂, n₃, n₄].map .int) (by simp)
    (ldc V.le.e (c := F + 2) (by rw [V.cells]; rfl) (ls.val V rfl h1) (Itm.of ls kn rfl)) (fun _ => rfl) (fun i => ([n₁, n₂, n₃, n₄][i]?).map fun n => .str (strI n)) ?_ ?_
  · intro C i u d s₄ l' hd ec hC ls₄ hkn hn hx ku
    rw [List.getElem?_map] at hd
    obtain ⟨n, hn', rfl⟩ := Option.map_eq_some_iff.mp hd
    obtain ⟨t, rfl⟩ := ku.int
    have sm := hsm n (List.mem_of_getElem? hn')
    rw [tests_nil]
    refine R.pure ⟨by rw [hn']; rfl, Lt.refl ls₄.gr, fun d hd => ?_⟩
    rw [hn'] at hd
    cases hd
    exact R.of (strOfI ec ls₄.gr.unrid rfl rfl (ld ec hn hx ⟨n, t, rfl, sm, Lt.up ls₄.gr fun b o q => q, [], .str _ _, by simp⟩ rfl))
  intro s₁ r ls₁ lt₁ hk₁ kr
  have e4 : (List.range (([n₁, n₂, n₃, n₄].map PyData.int).length)).filterMap (fun i => ([n₁, n₂, n₃, n₄][i]?).map fun n => PyData.str (strI n)) = [.str (strI n₁), .str (strI n₂), .str (strI n₃), .str (strI n₄)] := rfl
  rw [e4] at kr
  obtain ⟨_, vs, as, e, hl, hr, _, _⟩ := kr.list
  cases e
  cases hr with | cons a1 hr => cases a1 with | str _ t₁ => cases hr with | cons a2 hr => cases a2 with | str _ t₂ => cases hr with | cons a3 hr => cases a3 with | str _ t₃ => cases hr with | cons a4 hr => cases a4 with | str _ t₄ => cases hr with | nil =>
  refine assign_list (items := #[.str (strI n₁) t₁, .str (strI n₂) t₂, .str (strI n₃) t₃, .str (strI n₄) t₄]) hh hl.isList rfl rfl fun h₄ hx₄ => ?_
  have lt₄ : Lt w F s₁ { s₁ with heap := h₄ } := (Lt.refl ls₁.gr).set (t := s₁.toks) (fun b o hb q => hx₄ b o (fun z => hb (by
    rw [z]; exact get_size _)) q) ls₁.F0
  have ls₄ := ls₁.lt V.le lt₄
  refine wpAny_assignInOrder_more (wpAny_assign_Name (ls₄.st V.le rfl fun s₅ ls₅ hk₅ => ?_))
  refine wpAny_assignInOrder_more (wpAny_assign_Name (ls₅.st V.le rfl fun s₆ ls₆ hk₆ => ?_))
  refine wpAny_assignInOrder_more (wpAny_assign_Name (ls₆.st V.le rfl fun s₇ ls₇ hk₇ => ?_))
  refine wpAny_assignInOrder_more (wpAny_assign_Name (ls₇.st V.le rfl fun s₈ ls₈ hk₈ => wpAny_assignInOrder_none ?_))
  exact h _ _ _ _ s₈ ls₈ fun u d k => hk₈ _ _ (hk₇ _ _ (hk₆ _ _ (hk₅ _ _ (lt₄.kn' (hk₁ _ _ k)))))

/-- name = .. -/
def nameOf (n₁ n₂ n₃ n₄ : Int) : Str := strI n₁ ++ Str.ofString "-" ++ strI n₂ ++ Str.ofString "-" ++ strI n₃ ++ Str.ofString "-" ++ strI n₄
theorem strI_len {n : Int} (h : small n) : (strI n).length ≤ 3 := by
  have := (dg_len n h).1
  simpa [dg, strI, Str.length] using this
theorem st_name {p1 p2 p3 p4 p5 p6 p7 p8 p9 p10 p11 p12 p13 p14 p15 : Pos} {k1 k2 k3 : Nat} {n₁ n₂ n₃ n₄ : Int} {t₁ t₂ t₃ t₄ : Tok} {Q : Flow → Shared → Prop}
    (V : LV env F) (ls : LS w S env F l cm s) (hsm : ∀ n ∈ [n₁, n₂, n₃, n₄], small n)
    (h1 : l.lookup (Str.ofString "one") = some (.str (strI n₁) t₁)) (h2 : l.lookup (Str.ofString "two") = some (.str (strI n₂) t₂)) (h3 : l.lookup (Str.ofString "three") = some (.str (strI n₃) t₃)) (h4 : l.lookup (Str.ofString "four") = some (.str (strI n₄) t₄))
    (h : ∀ t s₂, LS w S env F l ((Str.ofString "name", .str (nameOf n₁ n₂ n₃ n₄) t) :: cm) s₂ → (∀ u d, Kn (XX env F) s.heap u d → Kn (XX env F) s₂.heap u d) → Q .next s₂) :
    wpR (model prog w) A (exec (.Assign [.Name (Str.ofString "name") p1] (.BinOp (.BinOp (.BinOp (.BinOp (.BinOp (.BinOp (.Name (Str.ofString "one") p2) .Add (.Constant (.str (Str.ofString "-")) k1 p3) p4) .Add (.Name (Str.ofString "two") p5) p6) .Add (.Constant (.str (Str.ofString "-")) k2 p7) p8) .Add (.Name (Str.ofString "three") p9) p10) .Add (.Constant (.str (Str.ofString "-")) k3 p11) p12) .Add (.Name (Str.ofString "four") p13) p14) p15) env) Q (fun _ _ => False) s := by
  have a1 := strI_len (hsm n₁ (by simp))
  have a2 := strI_len (hsm n₂ (by simp))
  have a3 := strI_len (hsm n₃ (by simp))
  have a4 := strI_len (hsm n₄ (by simp))
  have d1 : (Str.ofString "-").length = 1 := by decide +kernel
  refine R.setCell V.le ls rfl (c := F + 7) (by rw [V.cells]; rfl) (swap_cell V.le.e rfl) (R.of ?_)
  refine wpAny_BinOp (wpAny_BinOp (wpAny_BinOp (wpAny_BinOp (wpAny_BinOp (wpAny_BinOp (ld V.le.e ls.ns h1 (wpAny_Constant_str (addS (by rw [d1]; omega) fun t k => ?_)) rfl)))))) 
  refine ld V.le.e ls.ns h2 (addS (by simp only [Str.length_append, d1]; omega) fun t k => wpAny_Constant_str (addS (by simp only [Str.length_append, d1]; omega) fun t k => ?_)) rfl
  refine ld V.le.e ls.ns h3 (addS (by simp only [Str.length_append, d1]; omega) fun t k => wpAny_Constant_str (addS (by simp only [Str.length_append, d1]; omega) fun t k => ?_)) rfl
  refine ld V.le.e ls.ns h4 (addS (by simp only [Str.length_append, d1]; omega) fun t k => ?_) rfl
  have lt : Lt w F s ⟨s.heap, s.gens, s.drawn, k, s.os⟩ := Lt.up ls.gr fun _ _ q => q
  exact ⟨ls.lt V.le lt, fun s₂ ls₂ hk₂ => h _ s₂ ls₂ fun u d k => hk₂ _ _ k⟩
end
end Mine
end

section
namespace Mine
open PySem PySem.W PyProof.Rows PySem.Calls

section
variable {prog : Program} {w : World} {A : Around} {E : Value → Shared → Prop} {s : Shared} {env : Env} {L : Addr} {ns : List (Str × NameKind)} {l : List (Str × Value)}

/-- x.replace(y, z), two texts apart -/
theorem replE {nm y z x : Str} {t : Tok} {k1 k2 : Nat} {p1 p2 p3 p4 p5 : Pos} {Q : Value → Shared → Prop} (e : Ev env L ns) (hn : s.heap.Ns L (mp l)) (hv : l.lookup nm = some (.str x t))
    (hl : ns.lookup nm = some .local) (hd : (nm == ("__debug__" : Str)) = false) (hyz : (y == z) = false) (hp : (p2.endLine == p5.line) = true) (ht : 1 ≤ s.toks) (hx : x.length ≤ 1000) (hz : z.length ≤ 14)
    (h : ∀ t' tk, 1 ≤ tk → Q (.str (Txt.replace x y z) t') { s with toks := tk }) :
    wpAny (model prog w) A (eval (.Call (.Attribute (.Name nm p1) (Str.ofString "replace") p2) [.Constant (.str y) k1 p3, .Constant (.str z) k2 p4] [] p5) env) Q E s := by
  refine wpAny_with_toks (n := 1) ht ?_
  with_reducible refine meth2 ?h1 ?h2 ?h3 F.plainAttrs_str F.slot_str_replace F.type_str_replace ?_
  case h1 => rfl
  case h2 => exact hp
  case h3 => rfl
  refine ld e hn hv ⟨typeIs_str _ _ _, GM.noRef, wpAny_Constant_str (wpAny_Constant_str ?_)⟩ hl hd
  refine SC.replaceW (by show s.toks ≠ 0; omega) (by show s.toks + 1 ≠ 0; omega) (by show s.toks ≠ s.toks + 1; omega) hyz (by omega) hz fun t' k hk => h t' k hk

/-- v = x.replace(y, z) -/
theorem replS {v nm y z x : Str} {t : Tok} {k1 k2 : Nat} {p0 p1 p2 p3 p4 p5 p6 : Pos} {Q : Flow → Shared → Prop} (e : Ev env L ns) (hn : s.heap.Ns L (mp l)) (hv : l.lookup nm = some (.str x t))
    (hl : ns.lookup nm = some .local) (hl2 : ns.lookup v = some .local) (hd : (nm == ("__debug__" : Str)) = false) (hyz : (y == z) = false) (hp : (p2.endLine == p5.line) = true) (ht : 1 ≤ s.toks) (hx : x.length ≤ 1000) (hz : z.length ≤ 14)
    (h : ∀ h' t' tk, h'.Ns L (mp ((v, .str (Txt.replace x y z) t') :: l)) → Heap.SameBut L s.heap h' → 1 ≤ tk → Q .next { s with heap := h', toks := tk }) :
    wpAny (model prog w) A (exec (.Assign [.Name v p0] (.Call (.Attribute (.Name nm p1) (Str.ofString "replace") p2) [.Constant (.str y) k1 p3, .Constant (.str z) k2 p4] [] p5) p6) env) Q E s :=
  wpAny_Assign_Name (replE e hn hv hl hd hyz hp ht hx hz fun t' tk hk => st e hn (fun h' hn' hs' => h h' t' _ hn' hs' (Nat.le_succ_of_le hk)) hl2)

/-- into the body of a def with a star -/
theorem star_in {f : Addr} {args : List Value} {fd : FuncData} {body : List Stmt} {nm : Str} {oc : Value} {od : Option Addr} {osl : Array (Option Value)} {Q : Value → Shared → Prop}
    (g : Gr w s.heap) (ho : (KK w).lookup f = some ⟨oc, od, .func fd, osl⟩) (hcd : codeIn (KK w) fd.code fd.qualname = true) (hroom : A.depth < recursionLimit) (hsz : args.length ≤ sizeLine)
    (hbody : fd.body = .stmts body) (hbind : bindArgs fd ⟨args, []⟩ = newTuple args >>= fun v => pure [(nm, v)])
    (hcell : ∀ x ∈ fd.scope.names, x.2 ≠ .cell) (hloc : fd.scope.names.lookup nm = some .local) (hg : fd.globals = mainGlobals) (hb : fd.builtins = builtinsNs)
    (hco : fd.scope.isCoroutine = false) (hgen : fd.scope.isGenerator = false) (hk : fd.scope.kind = .function) (hcl : fd.closure = [])
    (h : ∀ h₀ L T env A', Ev env L fd.scope.names → env.code = fd.code → In A A' → T = s.heap.objs.size → L = s.heap.objs.size + 1 → h₀.Ns L (mp [(nm, .ref T)]) → h₀.IsTuple T args.toArray → (∀ b o, s.heap.get? b = some o → h₀.get? b = some o) → Gr w h₀ →
      wpAny (model prog w) A' (execs body env) (fun fl s' => Q (match fl with | .ret v => v | _ => .none) s')
        (fun _ _ => False) { s with heap := h₀, toks := s.toks + 1 }) :
    wpAny (model prog w) A (call (.ref f) args) Q E s := by
  refine wpAny_call (codeAny_call_function hroom (g.k _ _ ho) rfl hco hgen hbody (codeRec_of g.k hcd) ?_)
  rw [hbind]
  refine wpAny_bind (wpAny_newTuple ?_ hsz)
  refine wpAny_pure ?_
  have hl : ∀ x ∈ [(nm, Value.ref s.heap.objs.size)], fd.scope.names.lookup x.1 = some .local := by
    intro x hx; rw [List.mem_singleton.mp hx]; exact hloc
  rw [hcl]
  refine wpAny_newFunctionEnv hcell hl (fun h₀ hns₀ hsb₀ => ⟨(g.lim.keeps fun _ _ e => Heap.get?_push_of_some _ e).fresh _ hsb₀, codeAny_func ?_⟩) hk
  dsimp only at hns₀ hsb₀ ⊢
  have e1 : (s.heap.push { cls := .type "tuple", data := .seq args.toArray }).objs.size = s.heap.objs.size + 1 := Heap.size_push ..
  have up : ∀ b o, (s.heap.push { cls := .type "tuple", data := .seq args.toArray }).get? b = some o → h₀.get? b = some o := fun b o e => hsb₀.extBut b o (Nat.ne_of_lt (Heap.lt_size e)) (Heap.get?_push_of_some _ e)
  have hk₀ : ∀ b o, s.heap.get? b = some o → h₀.get? b = some o := fun b o e => up b o (Heap.get?_push_of_some _ e)
  exact wpAny_mono (h h₀ _ _ (newEnv fd.scope _ fd.globals [] (fd.qualname ++ ".<locals>.") (some f) fd.code none fd.builtins) _ ⟨rfl, hg, hb, hk, fun _ => rfl⟩ rfl ⟨rfl, rfl, rfl⟩ rfl e1 hns₀ ⟨_, up _ _ (Heap.get?_push_size _ rfl), rfl, _, rfl⟩ hk₀ (g.keeps hk₀)) (fun fl s' q => q) (fun _ _ x => x.elim)
end

theorem trim_item {x : Str} (c : Nat) (l : List Nat) (h : x.cps.toList = l ++ [c]) : (seqIndex? (-1) x.length).bind (x.cps[·]?) = some c := by
  have hl : x.length = l.length + 1 := by
    have := congrArg List.length h
    simpa [Str.length] using this
  have h1 : seqIndex? (-1) x.length = some l.length := by
    rw [hl]
    unfold seqIndex?
    have : (if (-1 : Int) < 0 then -1 + ((l.length + 1 : Nat) : Int) else -1) = (l.length : Int) := by rw [if_pos (by decide)]; omega
    rw [this]
    simp
    omega
  rw [h1]
  show x.cps[l.length]? = some c
  rw [← Array.getElem?_toList, h]
  simp
end Mine
end

section
namespace Mine
open PySem PySem.W PyProof.Rows PySem.Calls

theorem trimD_nil : trimD [] = [] := rfl
theorem last_of {l : List Nat} (h : l ≠ []) : ∃ r c, l = r ++ [c] := ⟨l.dropLast, l.getLast h, (List.dropLast_concat_getLast h).symm⟩

theorem slice_last {z : Str} {r : List Nat} {c : Nat} (h : z.cps.toList = r ++ [c]) : (Txt.slice z none (some (-1))).cps.toList = r := by
  have hl : z.length = r.length + 1 := by
    have := congrArg List.length h
    simpa [Str.length] using this
  have e : Txt.slice z none (some (-1)) = Txt.slice z none (some ((r.length : Nat) : Int)) := by
    unfold Txt.slice
    have : Builtin.Str.strSliceIndices none (some (-1)) 1 z.length = Builtin.Str.strSliceIndices none (some ((r.length : Nat) : Int)) 1 z.length := by
      rw [hl]
      unfold Builtin.Str.strSliceIndices
      have h1 : (if (-1 : Int) < 0 then -1 + ((r.length + 1 : Nat) : Int) else -1) = (r.length : Int) := by rw [if_pos (by decide)]; omega
      have h2 : (if ((r.length : Nat) : Int) < 0 then ((r.length : Nat) : Int) + ((r.length + 1 : Nat) : Int) else ((r.length : Nat) : Int)) = (r.length : Int) := by rw [if_neg (by omega)]
      simp only [h1, h2]
    rw [this]
  rw [e, beq_iff_eq.mp (slice_closes_to (x := z) (j := (r.length : Int)) ⟨by omega, by rw [h]; simp; omega⟩)]
  simp [h]

section
variable {prog : Program} {w : World} {A : Around} {E : Value → Shared → Prop} {s : Shared}

theorem repl_sw {a b : Nat} {y z x : Str} (hy : y = ⟨#[a]⟩) (hz : z = ⟨#[b]⟩) : (Txt.replace x y z).cps.toList = sw a b x.cps.toList := by
  subst hy hz; rw [replace_sw]
theorem repl_len {a b : Nat} {y z x : Str} (hy : y = ⟨#[a]⟩) (hz : z = ⟨#[b]⟩) : (Txt.replace x y z).length = x.length := by
  have := congrArg List.length (repl_sw (x := x) hy hz)
  rw [sw_len] at this
  simpa [Str.length] using this

set_option maxHeartbeats 4000000 in
/-- _platform of texts -/
theorem plat {v₁ : Value} {vs' : List Value} {ys : List Str} {x : Str} {Q : Value → Shared → Prop} (g : Gr w s.heap) (hh : A.handled = none) (hroom : A.depth + 1 < recursionLimit) (hs : StrsAre (v₁ :: vs') ys)
    (hlen : (ys.map (·.length)).sum + ys.length ≤ 1000) (hx : Txt.join (Str.ofString "-") ((ys.filter (·.length != 0)).map Txt.strip) = x) (hxl : x.length ≤ 1000) (hu : 117 ∉ x.cps.toList)
    (hQ : ∀ s' t', Ok w s s' → Q (.str ⟨(platOf x.cps.toList).toArray⟩ t') s') : wpAny (model prog w) A (call (.ref 51) (v₁ :: vs')) Q E s := by
  generalize hV : v₁ :: vs' = vs at *
  have hvl : vs.length = ys.length := by
    clear hlen hx hV
    induction hs with
    | nil => rfl
    | cons _ _ _ ih => simp [ih]
  refine star_in (nm := Str.ofString "args") g rfl rfl (by omega) (by rw [sizeLine_eq]; omega) rfl (by subst hV; rfl) (by decide) rfl rfl rfl rfl rfl rfl rfl (fun h₀ L T env A' e hcode hA hT hL hn ht hk g₀ => ?_)
  have hLT : L ≠ T := by rw [hL, hT]; exact Nat.succ_ne_self _
  have hL0 : s.heap.get? L = none := by
    cases z : s.heap.get? L with
    | none => rfl
    | some o => have := Heap.lt_size z; rw [hL] at this; exact absurd this (Nat.not_lt.mpr (Nat.le_succ _))
  have h46 : L ≠ 46 := fun q => by rw [q] at hL0; obtain ⟨_, _, ⟨_, y⟩, _⟩ := g.tab; rw [hL0] at y; cases y
  have hh' : A'.handled = none := hA.handled.trans hh
  have hd1 : A'.depth = A.depth + 1 := hA.depth
  have o₀ : Ok w s { s with heap := h₀, toks := s.toks + 1 } := (Ok.refl g).keep hk
  refine wpAny_execs_cons (wpAny_Assign_Name (plat_join e hcode g₀ hh' (by omega) hn rfl ht hs hlen rfl rfl rfl fun s₁ t₁ hk₁ g₁ hos hba htk => ?_))
  dsimp only at hk₁ hos hba
  have o₁ : Ok w s s₁ := ⟨fun b o hb q => hk₁ b o hb (hk b o q), g, g₁, hos, hba⟩
  have hn₁ : s₁.heap.Ns L (mp _) := ns_at hn fun o q => hk₁ L o h46 q
  rw [hx]
  refine st e hn₁ fun h₂ hn₂ hs₂ => ?_
  have O₂ : Ok w s ⟨h₂, s₁.gens, s₁.drawn, s₁.toks + 1, s₁.os⟩ := o₁.upd hs₂.extBut hL0
  dsimp only at hs₂ ⊢
  -- the eight signs
  refine wpAny_execs_cons (replS e hn₂ rfl rfl rfl rfl (by decide +kernel) rfl (Nat.le_succ_of_le htk) hxl (by decide +kernel) fun h₃ t₃ k₃ hn₃ hs₃ hk₃ => ?_)
  have l₃ := repl_len (a := 32) (b := 95) (y := Str.ofString " ") (z := Str.ofString "_") (x := x) (by decide +kernel) (by decide +kernel)
  have c₃ := repl_sw (a := 32) (b := 95) (y := Str.ofString " ") (z := Str.ofString "_") (x := x) (by decide +kernel) (by decide +kernel)
  generalize Txt.replace x (Str.ofString " ") (Str.ofString "_") = x₃ at *
  have O₃ : Ok w s ⟨h₃, s₁.gens, s₁.drawn, k₃, s₁.os⟩ := O₂.upd hs₃.extBut hL0
  dsimp only at hs₃ ⊢
  refine wpAny_execs_cons (replS e hn₃ rfl rfl rfl rfl (by decide +kernel) rfl hk₃ (by omega) (by decide +kernel) fun h₄ t₄ k₄ hn₄ hs₄ hk₄ => ?_)
  have l₄ := repl_len (a := 47) (b := 45) (y := Str.ofString "/") (z := Str.ofString "-") (x := x₃) (by decide +kernel) (by decide +kernel)
  have c₄ := repl_sw (a := 47) (b := 45) (y := Str.ofString "/") (z := Str.ofString "-") (x := x₃) (by decide +kernel) (by decide +kernel)
  generalize Txt.replace x₃ (Str.ofString "/") (Str.ofString "-") = x₄ at *
  have O₄ : Ok w s ⟨h₄, s₁.gens, s₁.drawn, k₄, s₁.os⟩ := O₃.upd hs₄.extBut hL0
  dsimp only at hs₄ ⊢
  refine wpAny_execs_cons (replS e hn₄ rfl rfl rfl rfl (by decide +kernel) rfl hk₄ (by omega) (by decide +kernel) fun h₅ t₅ k₅ hn₅ hs₅ hk₅ => ?_)
  have l₅ := repl_len (a := 92) (b := 45) (y := Str.ofString "\\") (z := Str.ofString "-") (x := x₄) (by decide +kernel) (by decide +kernel)
  have c₅ := repl_sw (a := 92) (b := 45) (y := Str.ofString "\\") (z := Str.ofString "-") (x := x₄) (by decide +kernel) (by decide +kernel)
  generalize Txt.replace x₄ (Str.ofString "\\") (Str.ofString "-") = x₅ at *
  have O₅ : Ok w s ⟨h₅, s₁.gens, s₁.drawn, k₅, s₁.os⟩ := O₄.upd hs₅.extBut hL0
  dsimp only at hs₅ ⊢
  refine wpAny_execs_cons (replS e hn₅ rfl rfl rfl rfl (by decide +kernel) rfl hk₅ (by omega) (by decide +kernel) fun h₆ t₆ k₆ hn₆ hs₆ hk₆ => ?_)
  have l₆ := repl_len (a := 58) (b := 45) (y := Str.ofString ":") (z := Str.ofString "-") (x := x₅) (by decide +kernel) (by decide +kernel)
  have c₆ := repl_sw (a := 58) (b := 45) (y := Str.ofString ":") (z := Str.ofString "-") (x := x₅) (by decide +kernel) (by decide +kernel)
  generalize Txt.replace x₅ (Str.ofString ":") (Str.ofString "-") = x₆ at *
  have O₆ : Ok w s ⟨h₆, s₁.gens, s₁.drawn, k₆, s₁.os⟩ := O₅.upd hs₆.extBut hL0
  dsimp only at hs₆ ⊢
  refine wpAny_execs_cons (replS e hn₆ rfl rfl rfl rfl (by decide +kernel) rfl hk₆ (by omega) (by decide +kernel) fun h₇ t₇ k₇ hn₇ hs₇ hk₇ => ?_)
  have l₇ := repl_len (a := 59) (b := 45) (y := Str.ofString ";") (z := Str.ofString "-") (x := x₆) (by decide +kernel) (by decide +kernel)
  have c₇ := repl_sw (a := 59) (b := 45) (y := Str.ofString ";") (z := Str.ofString "-") (x := x₆) (by decide +kernel) (by decide +kernel)
  generalize Txt.replace x₆ (Str.ofString ";") (Str.ofString "-") = x₇ at *
  have O₇ : Ok w s ⟨h₇, s₁.gens, s₁.drawn, k₇, s₁.os⟩ := O₆.upd hs₇.extBut hL0
  dsimp only at hs₇ ⊢
  refine wpAny_execs_cons (replS e hn₇ rfl rfl rfl rfl (by decide +kernel) rfl hk₇ (by omega) (by decide +kernel) fun h₈ t₈ k₈ hn₈ hs₈ hk₈ => ?_)
  have l₈ := repl_len (a := 34) (b := 45) (y := Str.ofString "\"") (z := Str.ofString "-") (x := x₇) (by decide +kernel) (by decide +kernel)
  have c₈ := repl_sw (a := 34) (b := 45) (y := Str.ofString "\"") (z := Str.ofString "-") (x := x₇) (by decide +kernel) (by decide +kernel)
  generalize Txt.replace x₇ (Str.ofString "\"") (Str.ofString "-") = x₈ at *
  have O₈ : Ok w s ⟨h₈, s₁.gens, s₁.drawn, k₈, s₁.os⟩ := O₇.upd hs₈.extBut hL0
  dsimp only at hs₈ ⊢
  refine wpAny_execs_cons (replS e hn₈ rfl rfl rfl rfl (by decide +kernel) rfl hk₈ (by omega) (by decide +kernel) fun h₉ t₉ k₉ hn₉ hs₉ hk₉ => ?_)
  have l₉ := repl_len (a := 40) (b := 45) (y := Str.ofString "(") (z := Str.ofString "-") (x := x₈) (by decide +kernel) (by decide +kernel)
  have c₉ := repl_sw (a := 40) (b := 45) (y := Str.ofString "(") (z := Str.ofString "-") (x := x₈) (by decide +kernel) (by decide +kernel)
  generalize Txt.replace x₈ (Str.ofString "(") (Str.ofString "-") = x₉ at *
  have O₉ : Ok w s ⟨h₉, s₁.gens, s₁.drawn, k₉, s₁.os⟩ := O₈.upd hs₉.extBut hL0
  dsimp only at hs₉ ⊢
  refine wpAny_execs_cons (replS e hn₉ rfl rfl rfl rfl (by decide +kernel) rfl hk₉ (by omega) (by decide +kernel) fun h₁₀ t₁₀ k₁₀ hn₁₀ hs₁₀ hk₁₀ => ?_)
  have l₁₀ := repl_len (a := 41) (b := 45) (y := Str.ofString ")") (z := Str.ofString "-") (x := x₉) (by decide +kernel) (by decide +kernel)
  have c₁₀ := repl_sw (a := 41) (b := 45) (y := Str.ofString ")") (z := Str.ofString "-") (x := x₉) (by decide +kernel) (by decide +kernel)
  generalize Txt.replace x₉ (Str.ofString ")") (Str.ofString "-") = x₁₀ at *
  have O₁₀ : Ok w s ⟨h₁₀, s₁.gens, s₁.drawn, k₁₀, s₁.os⟩ := O₉.upd hs₁₀.extBut hL0
  dsimp only at hs₁₀ ⊢
  have hc : x₁₀.cps.toList = platM x.cps.toList := by rw [c₁₀, c₉, c₈, c₇, c₆, c₅, c₄, c₃]; rfl
  have hun : 117 ∉ x₁₀.cps.toList := by
    rw [hc]
    unfold platM
    repeat first | exact hu | refine sw_not (by decide) ?_
  have hl₁₀ : x₁₀.length ≤ 1000 := by omega
  clear l₃ l₄ l₅ l₆ l₇ l₈ l₉ l₁₀ c₃ c₄ c₅ c₆ c₇ c₈ c₉ c₁₀
  refine wpAny_execs_cons (replS e hn₁₀ rfl rfl rfl rfl (by decide +kernel) rfl hk₁₀ hl₁₀ (by decide +kernel) fun h₁₁ t₁₁ k₁₁ hn₁₁ hs₁₁ hk₁₁ => ?_)
  rw [replace_none (c := 117) (r := [110, 107, 110, 111, 119, 110]) (by decide +kernel) hun] at hn₁₁
  have O₁₁ : Ok w s ⟨h₁₁, s₁.gens, s₁.drawn, k₁₁, s₁.os⟩ := O₁₀.upd hs₁₁.extBut hL0
  dsimp only at hs₁₁ ⊢
  generalize hC : platM x.cps.toList = C at *
  -- runs of hyphens
  refine wpAny_execs_cons (wpAny_While ?_)
  refine codeAny_whileLoop (fun n s' => ∃ l y t, s'.heap.Ns L (mp l) ∧ l.lookup (Str.ofString "platform") = some (.str y t) ∧ col false y.cps.toList = col false C ∧ y.length = n ∧ y.length ≤ 1000 ∧ Ok w s s' ∧ 1 ≤ s'.toks) ?_ x₁₀.length
    ⟨_, x₁₀, _, hn₁₁, rfl, by rw [hc], rfl, hl₁₀, O₁₁, hk₁₁⟩
  rintro n s₂ ⟨l₂, y, t, hn, hp, hcol, rfl, hyl, O, htk₂⟩
  refine wpAny_isTrue_value (wpAny_Constant_bool (wpAny_truthy_bool ?_))
  rw [if_pos rfl]
  refine wpAny_execs_cons (replS e hn hp rfl rfl rfl (by decide +kernel) rfl htk₂ hyl (by decide +kernel) fun h₃ t₃ k₃ hn₃ hs₃ hk₃ => ?_)
  obtain ⟨r1, r2, r3⟩ := replace_dd y
  rw [show Str.ofString "--" = ⟨#[45, 45]⟩ by decide +kernel, show Str.ofString "-" = ⟨#[45]⟩ by decide +kernel] at hn₃
  generalize Txt.replace y ⟨#[45, 45]⟩ ⟨#[45]⟩ = y' at *
  have O₃ : Ok w s ⟨h₃, s₂.gens, s₂.drawn, k₃, s₂.os⟩ := O.upd hs₃.extBut hL0
  refine wpAny_execs_cons (wpAny_If (wpAny_isTrue_Compare1 (ld e hn₃ rfl (ld e hn₃ hp (P.eq_str (wpAny_truthy_bool ?_))))))
  by_cases hyy : y' = y
  · rw [show (y'.cps.toList == y.cps.toList) = true by rw [hyy]; exact beq_self_eq_true _, if_pos rfl]
    refine wpAny_execs_cons (wpAny_Break ?_)
    dsimp only
    have hfix : y.cps.toList = col false C := by rw [← hcol, col_id _ _ (r2 hyy)]
    -- hyphens at the end
    refine wpAny_execs_cons (wpAny_While ?_)
    refine codeAny_whileLoop (fun n s' => ∃ l y t, s'.heap.Ns L (mp l) ∧ l.lookup (Str.ofString "platform") = some (.str y t) ∧ trimD y.cps.toList = trimD (col false C) ∧ y.length = n ∧ y.length ≤ 1000 ∧ Ok w s s') ?_ y.length
      ⟨_, y, _, hn₃, hp, by rw [hfix], rfl, hyl, O₃⟩
    have done : ∀ (z : Str) (l₃ : List (Str × Value)) (s₃ : Shared) {t₅ : Tok}, s₃.heap.Ns L (mp l₃) → l₃.lookup (Str.ofString "platform") = some (.str z t₅) → trimD z.cps.toList = trimD (col false C) → trimD z.cps.toList = z.cps.toList → Ok w s s₃ → wpAny (model prog w) A' (execs [.Return (some (.Name (Str.ofString "platform") ⟨35, 11, 35, 19⟩)) ⟨35, 4, 35, 19⟩] env) (fun fl s' => Q (match fl with | .ret v => v | _ => .none) s') (fun _ _ => False) s₃ := fun z l₃ s₃ t₅ hn₅ hp₅ htr hz O₅ => by
      refine wpAny_execs_cons (wpAny_Return_some (ld e hn₅ hp₅ ?_))
      dsimp only
      have : z = ⟨(platOf x.cps.toList).toArray⟩ := by
        apply Str.ext'
        apply Array.toList_inj.mp
        show z.cps.toList = platOf x.cps.toList
        rw [← hz, htr]
        unfold platOf
        rw [hC]
      rw [this]
      exact hQ _ _ O₅
    rintro n s₃ ⟨l₃, z, t₅, hn₅, hp₅, htr, rfl, hzl, O₅⟩
    refine wpAny_isTrue_BoolOp (wpAny_allTrue_And_cons (wpAny_isTrue_value (ld e hn₅ hp₅ ?_)))
    refine P.truthy_str (by omega) ?_
    by_cases hz0 : z.cps.toList = []
    · rw [show ((z.length : Int) != 0) = false by simpa [Str.length] using congrArg List.length hz0]
      rw [if_neg Bool.false_ne_true, if_neg Bool.false_ne_true]
      refine wpAny_execs_nil ?_
      exact done z _ _ hn₅ hp₅ htr (by rw [hz0]; rfl) O₅.tok
    · rw [show ((z.length : Int) != 0) = true by
        have : z.cps.toList.length ≠ 0 := fun q => hz0 (List.length_eq_zero_iff.mp q)
        simpa [Str.length] using this]
      rw [if_pos rfl]
      obtain ⟨r, c, hrc⟩ := last_of hz0
      refine wpAny_allTrue_And_cons (wpAny_isTrue_Compare1 (Subscript_UnaryOp (ld e hn₅ hp₅ (wpAny_UnaryOp (wpAny_Constant_int (neg_int ⟨"str", _, F.slot_str_getitem.lookup, typeIs_str _ _ _, P.getItem_str (by decide) (trim_item c r hrc) (wpAny_Constant_str (P.eq_str (wpAny_truthy_bool ?_)))⟩))))))
      rw [show (Str.ofString "-").cps.toList = [45] by decide +kernel, show (Str.mk #[c]).cps.toList = [c] from rfl]
      by_cases hc45 : c = 45
      · subst hc45
        rw [show ([45] == [45] : Bool) = true from rfl, if_pos rfl]
        refine wpAny_allTrue_And_nil ?_
        rw [if_pos rfl]
        refine wpAny_execs_cons (wpAny_Assign_Name (wpAny_Subscript_str_slice (ld e hn₅ hp₅ (wpAny_evalPart_none (wpAny_evalPart_some (wpAny_UnaryOp (wpAny_Constant_int (neg_int ⟨_, _, none, some (-1, _), rfl, rfl, rfl, ?_⟩))))))))
        refine sliceS (by omega) fun t₆ tk₆ => ?_
        have hsl : (Txt.slice z none (some (-1))).cps.toList = r := slice_last hrc
        rw [show (Option.map (fun x : Int × Tok => x.1) none) = none from rfl, show (Option.map (fun x : Int × Tok => x.1) (some ((-1 : Int), _))) = some (-1) from rfl]
        generalize Txt.slice z none (some (-1)) = z' at *
        refine st e (hn₅.push _) fun h₆ hn₆ hs₆ => ?_
        dsimp only at hs₆ ⊢
        refine wpAny_execs_nil ?_
        have hzr : z.length = r.length + 1 := by
          have := congrArg List.length hrc
          simpa [Str.length] using this
        have hzr' : z'.length = r.length := by
          have := congrArg List.length hsl
          simpa [Str.length] using this
        refine ⟨r.length, by omega, _, z', _, hn₆, rfl, ?_, hzr', by omega, (O₅.push (t := 0) _).upd hs₆.extBut hL0⟩
        rw [hsl, ← htr, hrc, trim_snoc, if_pos rfl]
      · rw [show ([c] == [45] : Bool) = false by simpa using hc45, if_neg Bool.false_ne_true, if_neg Bool.false_ne_true]
        refine wpAny_execs_nil ?_
        exact done z _ _ hn₅ hp₅ htr (by rw [hrc, trim_snoc, if_neg hc45]) O₅.tok
  · rw [show (y'.cps.toList == y.cps.toList) = false by
      rw [beq_eq_false_iff_ne]
      exact fun q => hyy (Str.ext' (Array.toList_inj.mp q)), if_neg Bool.false_ne_true]
    refine wpAny_execs_nil ?_
    dsimp only
    refine wpAny_execs_cons (wpAny_Assign_Name (ld e hn₃ rfl (st e hn₃ fun h₄ hn₄ hs₄ => ?_)))
    refine wpAny_execs_nil ?_
    have := r3 hyy
    exact ⟨_, this, _, y', _, hn₄, rfl, by rw [r1, hcol], rfl, by omega, O₃.upd hs₄.extBut hL0, Nat.le_succ_of_le hk₃⟩
end
end Mine
end

section
namespace Mine
open PySem PySem.W PyProof.Rows PySem.Calls PySem.NumText

theorem name_is {n₁ n₂ n₃ n₄ : Int} : (nameOf n₁ n₂ n₃ n₄).cps.toList = [] ++ (dg n₁ ++ (45 :: ([] ++ (dg n₂ ++ (45 :: ([] ++ (dg n₃ ++ (45 :: ([] ++ (dg n₄ ++ [])))))))))) := by
  have d : (Str.ofString "-").cps.toList = [45] := by decide +kernel
  show (((((((strI n₁).cps ++ (Str.ofString "-").cps) ++ (strI n₂).cps) ++ (Str.ofString "-").cps) ++ (strI n₃).cps) ++ (Str.ofString "-").cps) ++ (strI n₄).cps).toList = _
  simp only [Array.toList_append, d]
  simp [dg, strI]
theorem pieces_name {n₁ n₂ n₃ n₄ : Int} (hsm : ∀ n ∈ [n₁, n₂, n₃, n₄], small n) :
    Pieces (reSplit ((nameOf n₁ n₂ n₃ n₄).cps.size + 1) (nameOf n₁ n₂ n₃ n₄).cps.toList) [.num 100, .num n₁, .num 100, .num n₂, .num 100, .num n₃, .num 100, .num n₄] := by
  have d1 := dg_facts n₁ (hsm _ (by simp))
  have d2 := dg_facts n₂ (hsm _ (by simp))
  have d3 := dg_facts n₃ (hsm _ (by simp))
  have d4 := dg_facts n₄ (hsm _ (by simp))
  obtain ⟨f, hf⟩ : ∃ f, (nameOf n₁ n₂ n₃ n₄).cps.size + 1 = f + 7 := by
    refine ⟨(nameOf n₁ n₂ n₃ n₄).cps.size + 1 - 7, ?_⟩
    have e : (nameOf n₁ n₂ n₃ n₄).cps.size = (nameOf n₁ n₂ n₃ n₄).cps.toList.length := Array.length_toList.symm
    rw [e, name_is]
    simp only [List.length_append, List.length_cons, List.length_nil]
    have := List.length_pos_iff.mpr d1.2.1
    have := List.length_pos_iff.mpr d2.2.1
    have := List.length_pos_iff.mpr d3.2.1
    have := List.length_pos_iff.mpr d4.2.1
    omega
  have h0 : ∀ c ∈ ([] : List Nat), pl c = true := by simp
  have h5 : ∀ (x : List Nat) c, (45 :: x).head? = some c → dig c = false := fun x c hc => by cases hc; decide
  rw [hf, name_is, split_num h0 d1.1 d1.2.1 (h5 _), split_dash, split_num h0 d2.1 d2.2.1 (h5 _), split_dash, split_num h0 d3.1 d3.2.1 (h5 _), split_dash, split_num h0 d4.1 d4.2.1 (by simp), split_end h0]
  exact Pieces.cons skip_nil (.cons (num_piece (hsm n₁ (by simp))) (.cons skip_nil (.cons skip_dash (.cons skip_nil (.cons (num_piece (hsm n₂ (by simp))) (.cons skip_nil (.cons skip_dash (.cons skip_nil (.cons (num_piece (hsm n₃ (by simp))) (.cons skip_nil (.cons skip_dash (.cons skip_nil (.cons (num_piece (hsm n₄ (by simp))) (.cons skip_nil .nil))))))))))))))
end Mine
end

section
namespace Mine
open PySem PySem.W PyProof.Rows PySem.Calls

def platAns (n₁ n₂ n₃ n₄ : Int) (j : Nat) : Str := if (aheadOf j).cps.toList = [] then nameOf n₁ n₂ n₃ n₄ else Str.ofString "-" ++ nameOf n₁ n₂ n₃ n₄

theorem col_num : ∀ {d r : List Nat} {p : Bool}, 45 ∉ d → d ≠ [] → col p (d ++ r) = d ++ col false r
  | [], _, _, _, h => absurd rfl h
  | [c], r, p, h, _ => by
    have hc : c ≠ 45 := fun e => h (by simp [e])
    show (if c = 45 then (if p then col true r else 45 :: col true r) else c :: col false r) = c :: col false r
    rw [if_neg hc]
  | c :: c' :: d, r, p, h, _ => by
    have hc : c ≠ 45 := fun e => h (by simp [e])
    have ih := col_num (d := c' :: d) (r := r) (p := false) (fun e => h (List.mem_cons_of_mem _ e)) (by simp)
    show (if c = 45 then (if p then col true (c' :: d ++ r) else 45 :: col true (c' :: d ++ r)) else c :: col false (c' :: d ++ r)) = _
    rw [if_neg hc, ih]
    rfl
theorem col_true : ∀ (k : Nat) (r : List Nat), col true (List.replicate k 45 ++ r) = col true r
  | 0, _ => rfl
  | k + 1, r => by
    show col true (45 :: (List.replicate k 45 ++ r)) = _
    show (if (45 : Nat) = 45 then (if true then col true (List.replicate k 45 ++ r) else _) else _) = _
    rw [if_pos rfl, if_pos rfl, col_true k r]
theorem col_dash (k : Nat) (r : List Nat) : col false (List.replicate (k + 1) 45 ++ r) = 45 :: col true r := by
  show col false (45 :: (List.replicate k 45 ++ r)) = _
  show (if (45 : Nat) = 45 then (if false then _ else 45 :: col true (List.replicate k 45 ++ r)) else _) = _
  rw [if_pos rfl, if_neg Bool.false_ne_true, col_true]
theorem platM_app (a b : List Nat) : platM (a ++ b) = platM a ++ platM b := by simp [platM, sw_app]
theorem platM_dg {n : Int} (h : small n) : platM (dg n) = dg n := by
  have f : ∀ a b, (a < 48 ∨ 57 < a) → sw a b (dg n) = dg n := fun a b ha => sw_free fun hm => by have := dg_range h a hm; omega
  unfold platM
  rw [f _ _ (by decide), f _ _ (by decide), f _ _ (by decide), f _ _ (by decide), f _ _ (by decide), f _ _ (by decide), f _ _ (by decide), f _ _ (by decide)]
theorem dg_no45 {n : Int} (h : small n) : 45 ∉ dg n := fun hm => by have := dg_range h 45 hm; omega

theorem plat_core {n₁ n₂ n₃ n₄ : Int} {h p q r e : List Nat} {a b c d i : Nat} (hsm : ∀ n ∈ [n₁, n₂, n₃, n₄], small n) (h0 : h = [] ∨ h ≠ [] ∧ platM h = List.replicate (i + 1) 45)
    (h1 : platM p = List.replicate (a + 1) 45) (h2 : platM q = List.replicate (b + 1) 45) (h3 : platM r = List.replicate (c + 1) 45) (h4 : platM e = List.replicate (d + 1) 45) :
    platOf (h ++ (dg n₁ ++ (p ++ (dg n₂ ++ (q ++ (dg n₃ ++ (r ++ (dg n₄ ++ e)))))))) = (if h = [] then [] else [45]) ++ (dg n₁ ++ 45 :: (dg n₂ ++ 45 :: (dg n₃ ++ 45 :: dg n₄))) := by
  have s1 := hsm n₁ (by simp)
  have s2 := hsm n₂ (by simp)
  have s3 := hsm n₃ (by simp)
  have s4 := hsm n₄ (by simp)
  have d1 := (dg_facts n₁ s1).2.1
  have d2 := (dg_facts n₂ s2).2.1
  have d3 := (dg_facts n₃ s3).2.1
  have d4 := (dg_facts n₄ s4).2.1
  have hc : ∀ z, col z (dg n₁ ++ (List.replicate (a + 1) 45 ++ (dg n₂ ++ (List.replicate (b + 1) 45 ++ (dg n₃ ++ (List.replicate (c + 1) 45 ++ (dg n₄ ++ (List.replicate (d + 1) 45 ++ [])))))))) = (dg n₁ ++ 45 :: (dg n₂ ++ 45 :: (dg n₃ ++ 45 :: dg n₄))) ++ [45] := fun z => by
    rw [col_num (dg_no45 s1) d1, col_dash, col_num (dg_no45 s2) d2, col_dash, col_num (dg_no45 s3) d3, col_dash, col_num (dg_no45 s4) d4, col_dash]
    simp [col]
  have hM : col false (platM (h ++ (dg n₁ ++ (p ++ (dg n₂ ++ (q ++ (dg n₃ ++ (r ++ (dg n₄ ++ e))))))))) = ((if h = [] then [] else [45]) ++ (dg n₁ ++ 45 :: (dg n₂ ++ 45 :: (dg n₃ ++ 45 :: dg n₄)))) ++ [45] := by
    simp only [platM_app, platM_dg s1, platM_dg s2, platM_dg s3, platM_dg s4, h1, h2, h3, h4]
    rcases h0 with rfl | ⟨hn, h0⟩
    · have := hc false
      rw [List.append_nil] at this
      rw [if_pos rfl]
      exact this
    · have := hc true
      rw [List.append_nil] at this
      rw [if_neg hn, h0, col_dash, this]
      rfl
  unfold platOf
  rw [hM, trim_snoc, if_pos rfl]
  obtain ⟨x, y, hy⟩ := last_of d4
  have hy45 : y ≠ 45 := fun z => dg_no45 s4 (by rw [hy, z]; simp)
  have e1 : (if h = [] then [] else [45]) ++ (dg n₁ ++ 45 :: (dg n₂ ++ 45 :: (dg n₃ ++ 45 :: dg n₄))) = ((if h = [] then [] else [45]) ++ (dg n₁ ++ 45 :: (dg n₂ ++ 45 :: (dg n₃ ++ 45 :: x)))) ++ [y] := by rw [hy]; simp
  rw [e1, trim_snoc, if_neg hy45]

theorem name_list {n₁ n₂ n₃ n₄ : Int} : (nameOf n₁ n₂ n₃ n₄).cps.toList = dg n₁ ++ 45 :: (dg n₂ ++ 45 :: (dg n₃ ++ 45 :: dg n₄)) := by rw [name_is]; simp
theorem ans_list {n₁ n₂ n₃ n₄ : Int} {j : Nat} : (platAns n₁ n₂ n₃ n₄ j).cps.toList = (if (aheadOf j).cps.toList = [] then [] else [45]) ++ (dg n₁ ++ 45 :: (dg n₂ ++ 45 :: (dg n₃ ++ 45 :: dg n₄))) := by
  have d : (Str.ofString "-").cps.toList = [45] := by decide +kernel
  unfold platAns
  by_cases h : (aheadOf j).cps.toList = []
  · rw [if_pos h, if_pos h, name_list]; rfl
  · rw [if_neg h, if_neg h]
    show ((Str.ofString "-").cps ++ (nameOf n₁ n₂ n₃ n₄).cps).toList = _
    rw [Array.toList_append, d, name_list]

theorem plat_list {n₁ n₂ n₃ n₄ : Int} (hsm : ∀ n ∈ [n₁, n₂, n₃, n₄], small n) {j : Nat} (hj : j < 5) : platOf (textOf [n₁, n₂, n₃, n₄] j).cps.toList = (platAns n₁ n₂ n₃ n₄ j).cps.toList := by
  rw [ans_list]
  show platOf (lawText [n₁, n₂, n₃, n₄] (wayOf j) (aheadOf j).cps.toList) = _
  have hw : ∀ j ∈ List.range 5, ∃ a b c d i : Nat, ∃ x y z : Int, wayOf j = [x, y, z] ∧ platM (par x ++ [40]) = List.replicate (a + 1) 45 ∧ platM (par y ++ [40]) = List.replicate (b + 1) 45 ∧ platM (par z ++ [40]) = List.replicate (c + 1) 45 ∧ platM (par (0 - x + 1 - y + 1 - z + 1)) = List.replicate (d + 1) 45 ∧
      ((aheadOf j).cps.toList = [] ∨ (aheadOf j).cps.toList ≠ [] ∧ platM (aheadOf j).cps.toList = List.replicate (i + 1) 45) := by
    have k0 : j = 0 ∨ j = 1 ∨ j = 2 ∨ j = 3 ∨ j = 4 := by omega
    intro j hj
    have hj := List.mem_range.mp hj
    have k0 : j = 0 ∨ j = 1 ∨ j = 2 ∨ j = 3 ∨ j = 4 := by omega
    rcases k0 with rfl | rfl | rfl | rfl | rfl
    · exact ⟨0, 0, 0, 2, 0, 0, 0, 0, by decide, by decide, by decide, by decide, by decide, .inl (by decide +kernel)⟩
    · exact ⟨0, 0, 1, 1, 2, 0, 0, 1, by decide, by decide, by decide, by decide, by decide, .inr (by decide +kernel)⟩
    · exact ⟨0, 0, 2, 0, 1, 0, 0, 2, by decide, by decide, by decide, by decide, by decide, .inr (by decide +kernel)⟩
    · exact ⟨0, 1, 0, 1, 0, 0, 1, 0, by decide, by decide, by decide, by decide, by decide, .inl (by decide +kernel)⟩
    · exact ⟨0, 1, 1, 0, 2, 0, 1, 1, by decide, by decide, by decide, by decide, by decide, .inr (by decide +kernel)⟩
  obtain ⟨a, b, c, d, i, x, y, z, h1, h2, h3, h4, h5, h6⟩ := hw j (List.mem_range.mpr hj)
  rw [h1, text_is]
  exact plat_core hsm h6 h2 h3 h4 h5

theorem join_one (a x : Str) : Txt.join a [x] = x := by
  unfold Txt.join
  rw [StrLaws.glued_eq_join]
  rfl

theorem strips : ∀ n : Int, small n → Txt.strip (strI n ++ Str.ofString " ") = strI n ∧ Txt.strip (Str.ofString " " ++ strI n) = strI n ∧ Txt.strip (Str.ofString "(" ++ strI n) = Str.ofString "(" ++ strI n ∧ Txt.strip (strI n ++ Str.ofString ")") = strI n ++ Str.ofString ")" := by
  have h : ∀ k : Fin 1000, Txt.strip (strI (k.val : Int) ++ Str.ofString " ") = strI (k.val : Int) ∧ Txt.strip (Str.ofString " " ++ strI (k.val : Int)) = strI (k.val : Int) ∧ Txt.strip (Str.ofString "(" ++ strI (k.val : Int)) = Str.ofString "(" ++ strI (k.val : Int) ∧ Txt.strip (strI (k.val : Int) ++ Str.ofString ")") = strI (k.val : Int) ++ Str.ofString ")" := by decide +kernel
  intro n ⟨h0, h1⟩
  have := h ⟨n.toNat, by omega⟩
  rwa [show ((n.toNat : Nat) : Int) = n by omega] at this

section
variable {prog : Program} {w : World} {A : Around} {E : Value → Shared → Prop} {s : Shared} {n₁ n₂ n₃ n₄ : Int}
/-- _platform of a text of the law's -/
theorem plat_text {j : Nat} {t : Tok} {Q : Value → Shared → Prop} (g : Gr w s.heap) (hh : A.handled = none) (hroom : A.depth + 1 < recursionLimit) (hsm : ∀ n ∈ [n₁, n₂, n₃, n₄], small n) (hj : j < 5)
    (hQ : ∀ s' t', Ok w s s' → Q (.str (platAns n₁ n₂ n₃ n₄ j) t') s') : wpAny (model prog w) A (call (.ref 51) [.str (textOf [n₁, n₂, n₃, n₄] j) t]) Q E s := by
  have sg := text_signs hsm (j := j) (by omega)
  have hlen : (textOf [n₁, n₂, n₃, n₄] j).length ≤ 40 := text_len hsm (by omega)
  have hpos : (textOf [n₁, n₂, n₃, n₄] j).length ≠ 0 := by
    have e : (textOf [n₁, n₂, n₃, n₄] j).length = (lawText [n₁, n₂, n₃, n₄] (wayOf j) (aheadOf j).cps.toList).length := List.size_toArray ..
    rw [e]
    unfold wayOf
    rw [text_is]
    simp
  have hst : Txt.strip (textOf [n₁, n₂, n₃, n₄] j) = textOf [n₁, n₂, n₃, n₄] j := KXs.strip_still fun c hc => by have := sg c hc; omega
  have e : (⟨(platOf (textOf [n₁, n₂, n₃, n₄] j).cps.toList).toArray⟩ : Str) = platAns n₁ n₂ n₃ n₄ j := by
    rw [plat_list hsm hj]
  refine plat g hh hroom (.cons _ t .nil) (by simp; omega) ?_ (by omega) (fun hm => by have := sg 117 hm; omega) fun s' t' o => e ▸ hQ s' t' o
  rw [List.filter_cons_of_pos (by simpa using hpos), List.filter_nil, List.map_cons, List.map_nil, hst, join_one]
/-- _platform of the parts -/
theorem plat_parts {t₁ t₂ t₃ t₄ t₅ : Tok} {Q : Value → Shared → Prop} (g : Gr w s.heap) (hh : A.handled = none) (hroom : A.depth + 1 < recursionLimit) (hsm : ∀ n ∈ [n₁, n₂, n₃, n₄], small n)
    (hQ : ∀ s' t', Ok w s s' → Q (.str (nameOf n₁ n₂ n₃ n₄) t') s') :
    wpAny (model prog w) A (call (.ref 51) [.str (Str.ofString "") t₁, .str (strI n₁ ++ Str.ofString " ") t₂, .str (Str.ofString " " ++ strI n₂) t₃, .str (Str.ofString "(" ++ strI n₃) t₄, .str (strI n₄ ++ Str.ofString ")") t₅]) Q E s := by
  have a1 := strI_len (hsm n₁ (by simp))
  have a2 := strI_len (hsm n₂ (by simp))
  have a3 := strI_len (hsm n₃ (by simp))
  have a4 := strI_len (hsm n₄ (by simp))
  have d0 : (Str.ofString "").length = 0 := by decide +kernel
  have d1 : (Str.ofString " ").length = 1 := by decide +kernel
  have d2 : (Str.ofString "(").length = 1 := by decide +kernel
  have d3 : (Str.ofString ")").length = 1 := by decide +kernel
  have d4 : (Str.ofString "-").length = 1 := by decide +kernel
  have c2 : (Str.ofString "(").cps.toList = [40] := by decide +kernel
  have c3 : (Str.ofString ")").cps.toList = [41] := by decide +kernel
  have c4 : (Str.ofString "-").cps.toList = [45] := by decide +kernel
  have hxl : (strI n₁ ++ Str.ofString "-" ++ (strI n₂ ++ Str.ofString "-" ++ ((Str.ofString "(" ++ strI n₃) ++ Str.ofString "-" ++ (strI n₄ ++ Str.ofString ")")))).cps.toList = [] ++ (dg n₁ ++ ([45] ++ (dg n₂ ++ ([45, 40] ++ (dg n₃ ++ ([45] ++ (dg n₄ ++ [41]))))))) := by
    simp only [Str.cps_append, Array.toList_append, c2, c3, c4]
    simp [dg, strI]
  have e : (⟨(platOf (strI n₁ ++ Str.ofString "-" ++ (strI n₂ ++ Str.ofString "-" ++ ((Str.ofString "(" ++ strI n₃) ++ Str.ofString "-" ++ (strI n₄ ++ Str.ofString ")")))).cps.toList).toArray⟩ : Str) = nameOf n₁ n₂ n₃ n₄ := by
    rw [hxl, plat_core (a := 0) (b := 1) (c := 0) (d := 0) (i := 0) hsm (.inl rfl) (by decide) (by decide) (by decide) (by decide), if_pos rfl, List.nil_append, ← name_list]
  refine plat g hh hroom (.cons _ t₁ (.cons _ t₂ (.cons _ t₃ (.cons _ t₄ (.cons _ t₅ .nil))))) (by simp [Str.length_append]; omega) (x := strI n₁ ++ Str.ofString "-" ++ (strI n₂ ++ Str.ofString "-" ++ ((Str.ofString "(" ++ strI n₃) ++ Str.ofString "-" ++ (strI n₄ ++ Str.ofString ")")))) ?_ (by simp only [Str.length_append]; omega) ?_ fun s' t' o => e ▸ hQ s' t' o
  · rw [List.filter_cons_of_neg (by simp [d0]), List.filter_cons_of_pos (by simp [Str.length_append, d1]), List.filter_cons_of_pos (by simp [Str.length_append, d1]), List.filter_cons_of_pos (by simp [Str.length_append, d2]), List.filter_cons_of_pos (by simp [Str.length_append, d3]), List.filter_nil]
    simp only [List.map_cons, List.map_nil, (strips n₁ (hsm _ (by simp))).1, (strips n₂ (hsm _ (by simp))).2.1, (strips n₃ (hsm _ (by simp))).2.2.1, (strips n₄ (hsm _ (by simp))).2.2.2]
    unfold Txt.join
    rw [StrLaws.glued_eq_join]
    rfl
  · rw [hxl]
    intro hm
    have no : ∀ n, small n → 117 ∉ dg n := fun n h z => by have := dg_range h 117 z; omega
    simp [no n₁ (hsm n₁ (by simp)), no n₂ (hsm n₂ (by simp)), no n₃ (hsm n₃ (by simp)), no n₄ (hsm n₄ (by simp))] at hm
end
end Mine
end

section
namespace Mine
open PySem PySem.W PyProof.Rows PySem.Calls
open Sem (wp)

abbrev nm8 : List (Str × NameKind) := [(Str.ofString ".0", .local), (Str.ofString "j", .local), (Str.ofString "_platform", .globalImplicit), (Str.ofString "texts", .free)]
abbrev nm8' : List (Str × NameKind) := [(Str.ofString ".0", .local), (Str.ofString "j", .local), (Str.ofString "aheads", .free), (Str.ofString "name", .free)]

section
variable {prog : Program} {w : World} {A : Around} {E : Value → Shared → Prop} {S s : Shared} {env cenv : Env} {C F : Addr} {ns : List (Str × NameKind)} {l cm : List (Str × Value)} {n₁ n₂ n₃ n₄ : Int}

/-- f(..), five arguments -/
theorem callF5 {id : Str} {f : Addr} {e₁ e₂ e₃ e₄ e₅ : PySem.Expr} {p pos : Pos} {fd : FuncData} {oc : Value} {od : Option Addr} {osl : Array (Option Value)} {Q : Value → Shared → Prop} (e : Ev cenv C ns) (g : Gr w s.heap) (hm : nsIn (KK w) mainGlobals id = some (some (.ref f)))
    (ho : (KK w).lookup f = some ⟨oc, od, .func fd, osl⟩) (he : starEach [e₁, e₂, e₃, e₄, e₅] cenv = [(false, eval e₁ cenv), (false, eval e₂ cenv), (false, eval e₃ cenv), (false, eval e₄ cenv), (false, eval e₅ cenv)]) (hl : ns.lookup id = some .globalImplicit) (hd : (id == ("__debug__" : Str)) = false)
    (h : wpAny (model prog w) A (eval e₁ cenv) (fun v s₁ => wpAny (model prog w) A (eval e₂ cenv) (fun v₂ s₂ => wpAny (model prog w) A (eval e₃ cenv) (fun v₃ s₃ => wpAny (model prog w) A (eval e₄ cenv) (fun v₄ s₄ => wpAny (model prog w) A (eval e₅ cenv) (fun v₅ s₅ => Gr w s₅.heap ∧ wpAny (model prog w) A (call (.ref f) [v, v₂, v₃, v₄, v₅]) Q E s₅) E s₄) E s₃) E s₂) E s₁) E s) :
    wpAny (model prog w) A (eval (.Call (.Name id p) [e₁, e₂, e₃, e₄, e₅] [] pos) cenv) Q E s := by
  refine wpAny_Call_NameR (ldg e g hm ?_ hl hd)
  refine callWith_function (o := ⟨oc, od, .func fd, osl⟩) (fd := fd) ?_
  rw [he]
  exact evalArgs_plain (spliced_cons (wpAny_mono h (fun v s₁ h₁ => spliced_cons (wpAny_mono h₁ (fun v₂ s₂ h₂ => spliced_cons (wpAny_mono h₂ (fun v₃ s₃ h₃ => spliced_cons (wpAny_mono h₃ (fun v₄ s₄ h₄ => spliced_cons (wpAny_mono h₄ (fun v₅ s₅ h₅ => spliced_nil ⟨⟨h₅.1.k _ _ ho, rfl⟩, h₅.2⟩) fun _ _ z => z)) fun _ _ z => z)) fun _ _ z => z)) fun _ _ z => z)) fun _ _ z => z))

theorem at18 {i : Nat} (g : Nat → PyData) (hi : i < 18) : ((List.range 18).map g)[i]? = some (g i) := by simp [hi]
theorem five {i : Nat} {d : PyData} (hd : ((List.range 5).map fun (j : Nat) => PyData.int (j : Int))[i]? = some d) : i < 5 ∧ d = .int (i : Int) := by
  have hi : i < 5 := by
    rcases Nat.lt_or_ge i 5 with h | h
    · exact h
    · rw [List.getElem?_eq_none (by simpa using h)] at hd; cases hd
  exact ⟨hi, by simpa [hi] using hd.symm⟩

theorem strOk_of {x : Str} (h : ∀ c ∈ x.cps.toList, c < 128) : PyData.strOk x = true := by
  unfold PyData.strOk
  rw [← Array.all_toList, List.all_eq_true]
  intro c hc
  exact decide_eq_true (Nat.lt_trans (h c hc) (by decide))

set_option maxHeartbeats 1000000 in
/-- if [..] != [..] or _platform(..) != name: return False -/
theorem st_if2 {p1 p2 p3 p4 p5 p6 p7 p8 p9 p10 p11 p12 p13 p14 p15 p16 p17 p18 p19 p20 p21 p22 p23 p24 p25 p26 p27 p28 p29 p30 p31 p32 p33 p34 p35 p36 p37 p38 p39 : Pos} {k1 k2 k3 k4 k5 k6 k7 : Nat} {body : List Stmt} {vt vx va : Value} {t₁ t₂ t₃ t₄ tn : Tok} {Q : Flow → Shared → Prop}
    (V : LV env F) (ls : LS w S env F l cm s) (hh : A.handled = none) (hroom : A.depth + 1 < recursionLimit) (hu : A.units + 64 < cLine) (hsm : ∀ n ∈ [n₁, n₂, n₃, n₄], small n)
    (c1 : cm.lookup (Str.ofString "trees") = some vt) (c2 : cm.lookup (Str.ofString "texts") = some vx) (c3 : cm.lookup (Str.ofString "aheads") = some va) (c4 : cm.lookup (Str.ofString "name") = some (.str (nameOf n₁ n₂ n₃ n₄) tn))
    (h1 : l.lookup (Str.ofString "one") = some (.str (strI n₁) t₁)) (h2 : l.lookup (Str.ofString "two") = some (.str (strI n₂) t₂)) (h3 : l.lookup (Str.ofString "three") = some (.str (strI n₃) t₃)) (h4 : l.lookup (Str.ofString "four") = some (.str (strI n₄) t₄))
    (kt : Kn (XX env F) s.heap vt (.list ((List.range 5).map fun (j : Nat) => .int (j : Int)))) (kx : Kn (XX env F) s.heap vx (.list ((List.range 18).map fun j => .str (textOf [n₁, n₂, n₃, n₄] j)))) (ka : Kn (XX env F) s.heap va (.list ((List.range 18).map fun j => .str (aheadOf j))))
    (hok : SeqAt.shaped (.list ((List.range 5).map fun j => .str (platAns n₁ n₂ n₃ n₄ j))) = true)
    (h : ∀ s₂, LS w S env F l cm s₂ → (∀ u d, Kn (XX env F) s.heap u d → Kn (XX env F) s₂.heap u d) → Q .next s₂) :
    wpR (model prog w) A (exec (.If (.BoolOp .Or [
      .Compare (.ListComp (.Call (.Name (Str.ofString "_platform") p1) [.Subscript (.Name (Str.ofString "texts") p2) (.Name (Str.ofString "j") p3) p4] [] p5) [⟨.Name (Str.ofString "j") p6, .Name (Str.ofString "trees") p7, [], 0⟩] (scp nm8) p8) [.NotEq]
        [.ListComp (.IfExp (.Compare (.Subscript (.Name (Str.ofString "aheads") p9) (.Name (Str.ofString "j") p10) p11) [.Eq] [.Constant (.str (Str.ofString "")) k1 p12] p13) (.Name (Str.ofString "name") p14) (.BinOp (.Constant (.str (Str.ofString "-")) k2 p15) .Add (.Name (Str.ofString "name") p16) p17) p18) [⟨.Name (Str.ofString "j") p19, .Name (Str.ofString "trees") p20, [], 0⟩] (scp nm8') p21] p22,
      .Compare (.Call (.Name (Str.ofString "_platform") p23) [.Constant (.str (Str.ofString "")) k3 p24, .BinOp (.Name (Str.ofString "one") p25) .Add (.Constant (.str (Str.ofString " ")) k4 p26) p27, .BinOp (.Constant (.str (Str.ofString " ")) k5 p28) .Add (.Name (Str.ofString "two") p29) p30,
        .BinOp (.Constant (.str (Str.ofString "(")) k6 p31) .Add (.Name (Str.ofString "three") p32) p33, .BinOp (.Name (Str.ofString "four") p34) .Add (.Constant (.str (Str.ofString ")")) k7 p35) p36] [] p37) [.NotEq] [.Name (Str.ofString "name") p38] p39] p22) body [] p23) env) Q (fun _ _ => False) s := by
  have fm : ∀ g : Nat → Str, (List.range ((List.range 5).map fun (j : Nat) => PyData.int (j : Int)).length).filterMap (fun j => some (PyData.str (g j))) = (List.range 5).map fun j => .str (g j) := fun g => rfl
  refine R.ifNot (R.cmp2 ?_)
  refine R.lcompL V ls hh (cl := [(Str.ofString "texts", F + 5)]) rfl (by decide) (by decide) rfl _ (by simp) (ldc V.le.e (c := F + 6) (by rw [V.cells]; rfl) (ls.val V rfl c1) (Itm.of ls kt rfl)) (fun _ => rfl) (fun j => some (.str (platAns n₁ n₂ n₃ n₄ j))) ?_ ?_
  · intro C i u d s₄ l' hd ec hC ls₄ hkn hn hx ku
    obtain ⟨hi, rfl⟩ := five hd
    obtain ⟨t, rfl⟩ := ku.int
    rw [tests_nil]
    refine R.pure ⟨rfl, Lt.refl ls₄.gr, fun d hd => ?_⟩
    cases hd
    refine R.of (callF1 ec ls₄.gr.unrid rfl rfl rfl rfl (by decide) (itemC ec (c := F + 5) rfl (ls₄.val V rfl c2) (hkn _ _ kx) hn hx (d := .str (textOf [n₁, n₂, n₃, n₄] i)) (at18 _ (by omega)) (by omega) (fun u ku => ⟨ls₄.gr.unrid, ?_⟩) rfl rfl))
    obtain ⟨t', rfl⟩ := ku.str
    exact plat_text ls₄.gr.unrid hh hroom hsm hi fun s₅ t₅ o₅ => ⟨Lt.of_ok o₅ ls₄.gr V.le.F46, [], .str _ _, by simp⟩
  intro s₁ r ls₁ lt₁ hk₁ kr
  rw [fm] at kr
  refine R.lcompL V ls₁ hh (cl := [(Str.ofString "name", F + 7), (Str.ofString "aheads", F + 4)]) rfl (by decide) (by decide) rfl _ (by simp) (ldc V.le.e (c := F + 6) (by rw [V.cells]; rfl) (ls₁.val V rfl c1) (Itm.of ls₁ (hk₁ _ _ kt) rfl)) (fun _ => rfl) (fun j => some (.str (platAns n₁ n₂ n₃ n₄ j))) ?_ ?_
  · intro C i u d s₄ l' hd ec hC ls₄ hkn hn hx ku
    obtain ⟨hi, rfl⟩ := five hd
    obtain ⟨t, rfl⟩ := ku.int
    rw [tests_nil]
    refine R.pure ⟨rfl, Lt.refl ls₄.gr, fun d hd => ?_⟩
    cases hd
    refine R.of (wpAny_IfExp (wpAny_isTrue_Compare1 (itemC ec (c := F + 4) rfl (ls₄.val V rfl c3) (hkn _ _ (hk₁ _ _ ka)) hn hx (d := .str (aheadOf i)) (at18 _ (by omega)) (by omega) (fun u ku => ?_) rfl rfl)))
    obtain ⟨t', rfl⟩ := ku.str
    refine wpAny_Constant_str (P.eq_str (wpAny_truthy_bool ?_))
    rw [show (Str.ofString "").cps.toList = [] by decide +kernel]
    unfold platAns
    by_cases ha : (aheadOf i).cps.toList = []
    · rw [ha, show (([] : List Nat) == []) = true from rfl, if_pos rfl, if_pos rfl]
      refine ldc ec (c := F + 7) rfl (ls₄.val V rfl c4) ⟨Lt.up ls₄.gr fun _ _ q => q, [], .str _ _, by simp⟩ rfl
    · rw [show ((aheadOf i).cps.toList == []) = false by simpa using ha, if_neg Bool.false_ne_true, if_neg ha]
      have d1 : (Str.ofString "-").length = 1 := by decide +kernel
      have a1 := strI_len (hsm n₁ (by simp))
      have a2 := strI_len (hsm n₂ (by simp))
      have a3 := strI_len (hsm n₃ (by simp))
      have a4 := strI_len (hsm n₄ (by simp))
      refine wpAny_BinOp (wpAny_Constant_str (ldc ec (c := F + 7) rfl (ls₄.val V rfl c4) (addS (by simp only [nameOf, Str.length_append, d1]; omega) fun t k => ⟨Lt.up ls₄.gr fun _ _ q => q, [], .str _ _, by simp⟩) rfl))
  intro s₂ r₂ ls₂ lt₂ hk₂ kr₂
  rw [fm] at kr₂
  refine ne_same (hk₂ _ _ kr) kr₂ hok hu ⟨rfl, ?_⟩
  have d1 : ∀ x ∈ [" ", "(", ")"], (Str.ofString x).length = 1 := by decide +kernel
  have a1 := strI_len (hsm n₁ (by simp))
  have a2 := strI_len (hsm n₂ (by simp))
  have a3 := strI_len (hsm n₃ (by simp))
  have a4 := strI_len (hsm n₄ (by simp))
  refine R.of (wpAny_isTrue_Compare1 (callF5 V.le.e ls₂.gr.unrid rfl rfl rfl rfl (by decide) (wpAny_Constant_str (wpAny_BinOp (ld V.le.e ls₂.ns h1 (wpAny_Constant_str (addS (by rw [d1 _ (by simp)]; omega) fun t k => ?_)) rfl)))))
  refine wpAny_BinOp (wpAny_Constant_str (ld V.le.e ls₂.ns h2 (addS (by rw [d1 _ (by simp)]; omega) fun t k => ?_) rfl))
  refine wpAny_BinOp (wpAny_Constant_str (ld V.le.e ls₂.ns h3 (addS (by rw [d1 _ (by simp)]; omega) fun t k => ?_) rfl))
  refine wpAny_BinOp (ld V.le.e ls₂.ns h4 (wpAny_Constant_str (addS (by rw [d1 _ (by simp)]; omega) fun t k => ⟨ls₂.gr.unrid, ?_⟩)) rfl)
  refine plat_parts ls₂.gr.unrid hh hroom hsm fun s₃ t' o₃ => ?_
  have ltk : Lt w F s₂ ⟨s₂.heap, s₂.gens, s₂.drawn, k, s₂.os⟩ := Lt.up ls₂.gr fun _ _ q => q
  have lt₃ : Lt w F s₂ s₃ := ltk.trans (Lt.of_ok o₃ ltk.gr V.le.F46)
  have ls₃ := ls₂.lt V.le lt₃
  refine ldc V.le.e (c := F + 7) (by rw [V.cells]; rfl) (ls₃.val V rfl c4) (P.ne_str (wpAny_truthy_bool ⟨by simp, ?_⟩)) rfl
  exact h _ ls₃ fun u d k => lt₃.kn' (hk₂ _ _ (hk₁ _ _ k))
end
end Mine
end

section
namespace Mine
open PySem PySem.W PyProof.Rows PySem.Calls
open Sem (wp)

section
variable {prog : Program} {w : World} {A : Around} {E : Value → Shared → Prop} {S s : Shared} {env : Env} {F : Addr} {l cm : List (Str × Value)}

/-- y = [.. for x in ..], y a name of the frame's own -/
theorem R.usedL {elt iter : PySem.Expr} {names : List (Str × NameKind)} {cl : List (Str × Addr)} {pos px py spos : Pos} {x y : Str} {Q : Flow → Shared → Prop} (V : LV env F) (ls : LS w S env F l cm s) (hh : A.handled = none) (hcl : clOf (lawCells F) names [] = some cl)
    (hcell : ∀ y ∈ names, y.2 ≠ .cell) (hnames : ∀ x ∈ names, x.2 = .local → names.lookup x.1 = some .local) (hx : (relNames lawNs names).lookup x = some .local) (hy : lawNs.lookup y = some .local)
    (hsw : swapsWith (.ListComp elt [⟨.Name x px, iter, [], 0⟩] (scp names) pos) (some (.Name y py)) spos.line env = Pure.pure true) (ds : List PyData) (hds : ds.length ≤ 1000)
    (hit : wpAny (model prog w) A (eval iter env) (Itm w env F s ds) (fun _ _ => False) s) (hs : ∀ x, foldedSetIterable iter env x = Pure.pure x)
    (f : Nat → Option PyData)
    (turn : ∀ C (i : Nat) u d s₄ l', ds[i]? = some d → Ev (compEnvC (scp names) cl C env) C (relNames lawNs names) → s.heap.get? C = none → LS w S env F l cm s₄ → (∀ u d, Kn (XX env F) s.heap u d → Kn (XX env F) s₄.heap u d) → s₄.heap.Ns C (mp l') → l'.lookup x = some u → Kn (XX env F) s₄.heap u d → wpR (model prog w) A (testsOf [] (compEnvC (scp names) cl C env)) (fun ok s₅ => ok = (f i).isSome ∧ Lt w F s₄ s₅ ∧
        ∀ d, f i = some d → wpR (model prog w) A (eval elt (compEnvC (scp names) cl C env)) (fun y s₆ => Lt w F s₅ s₆ ∧ ∃ as, Rd s₆.heap y d as ∧ ∀ a ∈ as, s₅.heap.get? a = none) (fun _ _ => False) s₅) (fun _ _ => False) s₄)
    (h : ∀ s₂ v, LS w S env F ((y, v) :: l) cm s₂ → (∀ u d, Kn (XX env F) s.heap u d → Kn (XX env F) s₂.heap u d) → Kn (XX env F) s₂.heap v (.list ((List.range ds.length).filterMap f)) → Q .next s₂) :
    wpR (model prog w) A (exec (.Assign [.Name y py] (.ListComp elt [⟨.Name x px, iter, [], 0⟩] (scp names) pos) spos) env) Q (fun _ _ => False) s := by
  rw [exec_Assign_Name_used _ _ _ _ hsw]
  refine R.step (wpAny_standAt (R.bind ?_))
  show wpR _ A (do let _ ← PySem.comprehension (.ListComp elt [⟨.Name x px, iter, [], 0⟩] (scp names) pos) (scp names) env _ (newList []) false (eval iter env) (some (assign (.Name y py) env))) _ _ s
  refine R.bind (R.mono (R.comprehension (use := some (assign (.Name y py) env)) (Q := fun _ s' => Q .next s') rfl hs (clos_of (by rw [V.cells]; exact hcl)) rfl hnames
    (R.of (wpAny_mono hit (fun xv s₁ h₁ => ?_) fun _ _ z => z.elim))) (fun _ s' hq => R.pure (R.pure hq)) fun _ _ e => e)
  obtain ⟨r, vs, rfl, hl, n1, n2, lt₁, hlen, hat⟩ := h₁
  refine Src.list (target := .Name x px) hh lt₁.gr (lt₁.F0 ls.F0) hl n1 n2 ⟨x, px, rfl⟩ fun s₂ I hsrc lt₂ => ?_
  rw [hlen] at hsrc
  refine wpAny_mono (R.compCore (E := fun _ _ => False) (RR := fun acc C r s' => match r with
          | .ok _ => wpAny (model prog w) A (assign (.Name y py) env acc) (fun _ s'' => ∃ m, s''.heap.Ns C m ∧ ∀ h', Heap.SameBut C s''.heap h' → Q .next { s'' with heap := h' }) (fun _ _ => False) s'
          | .error _ => False) (hsrc.base lt₁) (lt₁.trans lt₂) ls.F0 V.le.F46 hds hcell rfl (fun i l' => ∃ v, l'.lookup x = some v ∧ vs[i]? = some v) (f := f) ?_ ?_ ?_) (fun acc s₃ h₃ => h₃) fun _ _ e => e
  · exact asg1 (P := fun i v => vs[i]? = some v) V.le.e rfl hx
  · rintro C i s₄ l' hi hC lt hn ⟨v, hv, hvs⟩
    obtain ⟨d, hd, hk⟩ := hat i v hvs
    exact turn C i v d s₄ l' hd (V.le.e.comp rfl) hC (ls.lt V.le lt) (fun u d k => lt.kn' k) hn hv (hk s₄ lt)
  · intro D C s' ys as m lt hD hC hDC hnC hl hr has
    have ls' := ls.lt V.le lt
    have hCX : C ∉ XX env F := fun hm => ls.lives V.le C hm hC
    have hCF : C ≠ F := fun z => hCX (z ▸ XF)
    have hCS : S.heap.get? C = none := by
      cases q : S.heap.get? C with
      | none => rfl
      | some o =>
        have := ls.old C o (fun z => hCX (z ▸ X46)) q
        rw [hC] at this; cases this
    show wpAny _ _ (assign (.Name y py) env (.ref D)) _ _ s'
    refine wpAny_assign_Name (Mine.st V.le.e ls'.ns (fun h₅ hn₅ hs₅ => ⟨m, ns_at hnC fun o q => hs₅.extBut C o hCF q, fun h₆ hs₆ => ?_⟩) hy)
    dsimp only at hs₆ ⊢
    have kk : ∀ b o, b ≠ F → b ≠ C → s'.heap.get? b = some o → h₆.get? b = some o := fun b o b1 b2 q => hs₆.extBut b o b2 (hs₅.extBut b o b1 q)
    have kX : ∀ u d, Kn (XX env F) s.heap u d → Kn (XX env F) h₆ u d := fun u d k => k.keep fun b o hb q => kk b o (fun z => hb (z ▸ XF)) (fun z => by rw [z, hC] at q; cases q) (lt.ext b o (fun z => hb (z ▸ X46)) (fun z => hb (z ▸ XF)) q)
    refine h _ (.ref D) ⟨ls'.g0, ?_, ns_at hn₅ fun o q => hs₆.extBut F o (Ne.symm hCF) q, fun n c hc => ?_, fun b o hb q => kk b o (fun z => by rw [z, ls'.new] at q; cases q) (fun z => by rw [z, hCS] at q; cases q) (ls'.old b o hb q), ls'.os, ls'.bare, ls'.new, ls'.newc⟩ kX ?_
    · refine ls'.g0.on (Gr.rid_on (F := F) ls'.gr (h' := s'.heap) ls'.gr.unrid) fun b o hb q => ?_
      have hbF : b ≠ F := (rid_in q).1
      exact rid_keeps q (kk b o hbF (fun z => hb (z ▸ hCS)) (rid_in q).2)
    · obtain ⟨o, ho, hd⟩ := ls'.cell n c hc
      exact ⟨o, kk c o (V.le.cF (mem_of_lookup hc)) (fun z => hCX (z ▸ Xc (mem_of_lookup hc))) ho, hd⟩
    · refine ⟨D :: as, .list (hl.at fun o q => kk D o (fun z => ls.F0 (z ▸ hD)) hDC q) (hr.keep fun a ha o q => kk a o (fun z => ls.F0 (z ▸ (has a ha).1)) (has a ha).2.2 q), fun a ha hm => ?_⟩
      rcases List.mem_cons.mp ha with rfl | ha
      · exact ls.lives V.le _ hm hD
      · exact ls.lives V.le _ hm (has a ha).1

abbrev nm9 : List (Str × NameKind) := [(Str.ofString ".0", .local), (Str.ofString "j", .local), (Str.ofString "_law_ranks", .globalImplicit), (Str.ofString "aheads", .free), (Str.ofString "numbers", .free), (Str.ofString "ways", .free)]
def ranksD (ns : List Int) (j : Nat) : PyData := .list ((lawRanks ns (wayOf j) (aheadOf j)).map celD)

set_option maxHeartbeats 1000000 in
/-- due = [..] -/
theorem st_due {p1 p2 p3 p4 p5 p6 p7 p8 p9 p10 p11 p12 p13 p14 : Pos} {ns : List Int} {vt vn vw va : Value} {Q : Flow → Shared → Prop}
    (V : LV env F) (ls : LS w S env F l cm s) (hh : A.handled = none) (hroom : A.depth < recursionLimit) (c0 : cm.lookup (Str.ofString "trees") = some vt) (c1 : cm.lookup (Str.ofString "numbers") = some vn) (c2 : cm.lookup (Str.ofString "ways") = some vw) (c3 : cm.lookup (Str.ofString "aheads") = some va)
    (kt : Kn (XX env F) s.heap vt (.list ((List.range 5).map fun (j : Nat) => .int (j : Int)))) (kn : Kn (XX env F) s.heap vn (intsD ns)) (kw : Kn (XX env F) s.heap vw (.list ((List.range 18).map fun j => intsD (wayOf j)))) (ka : Kn (XX env F) s.heap va (.list ((List.range 18).map fun j => .str (aheadOf j))))
    (hns : ns.length = 4) (hpos : p1.line = p10.line)
    (h : ∀ v s₂, LS w S env F ((Str.ofString "due", v) :: l) cm s₂ → (∀ u d, Kn (XX env F) s.heap u d → Kn (XX env F) s₂.heap u d) → Kn (XX env F) s₂.heap v (.list ((List.range 5).map fun j => ranksD ns j)) → Q .next s₂) :
    wpR (model prog w) A (exec (.Assign [.Name (Str.ofString "due") p1] (.ListComp (.Call (.Name (Str.ofString "_law_ranks") p2) [.Name (Str.ofString "numbers") p3, .Subscript (.Name (Str.ofString "ways") p4) (.Name (Str.ofString "j") p5) p6, .Subscript (.Name (Str.ofString "aheads") p7) (.Name (Str.ofString "j") p8) p9] [] p11)
      [⟨.Name (Str.ofString "j") p12, .Name (Str.ofString "trees") p13, [], 0⟩] (scp nm9) p10) p14) env) Q (fun _ _ => False) s := by
  have hsw : swapsWith (.ListComp (.Call (.Name (Str.ofString "_law_ranks") p2) [.Name (Str.ofString "numbers") p3, .Subscript (.Name (Str.ofString "ways") p4) (.Name (Str.ofString "j") p5) p6, .Subscript (.Name (Str.ofString "aheads") p7) (.Name (Str.ofString "j") p8) p9] [] p11)
      [⟨.Name (Str.ofString "j") p12, .Name (Str.ofString "trees") p13, [], 0⟩] (scp nm9) p10) (some (.Name (Str.ofString "due") p1)) p14.line env = Pure.pure true := by
    have e1 : (lawNs.lookup (Str.ofString "due")) = some .local := rfl
    have e2 : (nm9.any fun x => x.1 == Str.ofString "due" && (x.2 == .local || x.2 == .cell)) = false := by decide
    unfold swapsWith
    simp only [V.block, V.le.e.names, e1, PySem.Expr.pos, hpos]
    show (Pure.pure (_ && !(nm9.any fun x => x.1 == Str.ofString "due" && (x.2 == .local || x.2 == .cell))) : Sem Bool) = _
    rw [e2]
    simp
  refine R.usedL V ls hh (cl := [(Str.ofString "ways", F + 3), (Str.ofString "numbers", F + 2), (Str.ofString "aheads", F + 4)]) rfl (by decide) (by decide) rfl rfl hsw _ (by simp) (ldc V.le.e (c := F + 6) (by rw [V.cells]; rfl) (ls.val V rfl c0) (Itm.of ls kt rfl)) (fun _ => rfl) (fun j => some (ranksD ns j)) ?_ ?_
  · intro C i u d s₄ l' hd ec hC ls₄ hkn hn hx ku
    obtain ⟨hi, rfl⟩ := five hd
    obtain ⟨t, rfl⟩ := ku.int
    rw [tests_nil]
    refine R.pure ⟨rfl, Lt.refl ls₄.gr, fun d hd => ?_⟩
    cases hd
    refine R.of (callF3 ec ls₄.gr.unrid rfl rfl rfl rfl (by decide) (ldc ec (c := F + 2) rfl (ls₄.val V rfl c1) (itemC ec (c := F + 3) rfl (ls₄.val V rfl c2) (hkn _ _ kw) hn hx (d := intsD (wayOf i)) (at18 _ (by omega)) (by omega) (fun u ku => itemC ec (c := F + 4) rfl (ls₄.val V rfl c3) (hkn _ _ ka) hn hx (d := .str (aheadOf i)) (at18 _ (by omega)) (by omega) (fun a' ka' => ⟨ls₄.gr.unrid, ?_⟩) rfl rfl)  rfl rfl) rfl))
    obtain ⟨nl, vs, rfl, hnl, hi1, _⟩ := (hkn _ _ kn).ints
    obtain ⟨cl, us, rfl, hcl, hi2, _⟩ := ku.ints
    obtain ⟨ta, rfl⟩ := ka'.str
    refine law_ranks ls₄.gr.unrid hh hroom hnl.isList hcl.isList hi1 hi2 hns (fun m hm => way_small i m hm (by omega)) ?_ fun s₅ r ws o₅ hr0 hpl hce _ => ⟨Lt.of_ok o₅ ls₄.gr V.le.F46, [r], .list hpl (RdAll.cels hce), fun a ha => by rw [List.mem_singleton.mp ha]; exact hr0⟩
    simp only [wayOf, List.sum_cons, List.sum_nil]
    omega
  · intro s₂ v ls₂ hk₂ kr
    exact h v s₂ ls₂ hk₂ kr
end
end Mine
end

section
namespace Mine
open PySem PySem.W PyProof.Rows PySem.Calls
open Sem (wp)

theorem RdAll.snoc0 {h : Heap} {vs : List Value} {ds : List PyData} {v : Value} {d : PyData} (r : RdAll h vs ds []) (y : Rd h v d []) : RdAll h (vs ++ [v]) (ds ++ [d]) [] := by
  have := RdAll.snoc r y
  simpa using this
theorem RdAll.any {h h' : Heap} {vs : List Value} {ds : List PyData} (r : RdAll h vs ds []) : RdAll h' vs ds [] := r.keep fun a ha => by cases ha
theorem Rd.any {h h' : Heap} {v : Value} {d : PyData} (r : Rd h v d []) : Rd h' v d [] := r.keep fun a ha => by cases ha

section
variable {prog : Program} {w : World} {A : Around} {E : Value → Shared → Prop} {S s : Shared} {env : Env} {F : Addr} {l cm : List (Str × Value)}

theorem list_src {x : Str} {px : Pos} {ax : Addr} {vs : List Value} {Q : Value → Shared → Prop} (hh : A.handled = none) (g : Gr w (rid s.heap F)) (hl : s.heap.IsList ax vs.toArray)
    (h : ∀ s₂ I Md, KTurns prog w A (.Name x px) I [I, ax] [I] vs.length (fun i v _ => vs[i]? = some v) Md (fun i h => h.IsListIter I ax i ∧ h.IsList ax vs.toArray) → s₂.heap.IsListIter I ax 0 ∧ s₂.heap.IsList ax vs.toArray → s.heap.get? I = none → Lt w F s s₂ → Q (.ref I) s₂) :
    wpAny (model prog w) A (pyIter (.ref ax)) Q E s := by
  refine wpAny_pyIter_list hl ?_
  have hlt : ax < s.heap.objs.size := by obtain ⟨_, q, _⟩ := hl; exact Heap.lt_size q
  have hne : ax ≠ s.heap.objs.size := Nat.ne_of_lt hlt
  have up : ∀ b o, s.heap.get? b = some o → (s.heap.push { cls := .type "list_iterator", data := .fields #[.ref ax, .int 0 0] }).get? b = some o := fun b o e => Heap.get?_push_of_some _ e
  have hsz : vs.toArray.size = vs.length := List.size_toArray ..
  refine h _ _ (fun i v h => vs.toArray[i]? = some v ∧ (h.IsListIter s.heap.objs.size ax (i + 1) ∧ h.IsList ax vs.toArray)) ?_ ⟨⟨_, Heap.get?_push_size _ rfl, rfl, rfl⟩, hl.push _⟩ (get_size _) (Lt.up g up)
  have W := KTurns.ofWalks (target := .Name x px) (Walks.list (prog := prog) (w := w) (A := A) hh s.heap.objs.size ax hne vs.toArray) (fun i v s Q E _ hQ => wpAny_pure hQ)
  rw [hsz] at W
  exact { sub := W.sub, frame := W.frame, item := W.item, done := W.done, go := fun i v s Q E hm hQ => W.go i v s Q E hm fun h' hP => hQ h' (by simpa using hP) }

set_option maxHeartbeats 2000000 in
/-- a comprehension with two clauses over lists, of plain things -/
theorem R.lcomp2 {elt iter iter2 : PySem.Expr} {ifs : List PySem.Expr} {names : List (Str × NameKind)} {cl : List (Str × Addr)} {pos px px2 : Pos} {x x2 : Str} {Q : Value → Shared → Prop} (V : LV env F) (ls : LS w S env F l cm s) (hh : A.handled = none) (hcl : clOf (lawCells F) names [] = some cl)
    (hcell : ∀ y ∈ names, y.2 ≠ .cell) (hnames : ∀ x ∈ names, x.2 = .local → names.lookup x.1 = some .local) (hx : (relNames lawNs names).lookup x = some .local) (hx2 : (relNames lawNs names).lookup x2 = some .local) (hne : x ≠ x2) (ds : List PyData) (hds : ds.length ≤ 20)
    (hit : wpAny (model prog w) A (eval iter env) (fun xv s₁ => ∃ r vs, xv = .ref r ∧ s₁.heap.IsList r vs.toArray ∧ r ≠ F ∧ r ≠ 46 ∧ Lt w F s s₁ ∧ RdAll s.heap vs ds []) (fun _ _ => False) s) (hs : ∀ x, foldedSetIterable iter env x = Pure.pure x)
    (hs2 : ∀ C x, foldedSetIterable iter2 (compEnvC (scp names) cl C env) x = Pure.pure x)
    (g : Nat → List PyData) (hg : ∀ i, (g i).length ≤ 20)
    (inner : ∀ C (i : Nat) u d s₄ l', ds[i]? = some d → Ev (compEnvC (scp names) cl C env) C (relNames lawNs names) → s.heap.get? C = none → LS w S env F l cm s₄ → (∀ u d, Kn (XX env F) s.heap u d → Kn (XX env F) s₄.heap u d) → (∀ a o, s.heap.get? a = some o → a ≠ F → a ≠ 46 → s₄.heap.get? a = some o) → s₄.heap.Ns C (mp l') → l'.lookup x = some u → Rd s₄.heap u d [] →
      wpAny (model prog w) A (eval iter2 (compEnvC (scp names) cl C env)) (fun xv s₅ => ∃ ax vs ds2 f, xv = .ref ax ∧ s₅.heap.IsList ax vs.toArray ∧ ax ≠ F ∧ ax ≠ 46 ∧ (s₄.heap.get? ax = none ∨ s.heap.get? ax ≠ none) ∧ Lt w F s₄ s₅ ∧ RdAll s₅.heap vs ds2 [] ∧ ds2.length ≤ 20 ∧ (List.range ds2.length).filterMap f = g i ∧
        ∀ (k : Nat) u2 d2 s₇ l', ds2[k]? = some d2 → LS w S env F l cm s₇ → (∀ u d, Kn (XX env F) s.heap u d → Kn (XX env F) s₇.heap u d) → s₇.heap.Ns C (mp l') → l'.lookup x2 = some u2 → l'.lookup x = some u → Rd s₇.heap u2 d2 [] →
          wpAny (model prog w) A (testsOf ifs (compEnvC (scp names) cl C env)) (fun ok s₈ => ok = (f k).isSome ∧ Lt w F s₇ s₈ ∧ ∀ d, f k = some d → wpAny (model prog w) A (eval elt (compEnvC (scp names) cl C env)) (fun y s₉ => Lt w F s₈ s₉ ∧ Rd s₉.heap y d []) (fun _ _ => False) s₈) (fun _ _ => False) s₇) (fun _ _ => False) s₄)
    (hQ : ∀ s' r, LS w S env F l cm s' → Lt w F s s' → (∀ u d, Kn (XX env F) s.heap u d → Kn (XX env F) s'.heap u d) → Kn (XX env F) s'.heap (.ref r) (.list ((List.range ds.length).flatMap g)) → Q (.ref r) s') :
    wpR (model prog w) A (eval (.ListComp elt [⟨.Name x px, iter, [], 0⟩, ⟨.Name x2 px2, iter2, ifs, 0⟩] (scp names) pos) env) Q E s := by
  rw [eval_ListComp]
  refine R.comprehension (use := none) rfl hs (clos_of (by rw [V.cells]; exact hcl)) rfl hnames (R.of (wpAny_mono hit (fun xv s₁ h₁ => ?_) fun _ _ z => z.elim))
  obtain ⟨r, vs, rfl, hl, n1, n2, lt₁, hrd⟩ := h₁
  have hlen := hrd.length
  refine Src.list (target := .Name x px) hh lt₁.gr (lt₁.F0 ls.F0) hl n1 n2 ⟨x, px, rfl⟩ fun s₂ I hsrc lt₂' => ?_
  rw [hlen] at hsrc
  have lt₂ := lt₁.trans lt₂'
  obtain ⟨fp, wr, Md, St, W, hst, hwr, hlive, hfp, hself⟩ := hsrc.base lt₁
  refine wpAny_newObj_type (wpAny_newFunctionEnv hcell (by intro y hy; simp at hy) (fun h₁ hns₁ hsb₁ => ?_) rfl)
  dsimp only at hns₁ hsb₁ ⊢
  have hH2s : (s₂.heap.push { cls := .type "list", dict := none, data := .seq ([] : List Value).toArray }).objs.size = s₂.heap.objs.size + 1 := Heap.size_push ..
  generalize hH2 : s₂.heap.push { cls := .type "list", dict := none, data := .seq ([] : List Value).toArray } = H2 at hns₁ hsb₁ hH2s ⊢
  rw [hH2s] at hns₁ hsb₁
  have hloc : (newEnv (scp names) H2.objs.size env.globals cl env.qual none Value.none (some env) builtinsNs).locals = s₂.heap.objs.size + 1 := hH2s
  rw [hH2s]
  generalize hD : s₂.heap.objs.size = D at *
  have hDC : D ≠ D + 1 := Nat.ne_of_lt (Nat.lt_succ_self _)
  have old : ∀ b o, s₂.heap.get? b = some o → h₁.get? b = some o := fun b o e => hsb₁.extBut b o (Nat.ne_of_lt (Nat.lt_succ_of_lt (hD ▸ Heap.lt_size e))) (by
    refine Heap.get?_push_of_some _ ?_
    rw [← hH2]; exact Heap.get?_push_of_some _ e)
  have hacc : h₁.PlainList D #[] := ⟨_, hsb₁.extBut _ _ hDC (Heap.get?_push_of_some _ (by rw [← hH2, ← hD]; exact Heap.get?_push_size _ rfl))⟩
  have goneD : ∀ b, D ≤ b → s₂.heap.get? b = none := fun b hb => by
    cases q : s₂.heap.get? b with
    | none => rfl
    | some ob => exact absurd (Nat.lt_of_lt_of_le (hD ▸ Heap.lt_size q) hb) (Nat.lt_irrefl _)
  have hD0 : s.heap.get? D = none := lt₂.gone (goneD D (Nat.le_refl _))
  have hC0 : s.heap.get? (D + 1) = none := lt₂.gone (goneD (D + 1) (Nat.le_succ _))
  have hfl : ∀ b ∈ fp, s₂.heap.get? b ≠ none := fun b hb => hlive 0 _ hst b hb
  have hDf : D ∉ fp := fun hm => hfl D hm (goneD D (Nat.le_refl _))
  have hCf : D + 1 ∉ fp := fun hm => hfl (D + 1) hm (goneD (D + 1) (Nat.le_succ _))
  have hF0 := ls.F0
  have h46 : s.heap.get? 46 ≠ none := ls.lives V.le 46 X46
  have hFD : F ≠ D := fun z => hF0 (z ▸ hD0)
  have hFC : F ≠ D + 1 := fun z => hF0 (z ▸ hC0)
  have hD46 : D ≠ 46 := fun z => h46 (z ▸ hD0)
  have hC46 : D + 1 ≠ 46 := fun z => h46 (z ▸ hC0)
  have ec : Ev (compEnvC (scp names) cl (D + 1) env) (D + 1) (relNames lawNs names) := V.le.e.comp rfl
  have lt₁' : Lt w F s { s₂ with heap := h₁, toks := s₂.toks + ([] : List (Str × Value)).length } := lt₂.set (fun b o _ e => old b o e) hF0
  refine R.startComp (g := ⟨.Name x px, iter, [], 0⟩) rfl rfl (fun Q hq => hself _ Q (W.frame _ _ _ hst fun b _ o e => old b o e) hq) ?_
  refine R.compTurns (env := compEnvC (scp names) cl (D + 1) env) (turn_outer _ _ _ _ _ _ _ _ _ _ _ _) W
    (fun i s' => Lt w F s s' ∧ (∃ l, s'.heap.Ns (D + 1) (mp l)) ∧ ∃ ys, s'.heap.PlainList D ys.toArray ∧ RdAll s'.heap ys ((List.range i).flatMap g) [])
    (W.frame _ _ _ hst fun b _ o e => old b o e) ⟨lt₁', ⟨[], hns₁⟩, [], hacc, .nil⟩ ?_ ?_ ?_
  · rintro i s' h' tk hsti ⟨y, ⟨l, hl⟩, ys, h1, h2⟩ hk
    exact ⟨y.set (fun b o hb e => hk b o (fun hm => hb (hwr b hm)) e) hF0, ⟨l, ns_at hl fun o q => hk _ o (fun hm => hCf (W.sub _ hm)) q⟩, ys, h1.at fun o q => hk _ o (fun hm => hDf (W.sub _ hm)) q, h2.any⟩
  · rintro i v s₃ hi hP ⟨y, ⟨lc, hlc⟩, ys, h1, h2⟩ hst₃
    obtain ⟨u', hu', ku⟩ : ∃ d, ds[i]? = some d ∧ Rd s.heap v d [] := by
      obtain ⟨v', bs, e1, e2, e3⟩ := RdAll.at hrd (List.getElem?_eq_getElem hi)
      rw [hP] at e1; cases e1
      have : bs = [] := List.eq_nil_iff_forall_not_mem.mpr fun a ha => by have := e3 a ha; cases this
      subst this
      exact ⟨_, List.getElem?_eq_getElem hi, e2⟩
    refine wpAny_assign_Name (st ec hlc (fun h₄ hn₄ hs₄ => ?_) hx)
    rw [tests_nil]
    refine R.pure ?_
    rw [if_pos rfl]
    have lt₄ : Lt w F s { s₃ with heap := h₄, toks := s₃.toks + 1 } := y.set (fun b o hb e => hs₄.extBut b o (fun z => hb (z ▸ hC0)) e) hF0
    have ls₄ := ls.lt V.le lt₄
    unfold nestOf
    refine R.step (wpAny_mono (inner (D + 1) i v u' _ _ hu' ec hC0 ls₄ (fun u d k => lt₄.kn' k) (fun a o q n1 n2 => lt₄.ext a o n2 n1 q) hn₄ (by simp) ku.any) (fun xv s₅ h₅ => ?_) fun _ _ z => z)
    obtain ⟨ax, vs2, ds2, f, rfl, hl2, m1, m2, hax, lt₅, hrd2, hd20, hfg, turn⟩ := h₅
    refine R.step (wpAny_standAt (R.step (wpAny_of_eq (hs2 _ _) ?_)))
    have hlen2 := hrd2.length
    refine R.step (wpAny_holding (list_src (s := s₅) (F := F) (x := x2) (px := px2) hh lt₅.gr hl2 fun s₆ I2 Md2 W2 hst2 hI2 lt₆ => ?_))
    -- what stands at s₄ and is not the frame's stands on
    have hDs₃ : s₃.heap.PlainList D ys.toArray := h1
    have hD₄ : h₄.PlainList D ys.toArray := h1.at fun o q => hs₄.extBut D o hDC q
    have lt₄₆ : Lt w F { s₃ with heap := h₄, toks := s₃.toks + 1 } s₆ := lt₅.trans lt₆
    have hD₆ : s₆.heap.PlainList D ys.toArray := hD₄.at fun o q => lt₄₆.ext D o hD46 (Ne.symm hFD) q
    have hn₆ : s₆.heap.Ns (D + 1) (mp ((x, v) :: lc)) := lt₄₆.ns_at hC46 (Ne.symm hFC) hn₄
    have hC₄ : h₄.get? (D + 1) ≠ none := ns_in hn₄
    have hD₄' : h₄.get? D ≠ none := by obtain ⟨_, q⟩ := hD₄; rw [q]; simp
    have hI4 : h₄.get? I2 = none := lt₅.gone hI2
    have hIC : I2 ≠ D + 1 := fun z => hC₄ (z ▸ hI4)
    have hID : I2 ≠ D := fun z => hD₄' (z ▸ hI4)
    have hI0 : s.heap.get? I2 = none := lt₄.gone hI4
    have haC : ax ≠ D + 1 := fun z => by
      rcases hax with q | q
      · exact hC₄ (z ▸ q)
      · exact q (z ▸ hC0)
    have haD : ax ≠ D := fun z => by
      rcases hax with q | q
      · exact hD₄' (z ▸ q)
      · exact q (z ▸ hD0)
    have hIF : I2 ≠ F := fun z => hF0 (z ▸ hI0)
    have hI46 : I2 ≠ 46 := fun z => h46 (z ▸ hI0)
    have gl : ∀ i, ((List.range i).flatMap g).length ≤ 20 * i := fun i => by
      induction i with
      | zero => simp
      | succ i ih =>
        rw [List.range_succ, List.flatMap_append, List.length_append]
        have := hg i
        simp only [List.flatMap_cons, List.flatMap_nil, List.append_nil]
        omega
    refine R.bind (R.mono (R.runOwn (A := A) (Q := fun _ s₉ => Lt w F { s₃ with heap := h₄, toks := s₃.toks + 1 } s₉ ∨ True → Lt w F s s₉ ∧ (∃ l, s₉.heap.Ns (D + 1) (mp l)) ∧ (∃ ys, s₉.heap.PlainList D ys.toArray ∧ RdAll s₉.heap ys ((List.range (i + 1)).flatMap g) []) ∧ ∀ b ∈ fp, ∀ o, s₃.heap.get? b = some o → s₉.heap.get? b = some o) ?_) (fun _ s₉ q => R.pure ⟨rfl, ?_⟩) fun _ _ z => z)
    · refine R.startComp (g := ⟨.Name x2 px2, iter2, ifs, 0⟩) rfl rfl (fun Q hq => wpAny_pyIter_listiter hst2.1 hq) ?_
      refine R.compTurns (env := compEnvC (scp names) cl (D + 1) env) (turn_inner _ _ _ _ _ _ _ _ _ _ _ _) W2
        (fun k s' => Lt w F s s' ∧ (∃ l, s'.heap.Ns (D + 1) (mp l) ∧ l.lookup x = some v) ∧ (∃ ys, s'.heap.PlainList D ys.toArray ∧ RdAll s'.heap ys ((List.range i).flatMap g ++ (List.range k).filterMap f) []) ∧ ∀ b ∈ fp, ∀ o, s₃.heap.get? b = some o → s'.heap.get? b = some o)
        hst2 ⟨lt₄.trans lt₄₆, ⟨_, hn₆, by simp⟩, ⟨ys, hD₆, by simpa using h2.any⟩, fun b hb o q => lt₄₆.ext b o (hfp b hb).2 (hfp b hb).1 (hs₄.extBut b o (fun z => hCf (z ▸ hb)) q)⟩ ?_ ?_ ?_
      · rintro k s' h' tk hsti ⟨y', ⟨l', hl', hlx⟩, ⟨ys', q1, q2⟩, q3⟩ hk
        have hk' : ∀ b o, b ≠ I2 → s'.heap.get? b = some o → h'.get? b = some o := fun b o hb q => hk b o (fun hm => hb (List.mem_singleton.mp hm)) q
        refine ⟨y'.set (fun b o hb e => hk' b o (fun z => hb (z ▸ hI0)) e) hF0, ⟨l', ns_at hl' fun o q => hk' _ o (Ne.symm hIC) q, hlx⟩, ⟨ys', q1.at fun o q => hk' _ o (Ne.symm hID) q, q2.any⟩, fun b hb o q => hk' b o (fun z => ?_) (q3 b hb o q)⟩
        have h5 : h₄.get? b = some o := hs₄.extBut b o (fun z => hCf (z ▸ hb)) q
        rw [z, hI4] at h5; cases h5
      · rintro k u2 s₇ hk2 hP2 ⟨y', ⟨l', hl', hlx⟩, ⟨ys', q1, q2⟩, q3⟩ hst₇
        obtain ⟨d2, hd2, ku2⟩ : ∃ d, ds2[k]? = some d ∧ Rd s₅.heap u2 d [] := by
          have hkl : k < ds2.length := by rw [← hlen2]; exact hk2
          obtain ⟨v', bs, e1, e2, e3⟩ := RdAll.at hrd2 (List.getElem?_eq_getElem hkl)
          rw [hP2] at e1; cases e1
          have : bs = [] := List.eq_nil_iff_forall_not_mem.mpr fun a ha => by have := e3 a ha; cases this
          subst this
          exact ⟨_, List.getElem?_eq_getElem hkl, e2⟩
        refine wpAny_assign_Name (st ec hl' (fun h₈ hn₈ hs₈ => ?_) hx2)
        have lt₈ : Lt w F s { s₇ with heap := h₈, toks := s₇.toks + 1 } := y'.set (fun b o hb e => hs₈.extBut b o (fun z => hb (z ▸ hC0)) e) hF0
        have hlx8 : ((x2, u2) :: l').lookup x = some v := by
          rw [List.lookup_cons, show (x == x2) = false by simpa using hne]; exact hlx
        have hD8 : h₈.PlainList D ys'.toArray := q1.at fun o q => hs₈.extBut D o hDC q
        have fp8 : ∀ b ∈ fp, ∀ o, s₃.heap.get? b = some o → h₈.get? b = some o := fun b hb o q => hs₈.extBut b o (fun z => hCf (z ▸ hb)) (q3 b hb o q)
        refine R.of (wpAny_mono (turn k u2 d2 _ _ hd2 (ls.lt V.le lt₈) (fun u d k => lt₈.kn' k) hn₈ (by simp) hlx8 ku2.any) (fun ok s₈ h₈' => ?_) fun _ _ z => z)
        obtain ⟨rfl, ltb, hel⟩ := h₈'
        have hst8 : ∀ b ∈ [I2, ax], b ≠ D + 1 ∧ b ≠ D ∧ b ≠ F ∧ b ≠ 46 := by
          intro b hb
          simp only [List.mem_cons, List.not_mem_nil, or_false] at hb
          rcases hb with rfl | rfl
          · exact ⟨hIC, hID, hIF, hI46⟩
          · exact ⟨haC, haD, m1, m2⟩
        cases hfk : f k with
        | none =>
          rw [if_neg (by simp)]
          refine ⟨⟨lt₈.trans ltb, ⟨_, ltb.ns_at hC46 (Ne.symm hFC) hn₈, hlx8⟩, ⟨ys', hD8.at fun o q => ltb.ext D o hD46 (Ne.symm hFD) q, ?_⟩, fun b hb o q => ltb.ext b o (hfp b hb).2 (hfp b hb).1 (fp8 b hb o q)⟩, fun b hb o q => ltb.ext b o (hst8 b hb).2.2.2 (hst8 b hb).2.2.1 (hs₈.extBut b o (hst8 b hb).1 q)⟩
          rw [List.range_succ, List.filterMap_append]
          simpa [hfk] using q2.any
        | some d =>
          rw [if_pos (by simp)]
          unfold emitOf
          simp only [bind_assoc]
          refine R.step (wpAny_mono (hel d hfk) (fun yv s₉ q => ?_) fun _ _ z => z)
          obtain ⟨lt₉, hy⟩ := q
          have ltc : Lt w F { s₇ with heap := h₈, toks := s₇.toks + 1 } s₉ := ltb.trans lt₉
          have hD9 : s₉.heap.PlainList D ys'.toArray := hD8.at fun o q => ltc.ext D o hD46 (Ne.symm hFD) q
          have hyl : ys'.length ≤ 1000 := by
            have e1 := q2.length
            have e2 := List.length_filterMap_le f (List.range k)
            have e3 := gl i
            rw [List.length_range] at e2
            rw [List.length_append] at e1
            omega
          refine R.step (wpAny_list_append_plain hD9 (fun ha hla hsa => ?_) (by rw [sizeLine_eq, List.size_toArray]; omega))
          refine R.pure ⟨rfl, ⟨(lt₈.trans ltc).set (fun b o hb e => hsa.extBut b o (fun z => hb (z ▸ hD0)) e) hF0, ⟨_, ns_at (ltc.ns_at hC46 (Ne.symm hFC) hn₈) fun o q => hsa.extBut _ o (Ne.symm hDC) q, hlx8⟩, ⟨ys' ++ [yv], by simpa using hla, ?_⟩, fun b hb o q => hsa.extBut b o (fun z => hDf (z ▸ hb)) (ltc.ext b o (hfp b hb).2 (hfp b hb).1 (fp8 b hb o q))⟩,
            fun b hb o q => hsa.extBut b o (hst8 b hb).2.1 (ltc.ext b o (hst8 b hb).2.2.2 (hst8 b hb).2.2.1 (hs₈.extBut b o (hst8 b hb).1 q))⟩
          rw [List.range_succ, List.filterMap_append]
          have e1 : [k].filterMap f = [d] := by simp [hfk]
          rw [e1, ← List.append_assoc]
          exact RdAll.snoc0 q2.any hy.any
      · rintro s' ⟨y', ⟨l', hl', hlx⟩, ⟨ys', q1, q2⟩, q3⟩ _
        refine ⟨y', ⟨l', hl'⟩, ⟨ys', q1, ?_⟩, q3⟩
        rw [hlen2, hfg] at q2
        rw [List.range_succ, List.flatMap_append]
        simpa using q2
    · obtain ⟨a1, a2, ⟨ys', a3, a4⟩, a5⟩ := q (.inr trivial)
      exact ⟨⟨a1, a2, ys', a3, a4⟩, a5⟩
  · rintro s' ⟨y, ⟨lc, hlc⟩, ys, h1, h2⟩
    refine ⟨_, hlc, fun h' hs' => ?_⟩
    have lt' : Lt w F s { s' with heap := h' } := y.set (t := s'.toks) (fun b o hb e => hs'.extBut b o (fun z => hb (z ▸ hC0)) e) hF0
    exact hQ _ D (ls.lt V.le lt') lt' (fun u d k => lt'.kn' k) (ls.learn V.le (.list (h1.at fun o q => hs'.extBut D o hDC q) h2.any) (by intro a ha; rw [List.mem_singleton.mp ha]; exact hD0))
end
end Mine
end

section
namespace Mine
open PySem PySem.W PyProof.Rows PySem.Calls
open Sem (wp)

abbrev nm10 : List (Str × NameKind) := [(Str.ofString ".0", .local), (Str.ofString "j", .local), (Str.ofString "_comparable_version", .globalImplicit), (Str.ofString "texts", .free)]
abbrev nm10' : List (Str × NameKind) := [(Str.ofString ".0", .local), (Str.ofString "number", .local), (Str.ofString "part", .local)]

theorem name_size {n₁ n₂ n₃ n₄ : Int} (hsm : ∀ n ∈ [n₁, n₂, n₃, n₄], small n) : (nameOf n₁ n₂ n₃ n₄).cps.size ≤ 1000 := by
  have d1 : (Str.ofString "-").length = 1 := by decide +kernel
  have a1 := strI_len (hsm n₁ (by simp))
  have a2 := strI_len (hsm n₂ (by simp))
  have a3 := strI_len (hsm n₃ (by simp))
  have a4 := strI_len (hsm n₄ (by simp))
  show (nameOf n₁ n₂ n₃ n₄).length ≤ 1000
  simp only [nameOf, Str.length_append, d1]
  omega

section
variable {prog : Program} {w : World} {A : Around} {E : Value → Shared → Prop} {S s : Shared} {env : Env} {F : Addr} {l cm : List (Str × Value)} {n₁ n₂ n₃ n₄ : Int}

/-- _comparable_version, from the law's frame -/
theorem R.cmp44 {x : Str} {t : Tok} {cs : List Cel} {Q : Value → Shared → Prop} (V : LV env F) (ls : LS w S env F l cm s) (hh : A.handled = none) (hroom : A.depth + 1 < recursionLimit) (hfr : A.frames = some [env]) (hz : x.cps.size ≤ 1000)
    (hp : Pieces (reSplit (x.cps.size + 1) x.cps.toList) cs)
    (hQ : ∀ s' r ws, Lt w F s s' → s'.heap.PlainList r ws.toArray → CelsAre ws cs → s.heap.get? r = none → Q (.ref r) s') :
    wpR (model prog w) A (PySem.call (.ref 44) [.str x t]) Q E s := by
  obtain ⟨oF, es, ep, hoF, hd, _⟩ := id ls.ns
  refine cmpv ls.gr ls.gr.unrid hh hroom hfr V.frame (by rw [V.kind]; decide) hoF (fun vs z => by rw [hd] at z; cases z) hz hp fun s' r ws o₁ hsl hr0 hpl hce _ => ?_
  refine hQ s' r ws ⟨fun b o h1 h2 e => o₁.ext b o h1 ((rid_other h2).trans e), fun o e => ?_, ls.gr, Gr.rid_on ls.gr o₁.gr, o₁.os, o₁.bare⟩ hpl hce hr0
  rw [hoF] at e; cases e
  exact hsl

set_option maxHeartbeats 1000000 in
/-- if [..] != due or _comparable_version(name) != [..]: return False -/
theorem st_if3 {p1 p2 p3 p4 p5 p6 p7 p8 p9 p10 p11 p12 p13 p14 p15 p16 p17 p18 p19 p20 p21 p22 p23 p24 : Pos} {k1 : Nat} {body : List Stmt} {vt vx vn vd : Value} {tn : Tok} {Q : Flow → Shared → Prop}
    (V : LV env F) (ls : LS w S env F l cm s) (hh : A.handled = none) (hroom : A.depth + 1 < recursionLimit) (hu : A.units + 64 < cLine) (hfr : A.frames = some [env]) (hsm : ∀ n ∈ [n₁, n₂, n₃, n₄], small n)
    (c1 : cm.lookup (Str.ofString "trees") = some vt) (c2 : cm.lookup (Str.ofString "texts") = some vx) (c3 : cm.lookup (Str.ofString "numbers") = some vn) (c4 : cm.lookup (Str.ofString "name") = some (.str (nameOf n₁ n₂ n₃ n₄) tn)) (h1 : l.lookup (Str.ofString "due") = some vd)
    (kt : Kn (XX env F) s.heap vt (.list ((List.range 5).map fun (j : Nat) => .int (j : Int)))) (kx : Kn (XX env F) s.heap vx (.list ((List.range 18).map fun j => .str (textOf [n₁, n₂, n₃, n₄] j)))) (kn : Kn (XX env F) s.heap vn (intsD [n₁, n₂, n₃, n₄])) (kd : Kn (XX env F) s.heap vd (.list ((List.range 5).map fun j => ranksD [n₁, n₂, n₃, n₄] j)))
    (hok : SeqAt.shaped (.list ((List.range 5).map fun j => ranksD [n₁, n₂, n₃, n₄] j)) = true)
    (h : ∀ s₂, LS w S env F l cm s₂ → (∀ u d, Kn (XX env F) s.heap u d → Kn (XX env F) s₂.heap u d) → Q .next s₂) :
    wpR (model prog w) A (exec (.If (.BoolOp .Or [
      .Compare (.ListComp (.Call (.Name (Str.ofString "_comparable_version") p1) [.Subscript (.Name (Str.ofString "texts") p2) (.Name (Str.ofString "j") p3) p4] [] p5) [⟨.Name (Str.ofString "j") p6, .Name (Str.ofString "trees") p7, [], 0⟩] (scp nm10) p8) [.NotEq] [.Name (Str.ofString "due") p9] p10,
      .Compare (.Call (.Name (Str.ofString "_comparable_version") p11) [.Name (Str.ofString "name") p12] [] p13) [.NotEq]
        [.ListComp (.Name (Str.ofString "part") p14) [⟨.Name (Str.ofString "number") p15, .Name (Str.ofString "numbers") p16, [], 0⟩, ⟨.Name (Str.ofString "part") p17, .List [.Constant (.int 100) k1 p18, .Name (Str.ofString "number") p19] p20, [], 0⟩] (scp nm10') p21] p22] p23) body [] p24) env) Q (fun _ _ => False) s := by
  refine R.ifNot (R.cmp2 ?_)
  refine R.lcompL V ls hh (cl := [(Str.ofString "texts", F + 5)]) rfl (by decide) (by decide) rfl _ (by simp) (ldc V.le.e (c := F + 6) (by rw [V.cells]; rfl) (ls.val V rfl c1) (Itm.of ls kt rfl)) (fun _ => rfl) (fun j => some (ranksD [n₁, n₂, n₃, n₄] j)) ?_ ?_
  · intro C i u d s₄ l' hd ec hC ls₄ hkn hn hx ku
    obtain ⟨hi, rfl⟩ := five hd
    obtain ⟨t, rfl⟩ := ku.int
    rw [tests_nil]
    refine R.pure ⟨rfl, Lt.refl ls₄.gr, fun d hd => ?_⟩
    cases hd
    refine R.callF1 ec ls₄.gr.unrid rfl rfl rfl rfl (by decide) (itemC ec (c := F + 5) rfl (ls₄.val V rfl c2) (hkn _ _ kx) hn hx (d := .str (textOf [n₁, n₂, n₃, n₄] i)) (at18 _ (by omega)) (by omega) (fun u ku => ⟨ls₄.gr.unrid, ?_⟩) rfl rfl)
    obtain ⟨t', rfl⟩ := ku.str
    exact R.cmp44 V ls₄ hh hroom hfr (text_size hsm hi) (pieces_text hsm hi) fun s₅ r ws lt₅ hpl hce h0 => ⟨lt₅, [r], .list hpl (RdAll.cels hce), fun a ha => by rw [List.mem_singleton.mp ha]; exact h0⟩
  intro s₁ r ls₁ lt₁ hk₁ kr
  refine R.of (ld V.le.e ls₁.ns h1 (ne_same kr (hk₁ _ _ kd) hok hu ⟨rfl, ?_⟩) rfl)
  refine R.cmp2 (R.callF1 V.le.e ls₁.gr.unrid rfl rfl rfl rfl (by decide) (ldc V.le.e (c := F + 7) (by rw [V.cells]; rfl) (ls₁.val V rfl c4) ⟨ls₁.gr.unrid, R.cmp44 V ls₁ hh hroom hfr (name_size hsm) (pieces_name hsm) fun s₂ r₂ ws₂ lt₂ hpl₂ hce₂ h20 => ?_⟩ rfl))
  have hr₂ : Rd s₂.heap (.ref r₂) (.list ([Cel.num 100, .num n₁, .num 100, .num n₂, .num 100, .num n₃, .num 100, .num n₄].map celD)) [r₂] := .list hpl₂ (RdAll.cels hce₂)
  have ls₂ := ls₁.lt V.le lt₂
  have kr₂ := ls₁.learn V.le hr₂ (fun a ha => by rw [List.mem_singleton.mp ha]; exact h20)
  have hk₂ : ∀ u d, Kn (XX env F) s.heap u d → Kn (XX env F) s₂.heap u d := fun u d k => lt₂.kn' (hk₁ _ _ k)
  obtain ⟨nl, vs, rfl, hnl, hints, hnX⟩ := (hk₂ _ _ kn).ints
  refine R.lcomp2 V ls₂ hh (cl := []) rfl (by decide) (by decide) rfl rfl (by decide) ([n₁, n₂, n₃, n₄].map .int) (by simp)
    (ldc V.le.e (c := F + 2) (by rw [V.cells]; rfl) (ls₂.val V rfl c3) ⟨nl, vs, rfl, hnl.isList, fun z => hnX (z ▸ XF), fun z => hnX (z ▸ X46), Lt.refl ls₂.gr, RdAll.ints hints⟩) (fun _ => rfl) (fun _ _ => rfl) (fun i => [.int 100, .int ([n₁, n₂, n₃, n₄].getD i 0)]) (fun _ => by simp) ?_ ?_
  · intro C i u d s₄ l' hd ec hC ls₄ hkn hsame hn hx ku
    have hdn : d = .int ([n₁, n₂, n₃, n₄].getD i 0) := by
      rw [List.getElem?_map] at hd
      obtain ⟨n, hn', rfl⟩ := Option.map_eq_some_iff.mp hd
      rw [List.getD_eq_getElem?_getD, hn']; rfl
    subst hdn
    refine wpAny_List (wpAny_items_cons (wpAny_Constant_int (wpAny_items_cons (ld ec hn hx (wpAny_items_nil ⟨by rw [sizeLine_eq]; show 2 ≤ 16777216; decide, ?_⟩) rfl))))
    refine ⟨_, _, [.int 100, .int ([n₁, n₂, n₃, n₄].getD i 0)], fun k => ([PyData.int 100, .int ([n₁, n₂, n₃, n₄].getD i 0)] : List PyData)[k]?, rfl, isl_push, fun z => ls₄.F0 (z ▸ get_size _), fun z => ls₄.lives V.le 46 X46 (z ▸ get_size _), .inl (get_size _), Lt.up ls₄.gr fun b o q => Heap.get?_push_of_some _ q, ?_, by simp, rfl, ?_⟩
    · have := RdAll.cons (h := (s₄.heap.push { cls := .type "list", data := .seq [Value.int 100 s₄.toks, u].toArray })) (Rd.int 100 s₄.toks) (RdAll.cons ku.any .nil)
      simpa using this
    · intro k u2 d2 s₇ l' hd2 ls₇ hk₇ hn₇ hx2 hxx ku2
      rw [tests_nil]
      refine wpAny_pure ⟨by show true = Option.isSome _; dsimp only; rw [hd2]; rfl, Lt.refl ls₇.gr, fun d hd => ?_⟩
      dsimp only at hd
      rw [hd2] at hd; cases hd
      exact ld ec hn₇ hx2 ⟨Lt.refl ls₇.gr, ku2⟩ rfl
  intro s₃ r₃ ls₃ lt₃ hk₃ kr₃
  have efl : (List.range ([n₁, n₂, n₃, n₄].map PyData.int).length).flatMap (fun i => [PyData.int 100, .int ([n₁, n₂, n₃, n₄].getD i 0)]) = [Cel.num 100, .num n₁, .num 100, .num n₂, .num 100, .num n₃, .num 100, .num n₄].map celD := rfl
  rw [efl] at kr₃
  refine ne_same (hk₃ _ _ kr₂) kr₃ rfl hu ⟨rfl, ?_⟩
  exact h s₃ ls₃ fun u d k => hk₃ _ _ (hk₂ _ _ k)
end
end Mine
end

section
namespace Mine
open PySem PySem.W PyProof.Rows PySem.Calls

/-- the order of two keys, told by the first place where they part -/
inductive LtC : List Cel → List Cel → Bool → Prop
  | same (c : Cel) {r r' : List Cel} {b : Bool} : LtC r r' b → LtC (c :: r) (c :: r') b
  | num {m n : Int} (r r' : List Cel) : m ≠ n → LtC (.num m :: r) (.num n :: r') (decide (m < n))
  | txt {x y : Str} (r r' : List Cel) : x ≠ y → LtC (.txt x :: r) (.txt y :: r') (decide (x.cps.toList < y.cps.toList))

section
variable {prog : Program} {w : World} {A : Around} {E : Value → Shared → Prop} {s : Shared}

theorem cel_head {vs : List Value} {c : Cel} {cs : List Cel} {i : Nat} (h : CelsAre (vs.drop i) (c :: cs)) : ∃ v, vs[i]? = some v ∧ CelsAre [v] [c] ∧ CelsAre (vs.drop (i + 1)) cs := by
  cases hd : vs.drop i with
  | nil => rw [hd] at h; cases h
  | cons v r =>
    have e1 : vs[i]? = some v := by
      have : (vs.drop i)[0]? = some v := by rw [hd]; rfl
      simpa using this
    have e2 : vs.drop (i + 1) = r := by
      have : (vs.drop i).drop 1 = r := by rw [hd]; rfl
      rw [← this, List.drop_drop]
    rw [hd] at h
    rw [e2]
    cases h with
    | num n t h => exact ⟨_, e1, .num n t .nil, h⟩
    | txt x t h => exact ⟨_, e1, .txt x t .nil, h⟩

theorem lt_loop {K : Result → Shared → Prop} {a b : Addr} {oa ob : Obj} {xs ys : List Value} {na nb : Nat} (ha : s.heap.get? a = some oa) (da : oa.data = .seq xs.toArray na) (hb : s.heap.get? b = some ob) (db : ob.data = .seq ys.toArray nb) :
    ∀ {cs ds : List Cel} {r : Bool}, LtC cs ds r → ∀ i : Nat, CelsAre (xs.drop i) cs → CelsAre (ys.drop i) ds → (K (.ok (.ret (.bool r))) s) → codeAny (model prog w) A (.builtin "list.__eq__.loop" ⟨[.ref a, .ref b, rawInt (i : Int), rawInt 0], []⟩) K s := by
  have base : ∀ (i : Nat) (u v : Value) (P : Fin → Shared → Prop), xs[i]? = some u → ys[i]? = some v →
      wpAny (model prog w) (A.under (.builtin "list.__eq__.loop" ⟨[.ref a, .ref b, rawInt (i : Int), rawInt 0], []⟩)) (eqBool u v) (fun e s' => s' = s ∧ if e = true then P (.again (.builtin "list.__eq__.loop" ⟨[.ref a, .ref b, rawInt ((i : Int) + 1), rawInt 0], []⟩)) s
        else wpAny (model prog w) (A.under (.builtin "list.__eq__.loop" ⟨[.ref a, .ref b, rawInt (i : Int), rawInt 0], []⟩)) (richCompare .Lt u v) (fun x s'' => P (.done (.ret x)) s'') (fun e s' => K (.error e) s') s) (fun e s' => K (.error e) s') s →
      wpAny (model prog w) (A.under (.builtin "list.__eq__.loop" ⟨[.ref a, .ref b, rawInt (i : Int), rawInt 0], []⟩)) (Builtin.«list.__eq__.loop» ⟨[.ref a, .ref b, rawInt (i : Int), rawInt 0], []⟩) P (fun e s' => K (.error e) s') s := by
    intro i u v P hu hv h
    unfold Builtin.«list.__eq__.loop»
    show wpAny _ _ (Builtin.List.listItems (.ref a) >>= _) _ _ s
    refine wpAny_bind (listItems_at ha da ?_)
    refine wpAny_bind (listItems_at hb db ?_)
    have e1 : xs.toArray[(i : Int).toNat]? = some u := by simpa using hu
    have e2 : ys.toArray[(i : Int).toNat]? = some v := by simpa using hv
    rw [e1, e2]
    refine wpAny_bind (wpAny_mono h (fun e s' q => ?_) fun _ _ z => z)
    obtain ⟨rfl, q⟩ := q
    cases e with
    | true =>
      rw [if_pos rfl] at q ⊢
      exact wpAny_bind (wpAny_pure (wpAny_pure q))
    | false =>
      rw [if_neg Bool.false_ne_true] at q ⊢
      refine wpAny_bind (listItems_at ha da (wpAny_bind (listItems_at hb db ?_)))
      rw [e1, e2]
      exact wpAny_bind (wpAny_mono q (fun x s'' q' => wpAny_pure q') fun _ _ z => z)
  intro cs ds r hlt
  induction hlt with
  | same c h ih =>
    intro i hc hd hK
    obtain ⟨u, hu, cu, hc'⟩ := cel_head hc
    obtain ⟨v, hv, cv, hd'⟩ := cel_head hd
    refine codeAny_builtin PySem.MeetsSeq3.entry_eq_loop (base i u v _ hu hv ?_)
    have next : s = s ∧ (if true = true then (fun (fin : Fin) (s' : Shared) => match fin with | .done f => K (.ok f) s' | .again c' => c'.quiet = true ∧ codeAny (model prog w) A c' K s') (.again (.builtin "list.__eq__.loop" ⟨[.ref a, .ref b, rawInt ((i : Int) + 1), rawInt 0], []⟩)) s
        else wpAny (model prog w) (A.under (.builtin "list.__eq__.loop" ⟨[.ref a, .ref b, rawInt (i : Int), rawInt 0], []⟩)) (richCompare .Lt u v) (fun x s'' => (fun (fin : Fin) (s' : Shared) => match fin with | .done f => K (.ok f) s' | .again c' => c'.quiet = true ∧ codeAny (model prog w) A c' K s') (.done (.ret x)) s'') (fun e s' => K (.error e) s') s) := by
      refine ⟨rfl, ?_⟩
      rw [if_pos rfl]
      exact ⟨plainId_quiet PySem.MeetsSeq3.plain_eq_loop _, ih (i + 1) hc' hd' hK⟩
    cases c with
    | num n =>
      cases cu with | num _ t _ => cases cv with | num _ t' _ =>
      refine wpAny_eqBool_int ?_
      rw [show (n == n) = true from beq_self_eq_true n]
      exact next
    | txt x =>
      cases cu with | txt _ t _ => cases cv with | txt _ t' _ =>
      refine eqBool_str ?_
      rw [show (x == x) = true from beq_self_eq_true x]
      exact next
  | @num m n r r' h =>
    intro i hc hd hK
    obtain ⟨u, hu, cu, hc'⟩ := cel_head hc
    obtain ⟨v, hv, cv, hd'⟩ := cel_head hd
    cases cu with | num _ t _ => cases cv with | num _ t' _ =>
    refine codeAny_builtin PySem.MeetsSeq3.entry_eq_loop (base i _ _ _ hu hv (wpAny_eqBool_int ?_))
    rw [show (m == n) = false by simpa using h]
    refine ⟨rfl, ?_⟩
    rw [if_neg Bool.false_ne_true]
    exact lt_int hK
  | @txt x y r r' h =>
    intro i hc hd hK
    obtain ⟨u, hu, cu, hc'⟩ := cel_head hc
    obtain ⟨v, hv, cv, hd'⟩ := cel_head hd
    cases cu with | txt _ t _ => cases cv with | txt _ t' _ =>
    refine codeAny_builtin PySem.MeetsSeq3.entry_eq_loop (base i _ _ _ hu hv (eqBool_str ?_))
    rw [show (x == y) = false by simpa using h]
    refine ⟨rfl, ?_⟩
    rw [if_neg Bool.false_ne_true]
    exact P.lt_str hK

theorem lt_meets (a b : Addr) (items items2 : Array Value) (n n2 : Nat) (dd dd2 : Option Addr) (sl sl2 : Array (Option Value)) :
    Meets (Builtin.«list.__lt__» ⟨[.ref a, .ref b], []⟩)
      (fun A R s => s.heap.get? a = some { cls := .type "list", dict := dd, data := .seq items n, slots := sl } ∧ s.heap.get? b = some { cls := .type "list", dict := dd2, data := .seq items2 n2, slots := sl2 } ∧
        ∀ prog w, codeAny (model prog w) A (.builtin "list.__eq__.loop" ⟨[.ref a, .ref b, rawInt 0, rawInt 0], []⟩) R s) := by
  intro prog w A R s h
  obtain ⟨hp, g, d, tk, os⟩ := s; obtain ⟨hl, hb, h⟩ := h
  have f3 := AutoSeq1.sub_list_list
  wp_walk using wpAny_loadPart' hl, wpAny_loadPart' hb
  exact ⟨plainId_quiet PySem.MeetsSeq3.plain_eq_loop _, h prog w⟩
theorem keylt {a b : Addr} {xs ys : List Value} {cs ds : List Cel} {r : Bool} {Q : Bool → Shared → Prop} (hu : A.units + 1 < cLine) (hx : s.heap.IsList a xs.toArray) (hy : s.heap.IsList b ys.toArray) (hc : CelsAre xs cs) (hd : CelsAre ys ds) (h : LtC cs ds r) (hQ : Q r s) :
    wpAny (model prog w) A (keyLt' oneType' (.ref a) (.ref b)) Q E s := by
  rw [keyLt'_oneType, oneLt'_eq]
  simp only [if_true]
  refine wpAny_bind (wpAny_cRoomFor (by omega) ?_)
  refine wpAny_bind (wpAny_callSpecialIfBound?_slot hx.typeIs F.slot_list_lt ?_)
  obtain ⟨⟨ca, dd, da, sl⟩, ha, h1, na, h2⟩ := id hx
  obtain ⟨⟨cb, dd2, db, sl2⟩, hb, h3, nb, h4⟩ := id hy
  simp only at h1 h2 h3 h4
  subst h1 h2 h3 h4
  have tail : wpAny (model prog w) A (match some (Value.bool r) with
      | some .notImplemented | none => (do rule "list.sort.lt-declined"; truthOfDropped (← richCompare .Lt (.ref a) (.ref b)))
      | some r => truthOfDropped r) Q E s := wpAny_truthy_bool hQ
  refine call_meets F.slot_list_lt ⟨_, ha, rfl⟩ F.entry_list_lt (F.args_list_lt_2 _ _) (lt_meets a b xs.toArray ys.toArray na nb dd dd2 sl sl2) ⟨ha, hb, fun _ _ => lt_loop ha rfl hb rfl h 0 hc hd tail⟩
end
end Mine
end

section
namespace Mine
open PySem PySem.W PyProof.Rows PySem.Calls
open Sem (wp)

/-- a decision tree run by a known order -/
def treeRun {α : Type} (n : Nat) (lt : Nat → Nat → Bool) : KasT α → Option α
  | .ret a => some a
  | .ask i j k => if i < n ∧ j < n ∧ i ≠ j then treeRun n lt (k (lt i j)) else none
theorem tree_ok {α : Type} {n : Nat} {lt : Nat → Nat → Bool} {cmp : Nat → Nat → (Bool → Shared → Prop) → Shared → Prop} {s : Shared} (hc : ∀ i j C, i < n → j < n → i ≠ j → C (lt i j) s → cmp i j C s) :
    ∀ (t : KasT α) {a : α} {Q : α → Shared → Prop}, treeRun n lt t = some a → Q a s → t.kasWp cmp Q s
  | .ret b, a, Q, h, hQ => by
    have : b = a := by simpa [treeRun] using h
    subst this; exact hQ
  | .ask i j k, a, Q, h, hQ => by
    unfold treeRun at h
    by_cases hb : i < n ∧ j < n ∧ i ≠ j
    · rw [if_pos hb] at h
      exact hc i j _ hb.1 hb.2.1 hb.2.2 (tree_ok hc (k (lt i j)) h hQ)
    · rw [if_neg hb] at h; cases h

/-- the keys made so far -/
inductive KeysAre (h : Heap) (off : List Addr) : List Value → List (List Cel) → Prop
  | nil : KeysAre h off [] []
  | cons {r : Addr} {ws : List Value} {cs : List Cel} {ks : List Value} {css : List (List Cel)} : h.PlainList r ws.toArray → CelsAre ws cs → r ∉ off → KeysAre h off ks css → KeysAre h off (.ref r :: ks) (cs :: css)
theorem KeysAre.keep {h h' : Heap} {off : List Addr} (hk : ∀ b o, b ∉ off → h.get? b = some o → h'.get? b = some o) : ∀ {ks : List Value} {css : List (List Cel)}, KeysAre h off ks css → KeysAre h' off ks css
  | _, _, .nil => .nil
  | _, _, .cons hl hc ho r => .cons (hl.at fun o q => hk _ o ho q) hc ho (r.keep hk)
theorem KeysAre.snoc {h : Heap} {off : List Addr} {r : Addr} {ws : List Value} {cs : List Cel} (hl : h.PlainList r ws.toArray) (hc : CelsAre ws cs) (ho : r ∉ off) : ∀ {ks : List Value} {css : List (List Cel)}, KeysAre h off ks css → KeysAre h off (ks ++ [.ref r]) (css ++ [cs])
  | _, _, .nil => .cons hl hc ho .nil
  | _, _, .cons a b c d => .cons a b c (KeysAre.snoc hl hc ho d)
theorem KeysAre.length {h : Heap} {off : List Addr} : ∀ {ks : List Value} {css : List (List Cel)}, KeysAre h off ks css → ks.length = css.length
  | _, _, .nil => rfl
  | _, _, .cons _ _ _ d => congrArg (· + 1) d.length
theorem KeysAre.get {h : Heap} {off : List Addr} : ∀ {ks : List Value} {css : List (List Cel)}, KeysAre h off ks css → ∀ (i : Nat) {cs : List Cel}, css[i]? = some cs → ∃ r ws, ks.getD i .none = .ref r ∧ h.PlainList r ws.toArray ∧ CelsAre ws cs
  | _, _, .nil, i, cs, hi => by simp at hi
  | _, _, .cons a b c d, 0, cs, hi => by simp at hi; subst hi; exact ⟨_, _, rfl, a, b⟩
  | _, _, .cons a b c d, i + 1, cs, hi => by
    obtain ⟨r, ws, e1, e2⟩ := d.get i (by simpa using hi)
    exact ⟨r, ws, by simpa using e1, e2⟩
theorem KeysAre.lists {h : Heap} {off : List Addr} : ∀ {ks : List Value} {css : List (List Cel)}, KeysAre h off ks css → ∀ v ∈ ks, ∃ r o, v = .ref r ∧ h.get? r = some o ∧ o.cls = .type "list"
  | _, _, .nil, v, hv => by simp at hv
  | _, _, .cons ⟨n, a⟩ b c d, v, hv => by
    rcases List.mem_cons.mp hv with rfl | hv
    · exact ⟨_, _, rfl, a, rfl⟩
    · exact d.lists v hv

theorem strs_len' : ∀ {vs : List Value} {xs : List Str}, StrsAre vs xs → xs.length = vs.length
  | _, _, .nil => rfl
  | _, _, .cons _ _ r => congrArg (· + 1) (strs_len' r)

section
variable {prog : Program} {w : World} {A : Around} {E : Value → Shared → Prop} {S s : Shared} {env : Env} {F : Addr} {l cm : List (Str × Value)}

theorem check_fn {M : Model} {id : String} {args : List Value} {kw : List (Str × Value)} {Q : Unit → Shared → Prop} (hk : builtinKind id = none) (ha : argsOk id ⟨args, kw⟩) (h : Q () s) : wpAny M A (checkBuiltinCall id ⟨args, kw⟩) Q E s := by
  simp only [checkBuiltinCall, hk]
  cases hsig : Manifest.signature? id with
  | none => exact wpAny_pure h
  | some sig =>
    have ha' : Bind.checkArgs id sig ⟨args, kw⟩ = pure () := by simpa only [argsOk, hsig] using ha
    simp only [ha']
    exact wpAny_pure h

theorem LS.other {a : Addr} {h' : Heap} {t : Nat} (x : LS w S env F l cm s) (hk : ∀ b o, b ≠ a → s.heap.get? b = some o → h'.get? b = some o) (haX : a ∉ XX env F) (haS : S.heap.get? a = none) : LS w S env F l cm { s with heap := h', toks := t } where
  g0 := x.g0
  gr := x.g0.on x.gr fun b o hb q => rid_keeps q (hk b o (fun z => hb (z ▸ haS)) (rid_in q).2)
  ns := ns_at x.ns fun o q => hk F o (fun z => haX (z ▸ XF)) q
  cell := fun n c hc => let ⟨o, ho, hd⟩ := x.cell n c hc; ⟨o, hk c o (fun z => haX (z ▸ Xc (mem_of_lookup hc))) ho, hd⟩
  old := fun b o hb q => hk b o (fun z => by rw [z, haS] at q; cases q) (x.old b o hb q)
  os := x.os
  bare := x.bare
  new := x.new
  newc := x.newc

set_option maxHeartbeats 2000000 in
/-- list.sort(key=_comparable_version) of texts whose keys are known -/
theorem R.keySort {a : Addr} {n0 : Nat} {vs : List Value} {xs : List Str} {css : List (List Cel)} {lt : Nat → Nat → Bool} {p : Array Nat} {P : Fin → Shared → Prop} (V : LV env F) (ls : LS w S env F l cm s) (hh : A.handled = none) (hroom : A.depth + 1 < recursionLimit) (hfr : A.frames = some [env]) (hu : A.units + 1 < cLine)
    (ho : s.heap.get? a = some (seqObj "list" vs.toArray n0)) (haX : a ∉ XX env F) (haS : S.heap.get? a = none) (hs : StrsAre vs xs) (hlen : css.length = vs.length) (h2 : 2 ≤ vs.length) (h64 : vs.length < 64)
    (hp : ∀ (i : Nat) x cs, xs[i]? = some x → css[i]? = some cs → x.cps.size ≤ 1000 ∧ Pieces (reSplit (x.cps.size + 1) x.cps.toList) cs)
    (hlt : ∀ i j ci cj, css[i]? = some ci → css[j]? = some cj → i ≠ j → LtC ci cj (lt i j)) (hrun : treeRun vs.length lt (kas_sort vs.length) = some p)
    (hP : ∀ s', LS w S env F l cm s' → (∀ b o, b ≠ a → b ≠ 46 → b ≠ F → s.heap.get? b = some o → s'.heap.get? b = some o) → s'.heap.PlainList a (p.toList.map fun i => vs.getD i .none).toArray → P (.done (.ret .none)) s') :
    wpR (model prog w) A (ksk_tree a (.ref 44) false) P E s := by
  have s1 := Heap.SameBut.update s.heap a (Obj.mapSeq fun _ => (#[] : Array Value))
  obtain ⟨e1, ho1⟩ : ∃ e1, (s.heap.update a (Obj.mapSeq fun _ => (#[] : Array Value))).get? a = some (seqObj "list" #[] e1) := ⟨_, get?_update_seq ho fun _ => #[]⟩
  unfold ksk_tree
  refine R.step (listItems_at ho rfl ?_)
  refine R.step (listUpdate_at ho rfl ?_ (by rw [List.size_toArray, sizeLine_eq]; omega) (Nat.zero_le _))
  generalize s.heap.update a (Obj.mapSeq fun _ => (#[] : Array Value)) = H1 at *
  refine R.step (seqEpoch_at ho1 rfl ?_)
  refine R.step (wpAny_newTuple ?_ (by show vs.length ≤ _; rw [sizeLine_eq]; omega))
  refine R.step (wpAny_newList ?_ (Nat.zero_le _))
  refine R.holding ?_
  dsimp only
  have ls1 : LS w S env F l cm { s with heap := H1, toks := s.toks } := ls.other (fun b o hb q => s1.extBut b o hb q) haX haS
  have up : ∀ b o, H1.get? b = some o → ((H1.push { cls := .type "tuple", data := .seq vs.toArray }).push { cls := .type "list", data := .seq #[] }).get? b = some o := fun b o q => Heap.get?_push_of_some _ (Heap.get?_push_of_some _ q)
  have ls3 : LS w S env F l cm { s with heap := (H1.push { cls := .type "tuple", data := .seq vs.toArray }).push { cls := .type "list", data := .seq #[] }, toks := s.toks } := ls1.lt V.le (Lt.up (s := { s with heap := H1, toks := s.toks }) ls1.gr up)
  have hkS0 : H1.get? (H1.push { cls := .type "tuple", data := .seq vs.toArray }).objs.size = none := by
    cases q : H1.get? (H1.push { cls := .type "tuple", data := .seq vs.toArray }).objs.size with
    | none => rfl
    | some o => have := Heap.lt_size q; rw [Heap.size_push] at this; exact absurd this (Nat.not_lt.mpr (Nat.le_succ _))
  have hk3 : ((H1.push { cls := .type "tuple", data := .seq vs.toArray }).push { cls := .type "list", data := .seq #[] }).get? (H1.push { cls := .type "tuple", data := .seq vs.toArray }).objs.size = some (seqObj "list" ([] : List Value).toArray 0) := Heap.get?_push_size _ rfl
  have ha3 := up a _ ho1
  generalize (H1.push { cls := .type "tuple", data := .seq vs.toArray }).push { cls := .type "list", data := .seq #[] } = H3 at *
  generalize (H1.push { cls := .type "tuple", data := .seq vs.toArray }).objs.size = kS at *
  have hka : kS ≠ a := fun z => by rw [z, ho1] at hkS0; cases hkS0
  have hkX : kS ∉ XX env F := fun hm => by
    have := ls1.lives V.le kS hm
    exact this hkS0
  have hkSS : S.heap.get? kS = none := by
    cases q : S.heap.get? kS with
    | none => rfl
    | some o => have := ls1.old kS o (fun z => hkX (z ▸ X46)) q; rw [hkS0] at this; cases this
  have keep3 : ∀ b o, b ≠ a → b ≠ 46 → b ≠ F → s.heap.get? b = some o → H3.get? b = some o := fun b o h1 _ _ q => up b o (s1.extBut b o h1 q)
  have hk0 : ∀ o, s.heap.get? kS = some o → False := fun o q => by
    have := s1.extBut kS o hka q
    rw [hkS0] at this; cases this
  unfold ksk_rest
  refine R.step (wpAny_rule ?_)
  rw [List.forIn_toArray]
  have hsl : xs.length = vs.length := strs_len' hs
  refine R.bind (R.forIn _ (fun rest _ s' => ∃ i ks e, rest = vs.drop i ∧ i ≤ vs.length ∧ LS w S env F l cm s' ∧ (∀ b o, b ≠ a → b ≠ 46 → b ≠ F → s.heap.get? b = some o → s'.heap.get? b = some o) ∧ s'.heap.get? a = some (seqObj "list" #[] e1) ∧
    s'.heap.get? kS = some (seqObj "list" (ks : List Value).toArray e) ∧ KeysAre s'.heap [F, 46, a, kS] ks (css.take i)) _ ?_ ?_ vs PUnit.unit ⟨0, [], 0, rfl, Nat.zero_le _, ls3, keep3, ha3, hk3, .nil⟩)
  · rintro x rest b s' ⟨i, ks, e, hd, hi, ls', kp, hda, hdk, hks⟩
    have hlt' : i < vs.length := by
      rcases Nat.lt_or_ge i vs.length with h | h
      · exact h
      · rw [List.drop_of_length_le h] at hd; cases hd
    rw [List.drop_eq_getElem_cons hlt'] at hd
    obtain ⟨rfl, rfl⟩ := List.cons.inj hd
    obtain ⟨y, t, hy, hyx⟩ := strs_at hs (List.getElem?_eq_getElem hlt')
    have hcs : css[i]? = some css[i] := List.getElem?_eq_getElem (by omega)
    obtain ⟨hz, hpc⟩ := hp i y _ hyx hcs
    rw [hy]
    refine R.bind (R.attempt (R.cmp44 V ls' hh hroom hfr hz hpc fun s'' r ws lt'' hpl hce h0 => ?_))
    dsimp only
    have ls'' := ls'.lt V.le lt''
    have hFX : ∀ b, b ∉ XX env F → b ≠ 46 ∧ b ≠ F := fun b hb => ⟨fun z => hb (z ▸ X46), fun z => hb (z ▸ XF)⟩
    have hda'' := lt''.ext a _ (hFX a haX).1 (hFX a haX).2 hda
    have hdk'' := lt''.ext kS _ (hFX kS hkX).1 (hFX kS hkX).2 hdk
    have hkl : ks.length = i := by rw [hks.length, List.length_take]; omega
    have hro : r ∉ [F, 46, a, kS] := by
      intro hm
      simp only [List.mem_cons, List.not_mem_nil, or_false] at hm
      rcases hm with rfl | rfl | rfl | rfl
      · exact ls'.F0 h0
      · exact ls'.lives V.le 46 X46 h0
      · rw [hda] at h0; cases h0
      · rw [hdk] at h0; cases h0
    refine R.step (listUpdate_at hdk'' rfl ?_ (by rw [List.size_toArray, sizeLine_eq]; omega) (by show ((ks.toArray).push (Value.ref r)).size ≤ _; rw [Array.size_push, List.size_toArray, sizeLine_eq]; omega))
    refine R.pure ?_
    have sk := Heap.SameBut.update s''.heap kS (Obj.mapSeq (·.push (Value.ref r)))
    obtain ⟨e', he'⟩ : ∃ e', (s''.heap.update kS (Obj.mapSeq (·.push (Value.ref r)))).get? kS = some (seqObj "list" (ks.toArray.push (Value.ref r)) e') := ⟨_, get?_update_seq hdk'' (·.push (Value.ref r))⟩
    generalize s''.heap.update kS (Obj.mapSeq (·.push (Value.ref r))) = H5 at *
    refine ⟨i + 1, ks ++ [.ref r], e', rfl, hlt', ls''.other (t := s''.toks) (fun b o hb q => sk.extBut b o hb q) hkX hkSS, fun b o b1 b2 b3 q => sk.extBut b o (fun z => hk0 o (z ▸ q)) (lt''.ext b o b2 b3 (kp b o b1 b2 b3 q)), sk.extBut a _ (Ne.symm hka) hda'', by rw [he']; simp, ?_⟩
    have hoff : ∀ b, b ∉ [F, 46, a, kS] → b ≠ kS ∧ b ≠ 46 ∧ b ≠ F := fun b hb => by
      simp only [List.mem_cons, List.not_mem_nil, or_false, not_or] at hb
      exact ⟨hb.2.2.2, hb.2.1, hb.1⟩
    rw [List.take_add_one, hcs]
    exact KeysAre.snoc (hpl.at fun o q => sk.extBut r o (hoff r hro).1 q) hce hro (hks.keep fun b o hb q => sk.extBut b o (hoff b hb).1 (lt''.ext b o (hoff b hb).2.1 (hoff b hb).2.2 q))
  · rintro b s' ⟨i, ks, e, hd, hi, ls', kp, hda, hdk, hks⟩
    have hin : i = vs.length := by
      have := congrArg List.length hd
      simp at this; omega
    subst hin
    have htk : css.take vs.length = css := List.take_of_length_le (by omega)
    rw [htk] at hks
    refine R.step (listItems_at hdk rfl (R.of ?_))
    have hkl : ks.length = vs.length := by rw [hks.length]; omega
    have hn2 : ¬ vs.toArray.size < 2 := by rw [List.size_toArray]; omega
    unfold ksk_end
    dsimp only
    rw [if_neg Bool.false_ne_true, if_neg hn2, if_neg hn2]
    refine wpAny_bind (kas_kind (T := .type "list") (by omega) (fun v hv => ?_) (by decide) (by decide) ?_)
    · obtain ⟨r, o, rfl, hr, hc⟩ := hks.lists v hv
      exact fun A Q E s k q => wpAny_typeOf (T := "list") ⟨o, k r o hr, hc⟩ q
    rw [if_neg Bool.false_ne_true]
    refine wpAny_bind (wpAny_mono (kat_run (ks := ks) (vs := vs) (κ := oneType') (Q := fun st' s'' => s'' = s' ∧ (arrOf st').map (·.2) = List.toArray (p.toList.map fun i => vs.getD i Value.none) ∧ failedOf st' = none ∧ p.size = vs.length) (G := fun q s'' => q = p ∧ s'' = s') hkl h2 h64 (fun q st' s'' hq har hf hg => ?_) ?_) (fun r s'' hr => ?_) fun _ _ z => z)
    · obtain ⟨rfl, rfl⟩ := hg
      exact ⟨rfl, kat_snds hkl har, hf, hq⟩
    · refine tree_ok (n := vs.length) (lt := lt) (s := s') (fun i j C hi hj hij hC => ?_) _ hrun ⟨rfl, rfl⟩
      have ci : css[i]? = some css[i] := List.getElem?_eq_getElem (by omega)
      have cj : css[j]? = some css[j] := List.getElem?_eq_getElem (by omega)
      obtain ⟨ri, wi, e1, e2, e3⟩ := hks.get i ci
      obtain ⟨rj, wj, f1, f2, f3⟩ := hks.get j cj
      unfold kas_ask
      rw [e1, f1]
      exact keylt hu e2.isList f2.isList e3 f3 (hlt i j _ _ ci cj hij) hC
    · obtain ⟨⟨⟩, st'⟩ := r
      obtain ⟨rfl, hout, hf, hpz⟩ := hr
      dsimp only at hout hf ⊢
      unfold ksk_tail
      dsimp only
      have sk := Heap.SameBut.update s''.heap kS (Obj.mapSeq fun _ => (#[] : Array Value))
      have hda1 := sk.extBut a _ (Ne.symm hka) hda
      have lsk : LS w S env F l cm { s'' with heap := s''.heap.update kS (Obj.mapSeq fun _ => (#[] : Array Value)), toks := s''.toks } := ls'.other (fun b o hb q => sk.extBut b o hb q) hkX hkSS
      have kp1 : ∀ b o, b ≠ a → b ≠ 46 → b ≠ F → s.heap.get? b = some o → (s''.heap.update kS (Obj.mapSeq fun _ => (#[] : Array Value))).get? b = some o := fun b o b1 b2 b3 q => sk.extBut b o (fun z => hk0 o (z ▸ q)) (kp b o b1 b2 b3 q)
      have hsz : (List.toArray (p.toList.map fun i => vs.getD i Value.none)).size = vs.length := by
        rw [List.size_toArray, List.length_map, Array.length_toList, hpz]
      rw [hout]
      refine wpAny_bind (listUpdate_at hdk rfl ?_ (by rw [List.size_toArray, sizeLine_eq]; omega) (Nat.zero_le _))
      refine wpAny_bind (wpAny_letGo ?_)
      generalize s''.heap.update kS (Obj.mapSeq fun _ => (#[] : Array Value)) = H6 at *
      refine wpAny_bind (seqEpoch_at hda1 rfl ?_)
      refine wpAny_bind (listUpdate_at hda1 rfl ?_ (Nat.zero_le _) (Nat.le_trans (Nat.le_of_eq hsz) (by rw [sizeLine_eq]; omega)))
      rw [hf]
      simp only [bne_self_eq_false, Bool.false_eq_true, if_false]
      have sa := Heap.SameBut.update H6 a (Obj.mapSeq fun _ => List.toArray (p.toList.map fun i => vs.getD i Value.none))
      obtain ⟨c2, hc2⟩ : ∃ c2, (H6.update a (Obj.mapSeq fun _ => List.toArray (p.toList.map fun i => vs.getD i Value.none))).get? a = some (seqObj "list" (List.toArray (p.toList.map fun i => vs.getD i Value.none)) c2) := ⟨_, get?_update_seq hda1 fun _ => List.toArray (p.toList.map fun i => vs.getD i Value.none)⟩
      exact wpAny_pure (hP _ (lsk.other (t := s''.toks) (fun b o hb q => sa.extBut b o hb q) haX haS) (fun b o b1 b2 b3 q => sa.extBut b o b1 (kp1 b o b1 b2 b3 q)) ⟨c2, hc2⟩)
end
end Mine
end

section
namespace Mine
open PySem PySem.W PyProof.Rows PySem.Calls
open Sem (wp)

section
variable {prog : Program} {w : World} {A : Around} {E : Value → Shared → Prop} {S s : Shared} {env : Env} {F : Addr} {l cm : List (Str × Value)}

set_option maxHeartbeats 1000000 in
/-- sorted(xs, key=_comparable_version) -/
theorem R.sortedKey {r : Addr} {vs : List Value} {xs : List Str} {css : List (List Cel)} {lt : Nat → Nat → Bool} {p : Array Nat} {Q : Value → Shared → Prop} (V : LV env F) (ls : LS w S env F l cm s) (hh : A.handled = none) (hroom : A.depth + 1 < recursionLimit) (hfr : A.frames = some [env]) (hu : A.units + 3 < cLine)
    (hl : s.heap.IsList r vs.toArray) (hs : StrsAre vs xs) (hlen : css.length = vs.length) (h2 : 2 ≤ vs.length) (h64 : vs.length < 64)
    (hp : ∀ (i : Nat) x cs, xs[i]? = some x → css[i]? = some cs → x.cps.size ≤ 1000 ∧ Pieces (reSplit (x.cps.size + 1) x.cps.toList) cs)
    (hlt : ∀ i j ci cj, css[i]? = some ci → css[j]? = some cj → i ≠ j → LtC ci cj (lt i j)) (hrun : treeRun vs.length lt (kas_sort vs.length) = some p)
    (hQ : ∀ s' a, LS w S env F l cm s' → (∀ b o, b ≠ 46 → b ≠ F → s.heap.get? b = some o → s'.heap.get? b = some o) → s.heap.get? a = none → s'.heap.PlainList a (p.toList.map fun i => vs.getD i .none).toArray → Q (.ref a) s') :
    wpR (model prog w) A (PySem.call (.builtin "sorted") [.ref r] [(Str.ofString "key", .ref 44)]) Q E s := by
  refine R.call (R.callBuiltin plain_sorted entry_sorted (check_fn kind_sorted (ksk_s1 _ _) ?_))
  unfold Builtin.«sorted»
  refine R.step (wpAny_pure ?_)
  refine R.step (collect_list hl ?_ (by rw [sizeLine_eq]; omega))
  refine R.step (wpAny_newList ?_ (by rw [sizeLine_eq]; omega))
  have hsz : ((s.heap.push (seqObj "list" #[] 0)).update s.heap.objs.size (Obj.mapSeq (· ++ vs.toArray))).objs.size = s.heap.objs.size + 1 := by
    rw [Heap.size_update, size_push']
  have hoL : (((s.heap.push (seqObj "list" #[] 0)).update s.heap.objs.size (Obj.mapSeq (· ++ vs.toArray))).push (seqObj "list" vs.toArray 0)).get? (s.heap.objs.size + 1) = some (seqObj "list" vs.toArray 0) := by
    rw [← hsz]; exact Heap.get?_push_size _ rfl
  have keep : ∀ b o, s.heap.get? b = some o → (((s.heap.push (seqObj "list" #[] 0)).update s.heap.objs.size (Obj.mapSeq (· ++ vs.toArray))).push (seqObj "list" vs.toArray 0)).get? b = some o := fun b o q => by
    have hlt : b < s.heap.objs.size := Heap.lt_size q
    rw [Heap.get?_push_ne _ _ _ (by rw [hsz]; exact Nat.ne_of_lt (Nat.lt_succ_of_lt hlt)), Heap.get?_update_ne _ _ _ _ (Nat.ne_of_lt hlt), Heap.get?_push_ne _ _ _ (Nat.ne_of_lt hlt)]
    exact q
  have ha0 : s.heap.get? (s.heap.objs.size + 1) = none := by
    cases q : s.heap.get? (s.heap.objs.size + 1) with
    | none => rfl
    | some o => exact absurd (Heap.lt_size q) (Nat.not_lt.mpr (Nat.le_succ _))
  show wpR _ _ _ _ _ { s with heap := ((s.heap.push (seqObj "list" #[] 0)).update s.heap.objs.size (Obj.mapSeq (· ++ vs.toArray))).push (seqObj "list" vs.toArray 0) }
  rw [hsz]
  have ls1 : LS w S env F l cm { s with heap := ((s.heap.push (seqObj "list" #[] 0)).update s.heap.objs.size (Obj.mapSeq (· ++ vs.toArray))).push (seqObj "list" vs.toArray 0), toks := s.toks } := ls.lt V.le (Lt.up ls.gr keep)
  generalize ((s.heap.push (seqObj "list" #[] 0)).update s.heap.objs.size (Obj.mapSeq (· ++ vs.toArray))).push (seqObj "list" vs.toArray 0) = H at *
  generalize s.heap.objs.size + 1 = a at *
  have haX : a ∉ XX env F := fun hm => ls.lives V.le a hm ha0
  have haS : S.heap.get? a = none := by
    cases q : S.heap.get? a with
    | none => rfl
    | some o => have := ls.old a o (fun z => haX (z ▸ X46)) q; rw [ha0] at this; cases this
  refine R.bind (R.holding (R.call (R.callBuiltin slot_list_sort.plain entry_list_sort (slot_list_sort.check _ _ _ _ _ _ _ _ ⟨_, hoL, rfl⟩ (ksk_l1 _ _) ?_))))
  rw [ksk_t1]
  refine R.keySort V ls1 hh hroom hfr (by show A.units + 1 + 1 + 1 < cLine; omega) hoL haX haS hs hlen h2 h64 hp hlt hrun fun s' ls' kp hpl => ?_
  exact R.pure (hQ s' a ls' (fun b o b1 b2 q => kp b o (fun z => by rw [z, ha0] at q; cases q) b1 b2 (keep b o q)) ha0 hpl)

theorem R.evalArgsKw {M : Model} {f : Value} {x : Sem Value} {keywords : List (Option Str × Sem Value)} {Q : Args → Shared → Prop} (hall : keywords.all (·.1.isSome) = true)
    (h : wpR M A x (fun v s₁ => wpAny M A (evalAll (keywords.map (·.2))) (fun kvs s₂ => Q ⟨[v], (keywords.filterMap (·.1)).zip kvs⟩ s₂) E s₁) E s) : wpR M A (evalArgs f true [(false, x)] keywords) Q E s := by
  unfold evalArgs
  show wpR M A (spliced [(false, x)] >>= _) Q E s
  refine R.bind ?_
  show wpR M A (do
    let v ← x
    let here ← (Pure.pure [v] : Sem (List Value))
    return here ++ (← PySem.holding here (spliced []))) _ E s
  refine R.bind (R.mono h (fun v s₁ h₁ => R.step (wpAny_pure (R.bind (R.holding (R.pure (R.pure ?_)))))) fun _ _ x => x)
  refine R.holding ?_
  rw [if_pos hall]
  refine R.step (wpAny_mono h₁ (fun kvs s₂ h₂ => ?_) fun _ _ x => x)
  exact R.step (wpAny_pure (R.pure h₂))

/-- f(e, key=e') for a builtin f, e on the path -/
theorem R.callKey {M : Model} {cenv : Env} {C : Addr} {ns : List (Str × NameKind)} {id : Str} {b : String} {e₁ e₂ : PySem.Expr} {p p2 pos : Pos} {k : Str} {Q : Value → Shared → Prop} (e : Ev cenv C ns) (g : Gr w s.heap) (hv : bootBuiltins id = some (.builtin b))
    (hl : ns.lookup id = some .globalImplicit) (hm : nsIn (KK w) mainGlobals id = some none) (hx : id ≠ "__name__") (hd : (id == ("__debug__" : Str)) = false) (he : starEach [e₁] cenv = [(false, eval e₁ cenv)])
    (h : wpR M A (eval e₁ cenv) (fun v s₁ => wpAny M A (eval e₂ cenv) (fun u s₂ => wpR M A (PySem.call (.builtin b) [v] [(k, u)]) Q E s₂) E s₁) E s) :
    wpR M A (eval (.Call (.Name id p) [e₁] [⟨some k, e₂, p2⟩] pos) cenv) Q E s := by
  show wpR M A (do callWith pos (← eval (.Name id p) cenv) [] (backTo pos (starEach [e₁] cenv)) (backToKw pos (keywordEach [⟨some k, e₂, p2⟩] cenv))) Q E s
  refine R.step (ldb e g hv ?_ hl hm hx hd)
  have he2 : backTo pos (starEach [e₁] cenv) = [(false, eval e₁ cenv)] := by rw [he]; rfl
  rw [he2]
  unfold callWith
  refine R.bind (R.holding (R.mono (Q := fun (a : Args) s₁ => wpR M A (PySem.call (.builtin b) ([] ++ a.pos) a.kw) Q E s₁) (R.evalArgsKw rfl (R.mono h (fun v s₁ h₁ => ?_) fun _ _ x => x)) (fun a s₁ h₁ => R.step (wpAny_standAt ?_)) fun _ _ x => x))
  · exact kws_cons (wpAny_mono h₁ (fun u s₂ h₂ => kws_nil h₂) fun _ _ x => x)
  · simp only [show ([(false, eval e₁ cenv)] : List (Bool × Sem Value)).any (·.1) = false from rfl, show (backToKw pos (keywordEach [⟨some k, e₂, p2⟩] cenv)).any (·.1.isNone) = false from rfl, Bool.or_false]
    refine R.step (wpAny_pure ?_)
    exact R.bind (R.mono h₁ (fun r s₂ hr => R.step (wpAny_holding (wpAny_point (R.pure hr)))) fun _ _ x => x)
end
end Mine
end

section
namespace Mine
open PySem PySem.W PyProof.Rows PySem.Calls
def rk (i : Nat) : Nat := [1, 4, 2, 0, 3].getD i 0
def ltk (i j : Nat) : Bool := decide (rk i < rk j)
theorem run5 : treeRun 5 ltk (kas_sort 5) = some #[3, 0, 2, 4, 1] := by decide

theorem LtC.num' {m n : Int} {r r' : List Cel} {b : Bool} (h : m ≠ n) (hb : decide (m < n) = b) : LtC (.num m :: r) (.num n :: r') b := hb ▸ .num r r' h
theorem LtC.txt' {x y : Str} {r r' : List Cel} {b : Bool} (h : x ≠ y) (hb : decide (x.cps.toList < y.cps.toList) = b) : LtC (.txt x :: r) (.txt y :: r') b := hb ▸ .txt r r' h

section
variable (n₁ n₂ n₃ n₄ : Int)
def rkOf (i : Nat) : List Cel := lawRanks [n₁, n₂, n₃, n₄] (wayOf (4 - i)) (aheadOf (4 - i))
def tail3 (a b c d : Nat) : List Cel := [.num 0, .txt (txt' (par a ++ [40])), .num 100, .num n₂, .num 0, .txt (txt' (par b ++ [40])), .num 100, .num n₃, .num 0, .txt (txt' (par c ++ [40])), .num 100, .num n₄, .num 0, .txt (txt' (par d))]
theorem rk0 : rkOf n₁ n₂ n₃ n₄ 0 = [.num 0, .txt (Str.ofString "\"(\""), .num 100, .num n₁] ++ tail3 n₂ n₃ n₄ 0 1 1 1 := by rfl
theorem rk1 : rkOf n₁ n₂ n₃ n₄ 1 = [.num 100, .num n₁] ++ tail3 n₂ n₃ n₄ 0 1 0 2 := by rfl
theorem rk2 : rkOf n₁ n₂ n₃ n₄ 2 = [.num 0, .txt (Str.ofString "\\("), .num 100, .num n₁] ++ tail3 n₂ n₃ n₄ 0 0 2 1 := by rfl
theorem rk3 : rkOf n₁ n₂ n₃ n₄ 3 = [.num 0, .txt (Str.ofString "\"(\""), .num 100, .num n₁] ++ tail3 n₂ n₃ n₄ 0 0 1 2 := by rfl
theorem rk4 : rkOf n₁ n₂ n₃ n₄ 4 = [.num 100, .num n₁] ++ tail3 n₂ n₃ n₄ 0 0 0 3 := by rfl
theorem rk_lt (i j : Nat) (hi : i < 5) (hj : j < 5) (h : i ≠ j) : LtC (rkOf n₁ n₂ n₃ n₄ i) (rkOf n₁ n₂ n₃ n₄ j) (ltk i j) := by
  have hi' : i = 0 ∨ i = 1 ∨ i = 2 ∨ i = 3 ∨ i = 4 := by omega
  have hj' : j = 0 ∨ j = 1 ∨ j = 2 ∨ j = 3 ∨ j = 4 := by omega
  rcases hi' with rfl | rfl | rfl | rfl | rfl <;> rcases hj' with rfl | rfl | rfl | rfl | rfl <;> first
    | exact absurd rfl h
    | (simp only [rk0, rk1, rk2, rk3, rk4]
       first
         | exact LtC.num' (by decide) (by decide)
         | exact LtC.same _ (LtC.txt' (by decide) (by decide))
         | exact LtC.same _ (LtC.same _ (LtC.same _ (LtC.same _ (LtC.same _ (LtC.same _ (LtC.same _ (LtC.same _ (LtC.same _ (LtC.txt' (by decide) (by decide))))))))))
         | exact LtC.same _ (LtC.same _ (LtC.same _ (LtC.same _ (LtC.same _ (LtC.same _ (LtC.same _ (LtC.txt' (by decide) (by decide)))))))))
end
end Mine
end

section
namespace Mine
open PySem PySem.W PyProof.Rows PySem.Calls
open Sem (wp)

theorem RdAll.toStrs {h : Heap} : ∀ {vs : List Value} {xs : List Str} {as : List Addr}, RdAll h vs (xs.map .str) as → StrsAre vs xs
  | _, [], _, .nil => .nil
  | _, x :: xs, _, .cons (.str _ t) r => .cons x t (RdAll.toStrs r)

theorem ints5 {vs : List Value} {a b c d e : Int} (h : IntsAre vs [a, b, c, d, e]) : ∃ t0 t1 t2 t3 t4, vs = [.int a t0, .int b t1, .int c t2, .int d t3, .int e t4] := by
  cases h with | cons _ t0 h => cases h with | cons _ t1 h => cases h with | cons _ t2 h => cases h with | cons _ t3 h => cases h with | cons _ t4 h => cases h with | nil => exact ⟨t0, t1, t2, t3, t4, rfl⟩
theorem strs5 {vs : List Value} {a b c d e : Str} (h : StrsAre vs [a, b, c, d, e]) : ∃ t0 t1 t2 t3 t4, vs = [.str a t0, .str b t1, .str c t2, .str d t3, .str e t4] := by
  cases h with | cons _ t0 h => cases h with | cons _ t1 h => cases h with | cons _ t2 h => cases h with | cons _ t3 h => cases h with | cons _ t4 h => cases h with | nil => exact ⟨t0, t1, t2, t3, t4, rfl⟩

section
variable {prog : Program} {w : World} {A : Around} {E : Value → Shared → Prop} {S s : Shared} {env : Env} {F : Addr} {l cm : List (Str × Value)}
variable {n₁ n₂ n₃ n₄ : Int}

abbrev nm11 : List (Str × NameKind) := [(Str.ofString ".0", .local), (Str.ofString "j", .local), (Str.ofString "texts", .free)]
def down5 : List PyData := [.int 4, .int 3, .int 2, .int 1, .int 0]

theorem pick5 (a b c d e : Value) : slicePick #[a, b, c, d, e] none none (some (-1)) = #[e, d, c, b, a] := by
  have h : sliceRange (sliceBounds none none (some (-1)) 5).1 (sliceBounds none none (some (-1)) 5).2.1 (sliceBounds none none (some (-1)) 5).2.2 = [4, 3, 2, 1, 0] := by decide +kernel
  unfold slicePick
  show (List.filterMap _ (sliceRange (sliceBounds none none (some (-1)) 5).1 (sliceBounds none none (some (-1)) 5).2.1 (sliceBounds none none (some (-1)) 5).2.2)).toArray = _
  rw [h]
  rfl
set_option maxHeartbeats 1000000 in
/-- laid = sorted(..) -/
theorem st_laid {p1 p2 p3 p4 p5 p6 p7 p8 p9 p10 p11 p12 p13 p14 p15 p16 : Pos} {k1 : Nat} {vt vx : Value} {Q : Flow → Shared → Prop}
    (V : LV env F) (ls : LS w S env F l cm s) (hh : A.handled = none) (hroom : A.depth + 1 < recursionLimit) (hu : A.units + 64 < cLine) (hfr : A.frames = some [env]) (hsm : ∀ n ∈ [n₁, n₂, n₃, n₄], small n)
    (c1 : cm.lookup (Str.ofString "trees") = some vt) (c2 : cm.lookup (Str.ofString "texts") = some vx)
    (kt : Kn (XX env F) s.heap vt (.list ((List.range 5).map fun (j : Nat) => .int (j : Int)))) (kx : Kn (XX env F) s.heap vx (.list ((List.range 18).map fun j => .str (textOf [n₁, n₂, n₃, n₄] j))))
    (h : ∀ v s₂, LS w S env F ((Str.ofString "laid", v) :: l) cm s₂ → (∀ u d, Kn (XX env F) s.heap u d → Kn (XX env F) s₂.heap u d) → Kn (XX env F) s₂.heap v (.list ([1, 4, 2, 0, 3].map fun j => .str (textOf [n₁, n₂, n₃, n₄] j))) → Q .next s₂) :
    wpR (model prog w) A (exec (.Assign [.Name (Str.ofString "laid") p1] (.Call (.Name (Str.ofString "sorted") p2) [.ListComp (.Subscript (.Name (Str.ofString "texts") p3) (.Name (Str.ofString "j") p4) p5)
      [⟨.Name (Str.ofString "j") p6, .Subscript (.Name (Str.ofString "trees") p7) (.Slice none none (some (.UnaryOp .USub (.Constant (.int 1) k1 p8) p9)) p10) p11, [], 0⟩] (scp nm11) p12] [⟨some (Str.ofString "key"), .Name (Str.ofString "_comparable_version") p13, p14⟩] p15) p16) env) Q (fun _ _ => False) s := by
  refine R.setName V.le ls rfl rfl ?_
  refine R.callKey V.le.e ls.gr.unrid (b := "sorted") rfl rfl rfl (by decide) (by decide) rfl ?_
  refine R.lcompL V ls hh (cl := [(Str.ofString "texts", F + 5)]) rfl (by decide) (by decide) rfl down5 (by decide) ?_ (fun _ => rfl) (fun i => some (.str (textOf [n₁, n₂, n₃, n₄] (4 - i)))) ?_ ?_
  · have kt' : Kn (XX env F) s.heap vt (intsD [0, 1, 2, 3, 4]) := kt
    obtain ⟨r, vs, rfl, hl, hi, hX⟩ := kt'.ints
    obtain ⟨t0, t1, t2, t3, t4, rfl⟩ := ints5 hi
    refine wpAny_Subscript_Slice_step (T := "list") list_getitem_lookup (ldc V.le.e (c := F + 6) (by rw [V.cells]; rfl) (ls.val V rfl c1) (wpAny_Slice (wpAny_evalPart_none (wpAny_evalPart_none (wpAny_evalPart_some (wpAny_UnaryOp (wpAny_Constant_int (neg_int ?_))))))) rfl)
    refine ⟨(hl.isList.push _).typeIs, wpAny_getItem_list_slice (hl.isList.push _) (Heap.IsSliceOf.new ..) .none .none (.int (-1) _) (by simp) ?_ (by rw [sizeLine_eq]; show 5 ≤ 16777216; decide)⟩
    have up : ∀ (b : Addr) (o o1 o2 : Obj), s.heap.get? b = some o → ((s.heap.push o1).push o2).get? b = some o := fun b o o1 o2 q => Heap.get?_push_of_some _ (Heap.get?_push_of_some _ q)
    have hsz : ∀ o1 : Obj, s.heap.get? (s.heap.push o1).objs.size = none := fun o1 => by
      cases q : s.heap.get? (s.heap.push o1).objs.size with
      | none => rfl
      | some o => have := Heap.lt_size q; rw [Heap.size_push] at this; exact absurd this (Nat.not_lt.mpr (Nat.le_succ _))
    refine ⟨_, [.int 4 t4, .int 3 t3, .int 2 t2, .int 1 t1, .int 0 t0], rfl, ⟨_, Heap.get?_push_size _ rfl, rfl, 0, congrArg (Data.seq · 0) (pick5 ..)⟩, fun z => ls.F0 (z ▸ hsz _), fun z => ls.lives V.le 46 X46 (z ▸ hsz _), Lt.up ls.gr fun b o q => up b o _ _ q, rfl, fun i u hu' => ?_⟩
    match i, hu' with
    | 0, q => cases q; exact ⟨_, rfl, fun _ _ => ⟨[], .int _ _, by simp⟩⟩
    | 1, q => cases q; exact ⟨_, rfl, fun _ _ => ⟨[], .int _ _, by simp⟩⟩
    | 2, q => cases q; exact ⟨_, rfl, fun _ _ => ⟨[], .int _ _, by simp⟩⟩
    | 3, q => cases q; exact ⟨_, rfl, fun _ _ => ⟨[], .int _ _, by simp⟩⟩
    | 4, q => cases q; exact ⟨_, rfl, fun _ _ => ⟨[], .int _ _, by simp⟩⟩
    | i + 5, q => simp at q
  · intro C i u d s₄ l' hd ec hC ls₄ hkn hn hx ku
    obtain ⟨hi, rfl⟩ : i < 5 ∧ d = .int (((4 - i : Nat) : Nat) : Int) := by
      match i, hd with
      | 0, q => cases q; exact ⟨by decide, rfl⟩
      | 1, q => cases q; exact ⟨by decide, rfl⟩
      | 2, q => cases q; exact ⟨by decide, rfl⟩
      | 3, q => cases q; exact ⟨by decide, rfl⟩
      | 4, q => cases q; exact ⟨by decide, rfl⟩
      | i + 5, q => simp [down5] at q
    obtain ⟨t, rfl⟩ := ku.int
    rw [tests_nil]
    refine R.pure ⟨rfl, Lt.refl ls₄.gr, fun d hd => ?_⟩
    cases hd
    refine R.of (itemC ec (c := F + 5) rfl (ls₄.val V rfl c2) (hkn _ _ kx) hn hx (d := .str (textOf [n₁, n₂, n₃, n₄] (4 - i))) (at18 _ (by omega)) (by omega) (fun u ku => ?_) rfl rfl)
    obtain ⟨t', rfl⟩ := ku.str
    exact ⟨Lt.refl ls₄.gr, [], .str _ _, by simp⟩
  intro s₁ r ls₁ lt₁ hk₁ kr
  have kr' : Kn (XX env F) s₁.heap (.ref r) (.list ([textOf [n₁, n₂, n₃, n₄] 4, textOf [n₁, n₂, n₃, n₄] 3, textOf [n₁, n₂, n₃, n₄] 2, textOf [n₁, n₂, n₃, n₄] 1, textOf [n₁, n₂, n₃, n₄] 0].map .str)) := kr
  obtain ⟨r', vs, as, hr', hpl, hrd, hrX, _⟩ := kr'.list
  cases hr'
  have hs := hrd.toStrs
  have hlen : vs.length = 5 := hrd.length
  refine ldg V.le.e ls₁.gr.unrid (v := .ref 44) rfl ?_ rfl (by decide)
  refine R.sortedKey V ls₁ hh hroom hfr (by omega) hpl.isList hs (css := (List.range 5).map (rkOf n₁ n₂ n₃ n₄)) (lt := ltk) (p := #[3, 0, 2, 4, 1]) (by rw [hlen]; rfl) (by omega) (by omega) (fun i x cs hx hc => ?_) (fun i j ci cj hi hj hij => ?_) (by rw [hlen]; exact run5) fun s' a ls' kp a0 hpl' => ?_
  · have hi : i < 5 := by
      rcases Nat.lt_or_ge i 5 with h | h
      · exact h
      · rw [List.getElem?_eq_none (by simpa using h)] at hc; cases hc
    have e1 : cs = rkOf n₁ n₂ n₃ n₄ i := by
      rw [List.getElem?_map, List.getElem?_range hi] at hc
      exact (Option.some.inj hc).symm
    have e2 : x = textOf [n₁, n₂, n₃, n₄] (4 - i) := by
      match i, hx with
      | 0, q => exact (Option.some.inj q).symm
      | 1, q => exact (Option.some.inj q).symm
      | 2, q => exact (Option.some.inj q).symm
      | 3, q => exact (Option.some.inj q).symm
      | 4, q => exact (Option.some.inj q).symm
      | i + 5, q => simp at q
    subst e1 e2
    exact ⟨text_size hsm (by omega), pieces_text hsm (by omega)⟩
  · have hb : ∀ (i : Nat) (c : List Cel), ((List.range 5).map (rkOf n₁ n₂ n₃ n₄))[i]? = some c → i < 5 ∧ c = rkOf n₁ n₂ n₃ n₄ i := fun i c hc => by
      have hi : i < 5 := by
        rcases Nat.lt_or_ge i 5 with h | h
        · exact h
        · rw [List.getElem?_eq_none (by simpa using h)] at hc; cases hc
      rw [List.getElem?_map, List.getElem?_range hi] at hc
      exact ⟨hi, (Option.some.inj hc).symm⟩
    obtain ⟨hi', rfl⟩ := hb i ci hi
    obtain ⟨hj', rfl⟩ := hb j cj hj
    exact rk_lt n₁ n₂ n₃ n₄ i j hi' hj' hij
  · have hk' : ∀ u d, Kn (XX env F) s₁.heap u d → Kn (XX env F) s'.heap u d := fun u d k => k.keep fun b o hb q => kp b o (fun z => hb (z ▸ X46)) (fun z => hb (z ▸ XF)) q
    refine ⟨ls', fun s₂ ls₂ hk₂ => h _ s₂ ls₂ (fun u d k => hk₂ u d (hk' u d (hk₁ u d k))) (hk₂ _ _ ?_)⟩
    refine ls₁.learn V.le (as := [a]) (.list hpl' ?_) (by intro b hb; rw [List.mem_singleton.mp hb]; exact a0)
    obtain ⟨t0, t1, t2, t3, t4, rfl⟩ := strs5 hs
    have : ∀ {u1 u2 u3 u4 u5 : Tok} {x1 x2 x3 x4 x5 : Str}, RdAll s'.heap [.str x1 u1, .str x2 u2, .str x3 u3, .str x4 u4, .str x5 u5] [.str x1, .str x2, .str x3, .str x4, .str x5] [] := fun {u1 u2 u3 u4 u5 x1 x2 x3 x4 x5} =>
      RdAll.cons (as := []) (bs := []) (.str x1 u1) (RdAll.cons (as := []) (bs := []) (.str x2 u2) (RdAll.cons (as := []) (bs := []) (.str x3 u3) (RdAll.cons (as := []) (bs := []) (.str x4 u4) (RdAll.cons (as := []) (bs := []) (.str x5 u5) .nil))))
    exact this
end
end Mine
end

section
namespace Mine
open PySem PySem.W PyProof.Rows PySem.Calls
open Sem (wp)

section
variable {M : Model} {A : Around} {E : Value → Shared → Prop} {s : Shared} {env : Env}
theorem R.Return {e pos} {Q : Flow → Shared → Prop} (h : wpR M A (eval e env) (fun v => Q (.ret v)) E s) : wpR M A (exec (.Return (some e) pos) env) Q E s := fun Γ p hΓ hc => by
  simp only [exec_Return_some, Sem.wp_bind', Sem.wp_cmd_standAt, Sem.wp_pure']; exact h Γ _ hΓ hc
theorem R.cmpV {l op r pos} {Q : Value → Shared → Prop}
    (h : wpR M A (eval l env) (fun a s₁ => wpR M A (eval r env) (fun b s₂ => wpAny M A (compareOp op a b) Q E s₂) E s₁) E s)
    (hm : behindInMarks op r = false := by with_unfolding_all rfl) : wpR M A (eval (.Compare l [op] [r] pos) env) Q E s := fun Γ p hΓ hc => by
  simp only [eval_Compare1, markedBehindIn_of_false hm, Sem.wp_bind', Sem.wp_holding, Sem.wp_cmd_standAt, Sem.wp_operate]
  exact Sem.wp_mono M Γ _ (fun a p₁ s₁ h₁ => Sem.wp_mono M Γ _ (fun b _ s₂ h₂ => h₂ Γ _ hΓ) (fun _ _ _ h' => h') _ _ (h₁ Γ p₁ hΓ hc))
    (fun _ _ _ h' => h') _ _ (h Γ p hΓ hc)
end

section
variable {prog : Program} {w : World} {A : Around} {E : Value → Shared → Prop} {S s : Shared} {env : Env} {F : Addr} {l cm : List (Str × Value)}
variable {n₁ n₂ n₃ n₄ : Int}

abbrev nm12 : List (Str × NameKind) := [(Str.ofString ".0", .local), (Str.ofString "ahead", .local), (Str.ofString "j", .local), (Str.ofString "aheads", .free), (Str.ofString "texts", .free), (Str.ofString "trees", .free)]
def headsOf : List Str := [Str.ofString "\"(\"", Str.ofString "\\(", Str.ofString ""]
def hit (i k : Nat) : Bool := (aheadOf k).cps.toList == (headsOf.getD i default).cps.toList
def withHead (T : Nat → Str) (i k : Nat) : Option PyData := if hit i k then some (.str (T k)) else none
theorem perm_is (T : Nat → Str) : (List.range 3).flatMap (fun i => (List.range 5).filterMap (withHead T i)) = [1, 4, 2, 0, 3].map fun j => .str (T j) := by kernel_rfl

set_option maxHeartbeats 1000000 in
/-- return laid == [..] -/
theorem st_return {p1 p2 p3 p4 p5 p6 p7 p8 p9 p10 p11 p12 p13 p14 p15 p16 p17 p18 : Pos} {k1 k2 k3 : Nat} {vt vx va vl : Value} {Q : Flow → Shared → Prop}
    (V : LV env F) (ls : LS w S env F l cm s) (hh : A.handled = none) (hu : A.units + 64 < cLine)
    (c1 : cm.lookup (Str.ofString "trees") = some vt) (c2 : cm.lookup (Str.ofString "texts") = some vx) (c3 : cm.lookup (Str.ofString "aheads") = some va) (h1 : l.lookup (Str.ofString "laid") = some vl)
    (kt : Kn (XX env F) s.heap vt (.list ((List.range 5).map fun (j : Nat) => .int (j : Int)))) (kx : Kn (XX env F) s.heap vx (.list ((List.range 18).map fun j => .str (textOf [n₁, n₂, n₃, n₄] j)))) (ka : Kn (XX env F) s.heap va (.list ((List.range 18).map fun j => .str (aheadOf j))))
    (kl : Kn (XX env F) s.heap vl (.list ([1, 4, 2, 0, 3].map fun j => .str (textOf [n₁, n₂, n₃, n₄] j))))
    (hok : SeqAt.shaped (.list ([1, 4, 2, 0, 3].map fun j => .str (textOf [n₁, n₂, n₃, n₄] j))) = true)
    (h : ∀ s₂, LS w S env F l cm s₂ → Q (.ret (.bool true)) s₂) :
    wpR (model prog w) A (exec (.Return (some (.Compare (.Name (Str.ofString "laid") p1) [.Eq] [.ListComp (.Subscript (.Name (Str.ofString "texts") p2) (.Name (Str.ofString "j") p3) p4)
      [⟨.Name (Str.ofString "ahead") p5, .List [.Constant (.str (Str.ofString "\"(\"")) k1 p6, .Constant (.str (Str.ofString "\\(")) k2 p7, .Constant (.str (Str.ofString "")) k3 p8] p9, [], 0⟩,
       ⟨.Name (Str.ofString "j") p10, .Name (Str.ofString "trees") p11, [.Compare (.Subscript (.Name (Str.ofString "aheads") p12) (.Name (Str.ofString "j") p13) p14) [.Eq] [.Name (Str.ofString "ahead") p15] p16], 0⟩] (scp nm12) p17] p18)) p18) env) Q (fun _ _ => False) s := by
  refine R.Return (R.cmpV (R.of (ld V.le.e ls.ns h1 ?_ rfl)))
  have kt' : Kn (XX env F) s.heap vt (intsD [0, 1, 2, 3, 4]) := kt
  obtain ⟨tl, tvs, rfl, htl, _, htX⟩ := kt'.ints
  have htl0 : s.heap.get? tl ≠ none := by obtain ⟨_, q⟩ := htl; rw [q]; simp
  refine R.lcomp2 V ls hh (cl := [(Str.ofString "trees", F + 6), (Str.ofString "texts", F + 5), (Str.ofString "aheads", F + 4)]) rfl (by decide) (by decide) rfl rfl (by decide) (headsOf.map .str) (by decide)
    (wpAny_List (wpAny_items_cons (wpAny_Constant_str (wpAny_items_cons (wpAny_Constant_str (wpAny_items_cons (wpAny_Constant_str (wpAny_items_nil ⟨by rw [sizeLine_eq]; show 3 ≤ 16777216; decide, ?_⟩)))))))) (fun _ => rfl) (fun _ _ => rfl) (fun i => (List.range 5).filterMap (withHead (textOf [n₁, n₂, n₃, n₄]) i)) (fun i => Nat.le_trans (List.length_filterMap_le _ _) (by simp)) ?_ ?_
  · refine ⟨_, _, rfl, isl_push, fun z => ls.F0 (z ▸ get_size _), fun z => ls.lives V.le 46 X46 (z ▸ get_size _), Lt.up ls.gr fun b o q => Heap.get?_push_of_some _ q, ?_⟩
    have : ∀ {u1 u2 u3 : Tok} {x1 x2 x3 : Str}, RdAll s.heap [.str x1 u1, .str x2 u2, .str x3 u3] [.str x1, .str x2, .str x3] [] := fun {u1 u2 u3 x1 x2 x3} =>
      RdAll.cons (as := []) (bs := []) (.str x1 u1) (RdAll.cons (as := []) (bs := []) (.str x2 u2) (RdAll.cons (as := []) (bs := []) (.str x3 u3) .nil))
    exact this
  · intro C i u d s₄ l' hd ec hC ls₄ hkn hsame hn hx ku
    have hdn : d = .str (headsOf.getD i default) := by
      rw [List.getElem?_map] at hd
      obtain ⟨n, hn', rfl⟩ := Option.map_eq_some_iff.mp hd
      rw [List.getD_eq_getElem?_getD, hn']; rfl
    subst hdn
    obtain ⟨tu, rfl⟩ : ∃ t, u = .str (headsOf.getD i default) t := by
      cases ku with | str _ t => exact ⟨t, rfl⟩
    obtain ⟨tl', tvs', e', htl', hti, htX'⟩ := (hkn _ _ kt').ints
    cases e'
    refine ldc ec (c := F + 6) rfl (ls₄.val V rfl c1) ⟨tl, tvs', [0, 1, 2, 3, 4].map .int, withHead (textOf [n₁, n₂, n₃, n₄]) i, rfl, htl'.isList, fun z => htX (z ▸ XF), fun z => htX (z ▸ X46), .inr htl0, Lt.refl ls₄.gr, RdAll.ints hti, by simp, rfl, ?_⟩ rfl
    intro k u2 d2 s₇ l₂ hd2 ls₇ hk₇ hn₇ hx2 hxx ku2
    obtain ⟨hk5, rfl⟩ := five hd2
    obtain ⟨t2, rfl⟩ : ∃ t, u2 = .int (k : Int) t := by
      cases ku2 with | int _ t => exact ⟨t, rfl⟩
    rw [tests_one]
    refine wpAny_isTrue_Compare1 (itemC ec (c := F + 4) rfl (ls₇.val V rfl c3) (hk₇ _ _ ka) hn₇ hx2 (d := .str (aheadOf k)) (at18 _ (by omega)) (by omega) (fun v kv => ?_) rfl rfl)
    obtain ⟨tv, rfl⟩ := kv.str
    refine ld ec hn₇ hxx (P.eq_str (wpAny_truthy_bool ⟨?_, Lt.refl ls₇.gr, fun d hd => ?_⟩)) rfl
    · show hit i k = (withHead _ i k).isSome
      unfold withHead
      cases hit i k <;> rfl
    · by_cases hb : hit i k = true
      · unfold withHead at hd
        rw [if_pos hb] at hd
        cases hd
        refine itemC ec (c := F + 5) rfl (ls₇.val V rfl c2) (hk₇ _ _ kx) hn₇ hx2 (d := .str (textOf [n₁, n₂, n₃, n₄] k)) (at18 _ (by omega)) (by omega) (fun v kv => ?_) rfl rfl
        obtain ⟨tv, rfl⟩ := kv.str
        exact ⟨Lt.refl ls₇.gr, .str _ _⟩
      · unfold withHead at hd
        rw [if_neg hb] at hd; cases hd
  intro s₁ r ls₁ lt₁ hk₁ kr
  rw [show (headsOf.map PyData.str).length = 3 from rfl, perm_is] at kr
  exact eq_same (hk₁ _ _ kl) kr hok hu (h s₁ ls₁)
end
end Mine
end

section
namespace Mine
open PySem PySem.W PyProof.Rows PySem.Calls
open Sem (wp)

theorem strs_shaped {xs : List Str} (h : ∀ x ∈ xs, PyData.strOk x = true) : PyData.canLayAll0 (xs.map .str) = true ∧ PyData.depthAll (xs.map .str) = 0 := by
  induction xs with
  | nil => exact ⟨rfl, rfl⟩
  | cons x xs ih =>
    obtain ⟨h1, h2⟩ := ih fun y hy => h y (List.mem_cons_of_mem _ hy)
    refine ⟨?_, ?_⟩
    · rw [List.map_cons, PyData.canLayAll0, PyData.canLay0, h x (List.mem_cons_self ..), h1]; rfl
    · rw [List.map_cons, PyData.depthAll, PyData.depth, h2]; rfl
theorem shaped_strs {xs : List Str} (h : ∀ x ∈ xs, PyData.strOk x = true) : SeqAt.shaped (.list (xs.map .str)) = true := by
  obtain ⟨h1, h2⟩ := strs_shaped h
  unfold SeqAt.shaped
  rw [PyData.canLay0, h1, PyData.depth, h2]
  rfl
theorem ok_text {n₁ n₂ n₃ n₄ : Int} (hsm : ∀ n ∈ [n₁, n₂, n₃, n₄], small n) {j : Nat} (hj : j < 18) : PyData.strOk (textOf [n₁, n₂, n₃, n₄] j) = true := strOk_of fun c hc => by
  have := text_signs hsm hj c hc
  omega
theorem ok_texts {n₁ n₂ n₃ n₄ : Int} (hsm : ∀ n ∈ [n₁, n₂, n₃, n₄], small n) : SeqAt.shaped (.list ([1, 4, 2, 0, 3].map fun j => .str (textOf [n₁, n₂, n₃, n₄] j))) = true := by
  have := shaped_strs (xs := [1, 4, 2, 0, 3].map fun j => textOf [n₁, n₂, n₃, n₄] j) fun x hx => by
    obtain ⟨j, hj, rfl⟩ := List.mem_map.mp hx
    have : ∀ j ∈ [1, 4, 2, 0, 3], j < 18 := by decide
    exact ok_text hsm (this j hj)
  exact this
theorem ok_plat {n₁ n₂ n₃ n₄ : Int} (hsm : ∀ n ∈ [n₁, n₂, n₃, n₄], small n) (j : Nat) : PyData.strOk (platAns n₁ n₂ n₃ n₄ j) = true := strOk_of fun c hc => by
  rw [ans_list] at hc
  have hd : ∀ n, small n → c ∈ dg n → c < 128 := fun n h hc => by have := dg_range h c hc; omega
  rcases List.mem_append.mp hc with hc | hc
  · by_cases h : (aheadOf j).cps.toList = []
    · rw [if_pos h] at hc; cases hc
    · rw [if_neg h] at hc; rw [List.mem_singleton.mp hc]; decide
  · simp only [List.mem_append, List.mem_cons] at hc
    rcases hc with hc | rfl | hc | rfl | hc | rfl | hc
    · exact hd _ (hsm _ (by simp)) hc
    · decide
    · exact hd _ (hsm _ (by simp)) hc
    · decide
    · exact hd _ (hsm _ (by simp)) hc
    · decide
    · exact hd _ (hsm _ (by simp)) hc
theorem ok_plats {n₁ n₂ n₃ n₄ : Int} (hsm : ∀ n ∈ [n₁, n₂, n₃, n₄], small n) : SeqAt.shaped (.list ((List.range 5).map fun j => .str (platAns n₁ n₂ n₃ n₄ j))) = true := by
  have := shaped_strs (xs := (List.range 5).map fun j => platAns n₁ n₂ n₃ n₄ j) fun x hx => by
    obtain ⟨j, hj, rfl⟩ := List.mem_map.mp hx
    exact ok_plat hsm j
  exact this

/-- cells whose texts are plain -/
def celOk (c : Cel) : Bool := match c with
  | .num _ => true
  | .txt x => PyData.strOk x
theorem cels_shaped : ∀ {cs : List Cel}, (∀ c ∈ cs, celOk c = true) → PyData.canLayAll0 (cs.map celD) = true ∧ PyData.depthAll (cs.map celD) = 0
  | [], _ => ⟨rfl, rfl⟩
  | c :: cs, h => by
    obtain ⟨h1, h2⟩ := cels_shaped (cs := cs) fun y hy => h y (List.mem_cons_of_mem _ hy)
    have hc := h c (List.mem_cons_self ..)
    cases c with
    | num n => exact ⟨by rw [List.map_cons, celD, PyData.canLayAll0, PyData.canLay0, h1]; rfl, by rw [List.map_cons, celD, PyData.depthAll, PyData.depth, h2]; rfl⟩
    | txt x =>
      have hc' : PyData.strOk x = true := hc
      exact ⟨by rw [List.map_cons, celD, PyData.canLayAll0, PyData.canLay0, hc', h1]; rfl, by rw [List.map_cons, celD, PyData.depthAll, PyData.depth, h2]; rfl⟩
theorem lists_shaped : ∀ {css : List (List Cel)}, (∀ cs ∈ css, ∀ c ∈ cs, celOk c = true) → PyData.canLayAll0 (css.map fun cs => PyData.list (cs.map celD)) = true ∧ PyData.depthAll (css.map fun cs => PyData.list (cs.map celD)) ≤ 1
  | [], _ => ⟨rfl, by decide⟩
  | cs :: css, h => by
    obtain ⟨h1, h2⟩ := lists_shaped (css := css) fun y hy => h y (List.mem_cons_of_mem _ hy)
    obtain ⟨h3, h4⟩ := cels_shaped (h cs (List.mem_cons_self ..))
    refine ⟨by rw [List.map_cons, PyData.canLayAll0, PyData.canLay0, h3, h1]; rfl, ?_⟩
    rw [List.map_cons, PyData.depthAll, PyData.depth, h4]
    omega
theorem ok_ranks {n₁ n₂ n₃ n₄ : Int} : SeqAt.shaped (.list ((List.range 5).map fun j => ranksD [n₁, n₂, n₃, n₄] j)) = true := by
  have key : ∀ cs ∈ (List.range 5).map fun j => lawRanks [n₁, n₂, n₃, n₄] (wayOf j) (aheadOf j), ∀ c ∈ cs, celOk c = true := by
    intro cs hcs
    obtain ⟨j, hj, rfl⟩ := List.mem_map.mp hcs
    have hj := List.mem_range.mp hj
    have e : lawRanks [n₁, n₂, n₃, n₄] (wayOf j) (aheadOf j) = rkOf n₁ n₂ n₃ n₄ (4 - j) := by
      unfold rkOf
      rw [show 4 - (4 - j) = j by omega]
    rw [e]
    have hi : 4 - j = 0 ∨ 4 - j = 1 ∨ 4 - j = 2 ∨ 4 - j = 3 ∨ 4 - j = 4 := by omega
    have P : ∀ a : Fin 4, PyData.strOk (txt' (par ((a.val : Nat) : Int) ++ [40])) = true ∧ PyData.strOk (txt' (par ((a.val : Nat) : Int))) = true := by decide +kernel
    have tl : ∀ a b c d : Nat, a < 4 → b < 4 → c < 4 → d < 4 → ∀ x ∈ tail3 n₂ n₃ n₄ a b c d, celOk x = true := by
      intro a b c d ha hb hc hd x hx
      have q1 := (P ⟨a, ha⟩).1
      have q2 := (P ⟨b, hb⟩).1
      have q3 := (P ⟨c, hc⟩).1
      have q4 := (P ⟨d, hd⟩).2
      simp only [tail3, List.mem_cons, List.not_mem_nil, or_false] at hx
      rcases hx with rfl | rfl | rfl | rfl | rfl | rfl | rfl | rfl | rfl | rfl | rfl | rfl | rfl | rfl <;> first | rfl | exact q1 | exact q2 | exact q3 | exact q4
    intro c hc
    rcases hi with h | h | h | h | h <;> rw [h] at hc
    · rw [rk0] at hc
      rcases List.mem_append.mp hc with hc | hc
      · simp only [List.mem_cons, List.not_mem_nil, or_false] at hc
        rcases hc with rfl | rfl | rfl | rfl <;> first | rfl | (show PyData.strOk _ = true; decide +kernel)
      · refine tl _ _ _ _ ?_ ?_ ?_ ?_ c hc <;> decide
    · rw [rk1] at hc
      rcases List.mem_append.mp hc with hc | hc
      · simp only [List.mem_cons, List.not_mem_nil, or_false] at hc
        rcases hc with rfl | rfl <;> rfl
      · refine tl _ _ _ _ ?_ ?_ ?_ ?_ c hc <;> decide
    · rw [rk2] at hc
      rcases List.mem_append.mp hc with hc | hc
      · simp only [List.mem_cons, List.not_mem_nil, or_false] at hc
        rcases hc with rfl | rfl | rfl | rfl <;> first | rfl | (show PyData.strOk _ = true; decide +kernel)
      · refine tl _ _ _ _ ?_ ?_ ?_ ?_ c hc <;> decide
    · rw [rk3] at hc
      rcases List.mem_append.mp hc with hc | hc
      · simp only [List.mem_cons, List.not_mem_nil, or_false] at hc
        rcases hc with rfl | rfl | rfl | rfl <;> first | rfl | (show PyData.strOk _ = true; decide +kernel)
      · refine tl _ _ _ _ ?_ ?_ ?_ ?_ c hc <;> decide
    · rw [rk4] at hc
      rcases List.mem_append.mp hc with hc | hc
      · simp only [List.mem_cons, List.not_mem_nil, or_false] at hc
        rcases hc with rfl | rfl <;> rfl
      · refine tl _ _ _ _ ?_ ?_ ?_ ?_ c hc <;> decide
  obtain ⟨h1, h2⟩ := lists_shaped key
  rw [List.map_map] at h1 h2
  show SeqAt.shaped (.list ((List.range 5).map fun j => .list ((lawRanks [n₁, n₂, n₃, n₄] (wayOf j) (aheadOf j)).map celD))) = true
  unfold SeqAt.shaped
  have h1' : PyData.canLay0 (.list ((List.range 5).map fun j => .list ((lawRanks [n₁, n₂, n₃, n₄] (wayOf j) (aheadOf j)).map celD))) = true := by rw [PyData.canLay0]; exact h1
  have h2' : PyData.depth (.list ((List.range 5).map fun j => .list ((lawRanks [n₁, n₂, n₃, n₄] (wayOf j) (aheadOf j)).map celD))) ≤ 2 := by rw [PyData.depth]; exact Nat.succ_le_succ h2
  rw [h1', Bool.true_and]
  exact decide_eq_true (by omega)
theorem num_small (sc : List Int) (i : Nat) : small (numAt' sc i) := ⟨Int.fmod_nonneg_of_pos _ (by decide), Int.fmod_lt_of_pos _ (by decide)⟩

section
variable {prog : Program} {w : World} {A : Around} {E : Value → Shared → Prop} {S : Shared}

set_option maxHeartbeats 4000000 in
/-- the law answers True -/
theorem law_true {ax : Addr} {vs : List Value} {sc : List Int} {Q : Value → Shared → Prop} (g : Gr w S.heap) (hh : A.handled = none) (hroom : A.depth + 8 < recursionLimit) (hb : AllBare S.gens) (hfr : A.frames = some []) (hu : A.units + 80 < cLine)
    (hax : S.heap.IsList ax vs.toArray) (h46 : ax ≠ 46) (hi : IntsAre vs sc) (hlen : vs.length ≤ 63)
    (hQ : ∀ s' env F l cm, LS w S env F l cm s' → Q (.bool true) s') : wpR (model prog w) A (PySem.call (.ref 98) [.ref ax]) Q E S := by
  refine R.lawIn g (by omega) hb rfl rfl rfl ⟨rfl, rfl, rfl, rfl, rfl, rfl, rfl⟩ rfl fun s₁ env F V ls => ?_
  have hfr' : (A.deeper env).frames = some [env] := by
    show A.frames.map _ = _
    rw [hfr]; rfl
  have hh' : (A.deeper env).handled = none := hh
  have hd' : (A.deeper env).depth = A.depth + 1 := rfl
  have hu' : (A.deeper env).units + 64 < cLine := by
    show A.units + _ + 64 < cLine
    omega
  generalize A.deeper env = A' at *
  refine R.execs (st_numbers V ls hh' rfl hax h46 hi hlen fun v₁ s₂ ls₂ kn => ?_)
  have sm := num_small sc
  have kn : Kn (XX env F) s₂.heap v₁ (intsD [numAt' sc 0, numAt' sc 1, numAt' sc 2, numAt' sc 3]) := kn
  have hsm : ∀ n ∈ [numAt' sc 0, numAt' sc 1, numAt' sc 2, numAt' sc 3], small n := by
    intro n hn
    simp only [List.mem_cons, List.not_mem_nil, or_false] at hn
    rcases hn with rfl | rfl | rfl | rfl <;> exact sm _
  generalize numAt' sc 0 = n₁ at *
  generalize numAt' sc 1 = n₂ at *
  generalize numAt' sc 2 = n₃ at *
  generalize numAt' sc 3 = n₄ at *
  refine R.execs (st_ways V ls₂ hh' fun v₂ s₃ ls₃ k₃ kw => ?_)
  refine R.execs (st_aheads V ls₃ hh' fun v₃ s₄ ls₄ k₄ ka => ?_)
  have kw₄ := k₄ _ _ kw
  have kn₄ := k₄ _ _ (k₃ _ _ kn)
  refine R.execs (st_texts V ls₄ hh' (by omega) rfl rfl rfl kn₄ kw₄ ka rfl hsm fun v₄ s₅ ls₅ k₅ kx => ?_)
  refine R.execs (st_told V ls₅ hh' (by omega) rfl rfl kx (k₅ _ _ kw₄) rfl hsm fun v₅ u₅ s₆ ls₆ k₆ kd kt => ?_)
  refine R.execs (st_if1 V ls₆ hh' hu' rfl rfl kt kd fun s₇ ls₇ k₇ => ?_)
  have kn₇ := k₇ _ _ (k₆ _ _ (k₅ _ _ kn₄))
  have kw₇ := k₇ _ _ (k₆ _ _ (k₅ _ _ kw₄))
  have ka₇ := k₇ _ _ (k₆ _ _ (k₅ _ _ ka))
  have kx₇ := k₇ _ _ (k₆ _ _ kx)
  have kt₇ := k₇ _ _ kt
  refine R.execs (st_four V ls₇ hh' rfl kn₇ hsm fun t₁ t₂ t₃ t₄ s₈ ls₈ k₈ => ?_)
  refine R.execs (st_name V ls₈ hsm rfl rfl rfl rfl fun tn s₉ ls₉ k₉ => ?_)
  have kk : ∀ u d, Kn (XX env F) s₇.heap u d → Kn (XX env F) s₉.heap u d := fun u d k => k₉ _ _ (k₈ _ _ k)
  refine R.execs (st_if2 V ls₉ hh' (by omega) hu' hsm rfl rfl rfl rfl rfl rfl rfl rfl (kk _ _ kt₇) (kk _ _ kx₇) (kk _ _ ka₇) (ok_plats hsm) fun s₁₀ ls₁₀ k₁₀ => ?_)
  have kk : ∀ u d, Kn (XX env F) s₇.heap u d → Kn (XX env F) s₁₀.heap u d := fun u d k => k₁₀ _ _ (kk _ _ k)
  refine R.execs (st_due V ls₁₀ hh' (by omega) rfl rfl rfl rfl (kk _ _ kt₇) (kk _ _ kn₇) (kk _ _ kw₇) (kk _ _ ka₇) rfl ?hpos fun v₁₁ s₁₁ ls₁₁ k₁₁ kdu => ?_)
  case hpos => rfl
  have kk : ∀ u d, Kn (XX env F) s₇.heap u d → Kn (XX env F) s₁₁.heap u d := fun u d k => k₁₁ _ _ (kk _ _ k)
  refine R.execs (st_if3 V ls₁₁ hh' (by omega) hu' hfr' hsm rfl rfl rfl rfl rfl (kk _ _ kt₇) (kk _ _ kx₇) (kk _ _ kn₇) kdu ok_ranks fun s₁₂ ls₁₂ k₁₂ => ?_)
  have kk : ∀ u d, Kn (XX env F) s₇.heap u d → Kn (XX env F) s₁₂.heap u d := fun u d k => k₁₂ _ _ (kk _ _ k)
  refine R.execs (st_laid V ls₁₂ hh' (by omega) hu' hfr' hsm rfl rfl (kk _ _ kt₇) (kk _ _ kx₇) fun v₁₃ s₁₃ ls₁₃ k₁₃ kl => ?_)
  have kk : ∀ u d, Kn (XX env F) s₇.heap u d → Kn (XX env F) s₁₃.heap u d := fun u d k => k₁₃ _ _ (kk _ _ k)
  refine R.execs (st_return V ls₁₃ hh' hu' rfl rfl rfl rfl (kk _ _ kt₇) (kk _ _ kx₇) (kk _ _ ka₇) kl (ok_texts hsm) fun s' ls' => ?_)
  exact hQ s' env F _ _ ls'
end
end Mine
end

section
namespace Mine
open PySem PySem.W PyProof.Rows PySem.Calls
open Sem (wp)

/-- the walk that the head asks for: the call, where the claim's caller is on the stack -/
abbrev WalkR (q : Program) (loose : List Str) (XP : (Str → Option Value) → Heap → Prop) (YP : World → Heap → Prop) (r : RowW) (d : DefRec) (kwd : List (Str × PySem.Expr)) : Prop :=
  ∀ (w : World) (s₀ s₁ : Shared) (mg mb : Str → Option Value), Ground q loose r.records XP w s₀ mg mb s₁.heap → YP w s₁.heap → ∀ (a : Addr) (o : Obj) (pm cd doc dV kV : Value), s₁.heap.get? a = some o →
    o.data = .func { docDef d.name d.params d.body d.scope pm cd doc with defaults := dV, kwdefaults := kV } → s₁.heap.CodeRec cd d.name → Dflts mg s₁.heap d.params kwd dV kV → mg d.name = some (.ref a) → s₁.gens = #[] →
    ∀ (args : List WData) (vals : List Value) (as : List Addr), r.claim.pre args = true → WData.layableAll args = true → ReadsAllW r.records (classAt s₀.heap) s₁.heap vals args as → WellAll w.params s₁.heap vals args → (∀ a ∈ as, (a == sysModules) = false) →
      wpR (model r.prog w) callerA (PySem.call (.ref a) vals) (fun v s' => GoodWG r.claim (classAt s₀.heap) (ExcName.means s₀.heap) args s₁ (.ok (.ret v)) s')
        (fun e s' => GoodWG r.claim (classAt s₀.heap) (ExcName.means s₀.heap) args s₁ (.error e) s') s₁

/-- the claim's own thread, from a call that is known where the caller stands -/
theorem from_caller {c : ClaimW} {w : World} {s : Shared} {name : Str} {mg : Str → Option Value} {free : Addr → Prop} {gens : Prop} {kept : Heap → Prop} (hz : s.asleep) (hgens : s.gens = #[])
    (hspec : ∀ args, c.pre args = true → WData.layableAll args = true → ∀ ord : List DictEntry → List DictEntry, (∀ l, (ord l).Perm l) →
      ∃ vs s₁ f, layAllW c.records (classAt s.heap) w.params ord args s = some (vs, s₁) ∧ s₁.heap.Ns mainGlobals mg ∧ mg name = some f ∧
        wpR (model c.prog w) callerA (PySem.call f vs) (fun v s' => c.Ends s args vs s₁ (.ok (.ret v)) s' ∧ s'.os = s.os ∧ AllBare s'.gens ∧ kept s'.heap)
          (fun e s' => c.Ends s args vs s₁ (.error e) s' ∧ s'.os = s.os ∧ AllBare s'.gens ∧ kept s'.heap) s₁) :
    c.CallFrom (fun vs => ⟨(do match ← nsGet mainNs name with
      | some f => do ret (← PySem.call f vs)
      | none => unsupported "claim.caller:no-such-global"), .builtin "claim.caller" {}, default, []⟩) w free gens kept s := by
  intro args hpre hlay ord hord
  obtain ⟨vs, s₁, f, hlaid, hns, hf, hcode⟩ := hspec args hpre hlay ord hord
  have hal := layAllW_rest _ _ _ hlaid
  have key : wp (model c.prog w) ⟨.builtin "claim.caller" {}, none, none, [], none⟩ (do match ← nsGet mainNs name with
      | some f => do ret (← PySem.call f vs)
      | none => unsupported "claim.caller:no-such-global")
      (Sem.finPost (model c.prog w) ⟨.builtin "claim.caller" {}, none, none, [], none⟩ fun r s' => (c.Ends s args vs s₁ r s' ∧ s'.os = s.os ∧ kept s'.heap) ∧ leftWithCleanup s'.gens = false)
      (fun e _ s' => (c.Ends s args vs s₁ (.error e) s' ∧ s'.os = s.os ∧ kept s'.heap) ∧ leftWithCleanup s'.gens = false) default s₁ := by
    rw [Sem.wp_bind']
    refine Sem.wp_mono _ _ _ (fun o p s' h => ?_) (fun _ _ _ h => h) _ _ (wpAny_nsGet (M := model c.prog w) (A := callerA) (E := fun e s' => (c.Ends s args vs s₁ (.error e) s' ∧ s'.os = s.os ∧ kept s'.heap) ∧ leftWithCleanup s'.gens = false) (Q := fun o s' => o = some f ∧ s' = s₁) hns ⟨hf, rfl⟩ _ default caller_in)
    obtain ⟨rfl, rfl⟩ := h
    show wp _ _ (PySem.call f vs >>= fun v => ret v) _ _ _ _
    rw [Sem.wp_bind']
    refine Sem.wp_mono _ _ _ (fun v p' s' h => ?_) (fun e p' s' h => ?_) _ _ (hcode _ p caller_in rfl)
    · exact ⟨⟨h.1, h.2.1, h.2.2.2⟩, leftWithCleanup_false_of_bare h.2.2.1⟩
    · exact ⟨⟨h.1, h.2.1, h.2.2.2⟩, leftWithCleanup_false_of_bare h.2.2.1⟩
  obtain ⟨k, r, s'', s', hsched, hrun, hfo, ⟨hcase, hos, hkp⟩⟩ := wp_halts_full (M := model c.prog w) (R := fun r s' => c.Ends s args vs s₁ r s' ∧ s'.os = s.os ∧ kept s'.heap) (Shared.asleep_of_life hal.2.2.2 hz) key
  obtain ⟨eh, _, _, eo, _⟩ := Shared.forget_eq hfo
  have hcase := hcase.congr eh
  have hkp : kept s'.heap := by rw [eh]; exact hkp
  rw [← eo] at hos
  have hlife : s'.heap.life = s.heap.life := (runN_life _ _ _ hrun).trans hal.2.2.2
  refine ⟨vs, s₁, hlaid, k, _, s', hsched, ?_, (fun _ i x hx => by rw [hgens] at hx; simp at hx), hkp, by rw [hlife], Shared.rest_eq hos⟩
  rcases hcase with ⟨v, rfl, d1, d2, d3, d4, d5⟩ | ⟨e, ob, cls, rfl, d1, d2, d3, d4, d5⟩
  · exact .inl ⟨v, rfl, d1, d2, d3, fun b o y _ => d4 b o y, d5⟩
  · exact .inr ⟨e, ob, cls, rfl, d1, d2, d3, d4, fun b o y _ => d5 b o y⟩

theorem holds_R {r : OpenRow} {q : Program} {loose : List Str} {Xt : Shared → Bool} {XP : (Str → Option Value) → Heap → Prop} {α : Type} {Yf : Shared → α} {Ya : World → α} {YP : World → Heap → Prop} {d : DefRec} {kwd : List (Str × PySem.Expr)} {N : Nat}
    (left : LeftO r.prog q loose Xt Yf Ya N) (hY : ∀ w s, Yf s = Ya w → YP w s.heap) (hYk : ∀ w h h', YP w h → (∀ b o, h.get? b = some o → h'.get? b = some o) → YP w h')
    (hX : ∀ s, Xt s = true → XP (s.heap.nsMap mainGlobals) s.heap) (hXk : ∀ mg h h', XP mg h → (∀ b o, h.get? b = some o → h'.get? b = some o) → XP mg h')
    (hdef : defOf q r.name = some (d, kwd)) (hp : r.prog.theDef r.name = some (d.params, d.body, d.scope)) (hk : kwWritten? d.params.kwonlyargs d.params.kw_defaults = some kwd) (hRf : ∀ s, Xt s = true → RecFacts r.records s.heap) (hwr : (!r.writes || r.records.isEmpty) = true)
    (k1 : r.wellSaid = true) (ok : (chainsOk q && opensWell r.prog && (frees r.toRowW && r.within.isEmpty)) = true) (hb : r.prog.bare) (hw : r.toRowW.promised)
    (call : WalkR q loose XP YP r.toRowW d kwd) : r.Holds := by
  obtain ⟨ok', k5⟩ := Bool.and_eq_true_iff.mp ok
  obtain ⟨hch, o1⟩ := Bool.and_eq_true_iff.mp ok'
  obtain ⟨k5, k6⟩ := Bool.and_eq_true_iff.mp k5
  obtain ⟨hsame, hu, ha, hap, hm⟩ := frees_parts k5
  refine ⟨k1, hw, ⟨⟨hb, o1, by show r.toRowW.makers.map _ = []; rw [hm]; rfl⟩, hw.witness, fun w => ⟨(left.behind hX hch w).1, fun s' hs' => ?_⟩⟩⟩
  obtain ⟨s₀, hf, hg0, s, hT, hz, hgens, hg, GX, y⟩ := (left.behind (XP := fun mg h => XP mg h ∧ RecFacts r.records h) (fun s hs => ⟨hX s hs, hRf s hs⟩) hch w).2 s' hs'
  have RF := GX.X.2
  have G0 : Ground q loose [] XP w s (s.heap.nsMap mainGlobals) (s.heap.nsMap builtinsNs) s.heap := ⟨GX.T, GX.B, GX.D, GX.TE, GX.TD, GX.W, GX.X.1, GX.cls, GX.has, GX.apart, GX.once, GX.K⟩
  refine ⟨s₀, hf, hg0, s, hT, (fun n hn => ?_), RF.1, RF.2.1, ?_⟩
  · obtain rfl : n = r.name := by split at hn <;> simp_all
    exact pinned_of_view hg G0 hdef hp hk
  have hgens : s.gens = #[] := Array.eq_empty_of_size_eq_zero (beq_iff_eq.mp hgens)
  have G : Ground q loose r.records XP w s _ _ s.heap := RF.ground G0
  refine from_caller (c := r.toRowW.claim) (name := r.name) (mg := s.heap.nsMap mainGlobals) hz hgens fun args hpre hlay ord hord => ?_
  obtain ⟨⟨vs, s₁⟩, hlaid⟩ := Option.isSome_iff_exists.mp (layAllW_isSome (P := w.params) (ord := ord) G.has args r.args s (pre_splitW hpre).1)
  have keeps := layAllW_keeps _ _ _ hlaid
  have hal := layAllW_rest _ _ _ hlaid
  obtain ⟨as, hrd, hin, hold⟩ := reads_layAllW hord _ _ _ hlaid hlay s₁.heap (fun _ _ e => e)
  have L : Laid r.records w s s₁ args vs as := ⟨⟨ord, hord, hlaid⟩, hrd, hin, hold, keeps, hal.1.trans hgens, hal.2.2.1⟩
  have G₁ := G.keeps hXk keeps
  obtain ⟨a, o, pm, cd, doc, dV, kV, h1, h2, h3, h4, h5⟩ := G₁.fn hdef
  have hi := ident_freeW hu ha hap
  have hwi : r.toRowW.claim.within = [] := List.isEmpty_iff.mp k6
  have fin : ∀ (res : Result) s', GoodWG r.toRowW.claim (classAt s.heap) (ExcName.means s.heap) args s₁ res s' →
      r.toRowW.claim.Ends s args vs s₁ res s' ∧ s'.os = s.os ∧ AllBare s'.gens ∧ (r.writes = true → namesKept r.toRowW.claim.prog r.keeps s.heap s'.heap ∧
        ∀ x ∈ r.toRowW.claim.records, ∀ a, classAt s.heap x.1 = some a → recordClass s'.heap a x.1 (x.2.map (·.1)) = true) := fun res s' g =>
    have z := g.laid (c := r.toRowW.claim) hsame hwi hi L
    ⟨z.1, z.2.1, z.2.2, fun q => ⟨namesKept_of hT hg _ keeps g.2.1.old, noTable hwr q⟩⟩
  refine ⟨vs, s₁, .ref a, hlaid, G₁.T.g, h1, ?_⟩
  intro Γ p hΓ hc
  exact Sem.wp_mono _ Γ _ (fun v _ s' g => fin _ s' g) (fun e _ s' g => fin _ s' g) _ _ (call w s s₁ _ _ G₁ (hYk _ _ _ (hY w s y) keeps) a o pm cd doc dV kV h2 h3 h4 h5 (defOf_name hdef ▸ h1) L.gens args vs as hpre hlay L.reads L.well (L.low G.low) Γ p hΓ hc)


noncomputable abbrev HK : Hook := kHook hd.heap_39 [2, 3, 6, 11, 12, 35, 36, 37, 38, 40, 41, 43, 44, 45, 47, 48, 50, 51, 52, 54, 55, 57, 58, 59, 61, 62, 64, 65,
          66, 68, 69, 71, 72, 73, 75, 76, 78, 79, 80, 82, 83, 85, 86, 87, 89, 90, 92, 93, 94, 97, 98] (fun _ => by kernel_rfl)
noncomputable abbrev LW : List Str := [Str.ofString "_twin_re_1", Str.ofString "_ver_stages"]
noncomputable abbrev RW : OpenRow := PySem.Challenge.rw_pe0098_01.row
set_option maxHeartbeats 8000000 in
theorem left : LeftO RW.prog hd.view_39 LW (fun s => xlAt hd.view_39 [] s && recOk (RowW.records RW.toRowW) s) (Hook.obs HK) (Hook.val HK) 1696 :=
  LeftO.of_split "special-get-raises" (fun w => by kernel_rfl)

set_option maxHeartbeats 8000000 in
theorem head (walk : ∀ d kwd, d.name = Str.ofString "law" → WalkR hd.view_39 LW (XL hd.view_39 []) (Hook.says HK) RW.toRowW d kwd) : PySem.Challenge.rw_pe0098_01.Holds := by
  have hdef : ∃ d kwd, defOf hd.view_39 RW.name = some (d, kwd) ∧ RW.prog.theDef RW.name = some (d.params, d.body, d.scope) ∧ kwWritten? d.params.kwonlyargs d.params.kw_defaults = some kwd := ⟨_, _, rfl, rfl, rfl⟩
  obtain ⟨d, kwd, h1, h2, h3⟩ := hdef
  have hn : d.name = Str.ofString "law" := defOf_name h1
  o_law
  refine holds_R (q := hd.view_39) (loose := LW) (Xt := fun s => xlAt hd.view_39 [] s && recOk (RowW.records RW.toRowW) s) (XP := XL hd.view_39 []) (Yf := Hook.obs HK) (Ya := Hook.val HK) (YP := Hook.says HK) (N := 1696)
    left (Hook.of HK) (Hook.keeps HK) (fun s e => xl_of s (Bool.and_eq_true_iff.mp e).1) XL.keeps h1 h2 h3 (fun s e => recFacts_of (Bool.and_eq_true_iff.mp e).2) rfl
    (by first | assumption | decide +kernel) (by decide +kernel) ⟨rfl, rfl, rfl, rfl, rfl, by decide +kernel⟩ ?hw (walk d kwd hn)
  case hw => w_witness2
end Mine
end

section
namespace Mine
open PySem PySem.W PyProof.Rows PySem.Calls
open Sem (wp)

theorem gr_of {w : World} {s₀ : Shared} {mg mb : Str → Option Value} {h : Heap} {R : WRecords} (G : Ground hd.view_39 LW R (XL hd.view_39 []) w s₀ mg mb h) (Y : (Hook.says HK) w h) : Gr w h ∧ h.TableAt 50 46 #[] := by
  have k : (KK w).In h := kIn_of Y
  have T := G.T
  have main : h.IsCode 50 46 #[] ∧ h.TableAt 50 46 #[] := ?tab
  refine ⟨⟨k, ⟨mg, T.g⟩, ⟨mb, T.b, T.builtins⟩, T.nolimit, T.nodigits, ⟨#[], main.1, main.2, .inl rfl⟩, ?_⟩, main.2⟩
  case tab =>
    have hm : ∃ d ∈ recsOf hd.view_39, d.name = Str.ofString "_platform" := by
      have h : ((recsOf hd.view_39).map (·.name)).contains (Str.ofString "_platform") = true := by decide +kernel
      obtain ⟨d, hd', e⟩ := List.mem_map.mp (List.contains_iff_mem.mp h)
      exact ⟨d, hd', e⟩
    obtain ⟨d, hd', hn⟩ := hm
    obtain ⟨a, o, fd, c, P, h1, h2, h3, h4, h5, h6⟩ := T.tab d hd'
    have e1 : mg (Str.ofString "_platform") = some (.ref 51) := mg_of k T.g rfl
    rw [hn, e1] at h1
    cases h1
    have e2 := k 51 _ (by rfl)
    rw [e2] at h2
    cases h2
    cases h3
    cases h4
    have e3 := k 50 _ (by rfl)
    have hP : P = 46 := by
      obtain ⟨o, vs, file, tf, flags, tg, inF, text, tt, op, q1, q2, q3, _⟩ := h5
      rw [e3] at q1
      cases q1
      cases q2
      cases q3
      rfl
    subst hP
    exact ⟨h5, h6⟩
  · obtain ⟨bm, ob, h1, _, h3, h4, h5, h6⟩ := T.bmain
    have e1 : mg (Str.ofString "__builtins__") = some (.ref 4) := mg_of k T.g rfl
    have h1' : mg (Str.ofString "__builtins__") = some (.ref bm) := h1
    rw [e1] at h1'
    cases h1'
    exact ⟨ob, h3, h4, h5, h6⟩

theorem ints_read {R : WRecords} {cl : Str → Option Addr} {h : Heap} : ∀ {vs : List Value} {xs : List WData} {as : List Addr}, ReadsAllW R cl h vs xs as → WShape.hasItems R xs .int = true → ∃ ns, IntsAre vs ns
  | _, _, _, .nil, _ => ⟨[], .nil⟩
  | _, _, _, .cons (d := d) hv hr, hx => by
    obtain ⟨h1, h2⟩ : WShape.has R d .int = true ∧ _ := by simpa [WShape.hasItems] using hx
    obtain ⟨i, rfl⟩ := hasW_int h1
    obtain ⟨ns, hn⟩ := ints_read hr h2
    cases hv with
    | int _ t => exact ⟨i :: ns, .cons i t hn⟩
theorem reads_len {R : WRecords} {cl : Str → Option Addr} {h : Heap} : ∀ {vs : List Value} {xs : List WData} {as : List Addr}, ReadsAllW R cl h vs xs as → vs.length = xs.length
  | _, _, _, .nil => rfl
  | _, _, _, .cons _ hr => congrArg (· + 1) (reads_len hr)

theorem at46 {w : World} {h : Heap} (g : Gr w h) : ∃ ps, h.TableAt 50 46 ps := let ⟨ps, _, t, _⟩ := g.tab; ⟨ps, t⟩

theorem law_walk (d : DefRec) (kwd : List (Str × PySem.Expr)) (hname : d.name = Str.ofString "law") : WalkR hd.view_39 LW (XL hd.view_39 []) (Hook.says HK) RW.toRowW d kwd := by
  intro w s₀ s₁ mg mb G Y a o pm cd doc dV kV ho hdt hcode hdf hmg hgens args vals as hpre hlay hrd hwell hsys
  obtain ⟨g, h46⟩ := gr_of G Y
  have e98 : mg (Str.ofString "law") = some (.ref 98) := mg_of g.k G.T.g rfl
  rw [hname, e98] at hmg
  cases hmg
  obtain ⟨hall, hholds⟩ := pre_splitW hpre
  obtain ⟨d1, r1, rfl, hd1, hr1⟩ := hasAllW_cons hall
  obtain rfl := hasAllW_nil hr1
  obtain ⟨xs, rfl, hxs⟩ := hasW_list hd1
  have hlen : xs.length ≤ 63 := by
    have h : WTm.holds [] (.and (.not (.lt (.lit (.int 63)) (.len (.arg 0)))) (.lit (.bool true))) { args := [.list xs] } = true := hholds
    simp only [WTm.holds, WTm.value] at h
    simp [less?, Num.less?] at h
    rcases Nat.lt_or_ge 63 xs.length with q | q
    · rw [show decide ((63 : Int) < (xs.length : Int)) = true from decide_eq_true (by omega)] at h
      simp at h
    · exact q
  obtain ⟨ax, vs, as', rfl, hax, hrds⟩ : ∃ ax vs as', vals = [.ref ax] ∧ s₁.heap.IsList ax vs.toArray ∧ ReadsAllW RW.toRowW.records (classAt s₀.heap) s₁.heap vs xs as' := by
    cases hrd with
    | cons hv hr =>
      cases hr with
      | nil =>
        cases hv with
        | list h1 h2 h3 h4 => exact ⟨_, _, _, rfl, ⟨_, h1, h2, _, by rw [h3]⟩, h4⟩
  obtain ⟨ns, hns⟩ := ints_read hrds hxs
  have hne : ax ≠ 46 := fun z => by
    obtain ⟨o, h1, h2, _⟩ := hax
    rw [z, h46.2] at h1
    cases h1
    cases h2
  refine R.mono (law_true (E := fun _ _ => False) (Q := fun v s' => v = .bool true ∧ ∃ env F l cm, LS w s₁ env F l cm s') g rfl (by decide) (by rw [hgens]; exact AllBare.empty) rfl (by decide) hax hne hns (by rw [reads_len hrds]; exact hlen) fun s' env F l cm ls => ⟨rfl, env, F, l, cm, ls⟩) (fun v s' q => ?_) fun _ _ z => z.elim
  obtain ⟨rfl, env, F, l, cm, ls⟩ := q
  obtain ⟨ps', h46'⟩ := at46 ls.gr.unrid
  refine ⟨.inl ⟨_, .bool true, [], rfl, fun _ => rfl, .bool _, ?_, fun _ => ⟨.nil, by simp⟩⟩, ?_, ls.os, ls.bare⟩
  · kernel_rfl
  · refine ⟨fun b o e => ?_, fun b o e => ?_⟩
    · by_cases hb : b = 46
      · subst hb
        rw [h46.2] at e
        cases e
        exact .inr (.inl ⟨h46.isCodeTable, rfl, #[], ps', rfl, by rw [h46'.2]; simp⟩)
      · exact .inl (ls.old b o hb e)
    · by_cases hb : b = 46
      · subst hb
        exact ⟨_, h46'.2⟩
      · exact ⟨o, ls.old b o hb e⟩

theorem all_holds : PySem.Challenge.rw_pe0098_01.Holds := head law_walk
end Mine
end

theorem PySem.Challenge.cw_pe0098_01_holds : PySem.Challenge.rw_pe0098_01.Holds := by
  exact Mine.all_holds

